/-
  The walk of the law 'FnNextWhereTakesLastBelow'.
-/
import Derived.Test.Qxb6618497aNB
namespace Go.Proofs.Qxb6618497a
open Go.RowKit

/-- The law's own 'last' behind k elements. -/
def lastIdx (Z : Nat → Int) (lim : Int) (k : Nat) : Int := match lastBelow Z lim k with | some i => (i : Int) | none => -1

theorem lastIdx_hit {Z : Nat → Int} {lim : Int} {k : Nat} (h : Z k < lim) : lastIdx Z lim (k + 1) = (k : Int) := by simp [lastIdx, lastBelow, h]
theorem lastIdx_miss {Z : Nat → Int} {lim : Int} {k : Nat} (h : ¬ Z k < lim) : lastIdx Z lim (k + 1) = lastIdx Z lim k := by simp [lastIdx, lastBelow, h]
theorem lastBelow_lt {Z : Nat → Int} {lim : Int} : ∀ {n i : Nat}, lastBelow Z lim n = some i → i < n ∧ Z i < lim
  | 0, _, h => by cases h
  | n + 1, i, h => by
    by_cases hz : Z n < lim
    · simp [lastBelow, hz] at h; subst h; exact ⟨Nat.lt_succ_self _, hz⟩
    · simp [lastBelow, hz] at h; have := lastBelow_lt h; exact ⟨Nat.lt_succ_of_lt this.1, this.2⟩

set_option maxHeartbeats 1000000 in
theorem takes_out (a : Option Addr) (n c : Nat) (lim : Int) (w : World) (h0 : n ≤ maxLen) (h : 262144 < n) :
    Calls Try.prog 4 #[.slice a n c, .int .i32 lim] w fun e w' => e = .returned (.bool true) ∧ Below w.heap.size w w' := by
  by_cases hz : n ≤ 1048576
  · have HB : Hid (decide (n ≤ 1048576) = true) := decide_eq_true hz
    unfold maxLen at h0
    go_enter Try.func4, Try.ntmps4
    go_wp2_with fail
    refine (bytesNext a n c lim w (by unfold maxLen; omega) HB.out).mono ?_
    rintro e wx ⟨rfl, hwx⟩
    subst wx
    go_wp2_with fail
    go_ret
    exact ⟨rfl, Below.refl _ _⟩
  · have HB : Hid (decide (n ≤ 1048576) = false) := decide_eq_false hz
    unfold maxLen at h0
    go_enter Try.func4, Try.ntmps4
    go_wp2_with fail
    refine (bytesNext a n c lim w (by unfold maxLen; omega) HB.out).mono ?_
    rintro e wx ⟨rfl, hwx⟩
    subst wx
    go_wp2_with fail
    go_ret
    exact ⟨rfl, Below.refl _ _⟩

set_option maxHeartbeats 1000000 in
theorem takes_zero (a : Option Addr) (c : Nat) (lim : Int) (w : World) :
    Calls Try.prog 4 #[.slice a 0 c, .int .i32 lim] w fun e w' => e = .returned (.bool true) ∧ Below w.heap.size w w' := by
  go_enter Try.func4, Try.ntmps4
  go_wp2_with fail
  refine (bytesNext a 0 c lim w (by unfold maxLen; omega) (r := true) rfl).mono ?_
  rintro e wx ⟨rfl, hwx⟩
  subst wx
  go_wp2_with fail
  go_loop [5, 6] (fun l j => j = .int .i64 0 ∧ l = .int .i64 (-1)) (fun _ j => (intOf j).toNat)
  case atStart => exact ⟨rfl, rfl⟩
  case round =>
    obtain ⟨rfl, rfl⟩ := hrel
    go_wp2_with fail
    refine (zzNext w.heap.size 0 c a lim (fun _ => 0) _ (by omega) (by omega) (by simp) (by go_simp) (by go_simp) (Or.inl rfl)).mono ?_
    rintro e w1 ⟨rfl, hp⟩
    have HP : Hid (Popped w.heap.size (.slice a (nextLen (fun _ => 0) lim 0) c) (w.alloc (.cells #[.slice a 0 c] 22)) w1) := hp
    have d := hp.cell
    obtain ⟨n1, n2, n3⟩ := next_none (Z := fun _ => 0) (lim := lim) (n := 0) rfl
    rw [n3] at d
    rw [n1, n2]
    clear hp n1 n2 n3
    go_wp2_with fail
    go_ret
    exact ⟨rfl, ((Below.refl _ w).alloc (Nat.le_refl _) _).trans HP.out.below⟩

set_option maxHeartbeats 1000000 in
theorem takes_some (b o n c : Nat) (lim : Int) (Z : Nat → Int) (w : World) (h0 : 0 < n) (hn : n ≤ 262144) (hnc : n ≤ c) (hz : ∀ i, i < n → w.cell? ⟨b, o + i, none⟩ = some (.int .i32 (Z i))) :
    Calls Try.prog 4 #[.slice (some ⟨b, o, none⟩) n c, .int .i32 lim] w fun e w' => e = .returned (.bool true) ∧ Below w.heap.size w w' := by
  have HB : Hid (decide (n ≤ 1048576) = true) := decide_eq_true (by omega)
  have hb : b < w.heap.size := block_lt (hz 0 h0)
  have HZ : Hid (∀ i, i < n → w.cell? ⟨b, o + i, none⟩ = some (.int .i32 (Z i))) := hz
  clear hz
  go_enter Try.func4, Try.ntmps4
  go_wp2_with fail
  refine (bytesNext _ n c lim w (by unfold maxLen; omega) HB.out).mono ?_
  rintro e wx ⟨rfl, hwx⟩
  subst wx
  go_wp2_with fail
  go_loop [5, 6] (fun l j => ∃ k : Nat, k ≤ n ∧ j = .int .i64 k ∧ l = .int .i64 (lastIdx Z lim k)) (fun _ j => n - (intOf j).toNat)
  case atStart => exact ⟨0, Nat.zero_le _, rfl, rfl⟩
  case round =>
    obtain ⟨k, hk, rfl, rfl⟩ := hrel
    by_cases hlt : k < n
    · have d := HZ.out k hlt
      by_cases hd : Z k < lim
      · have HI : Hid (lastIdx Z lim (k + 1) = (k : Int)) := lastIdx_hit hd
        go_wp2_with fail
        go_round
        case rel => exact ⟨k + 1, by omega, by go_num, by rw [HI.out]⟩
        case measure => simp [intOf]; omega
      · have HI : Hid (lastIdx Z lim (k + 1) = lastIdx Z lim k) := lastIdx_miss hd
        have hd' : decide (Z k < lim) = false := by simpa using hd
        go_wp2_with fail
        go_round
        case rel => exact ⟨k + 1, by omega, by go_num, by rw [HI.out]⟩
        case measure => simp [intOf]; omega
    · obtain rfl : k = n := by omega
      have HE : Hid (∀ i, i < k → (w.alloc (.cells #[.slice (some ⟨b, o, none⟩) k c] 22)).cell? ⟨b, o + i, none⟩ = some (.int .i32 (Z i))) := fun i hi => by
        rw [World.cell?_of_block (w := w) (Below.heap_alloc w _ _ hb)]; exact HZ.out i hi
      cases hl : lastBelow Z lim k with
      | none =>
        obtain ⟨n1, n2, n3⟩ := next_none (Z := Z) (lim := lim) (n := k) (by rw [hl]; rfl)
        have HN : Hid (nextVal Z lim k = 0 ∧ nextOk Z lim k = false ∧ nextLen Z lim k = 0) := ⟨n1, n2, n3⟩
        have hx : lastIdx Z lim k = -1 := by simp [lastIdx, hl]
        rw [hx]
        clear n1 n2 n3 hl hx
        go_wp2_with fail
        refine (zzNext w.heap.size k c (some ⟨b, o, none⟩) lim Z _ hn hnc (by simp) (by go_simp) (by go_simp) (Or.inr ⟨b, o, rfl, HE.out⟩)).mono ?_
        rintro e w1 ⟨rfl, hp⟩
        have HP : Hid (Popped w.heap.size (.slice (some ⟨b, o, none⟩) (nextLen Z lim k) c) (w.alloc (.cells #[.slice (some ⟨b, o, none⟩) k c] 22)) w1) := hp
        have d := hp.cell
        rw [HN.out.2.2] at d
        rw [HN.out.1, HN.out.2.1]
        clear hp
        go_wp2_with fail
        go_ret
        exact ⟨rfl, ((Below.refl _ w).alloc (Nat.le_refl _) _).trans HP.out.below⟩
      | some i =>
        obtain ⟨hi, hil⟩ := lastBelow_lt hl
        have HN : Hid (nextVal Z lim k = Z i ∧ nextOk Z lim k = true ∧ nextLen Z lim k = i) := by simp [Hid, nextVal, nextOk, nextLen, hl]
        have hx : lastIdx Z lim k = (i : Int) := by simp [lastIdx, hl]
        rw [hx]
        clear hl hx hil
        go_wp2_with fail
        refine (zzNext w.heap.size k c (some ⟨b, o, none⟩) lim Z _ hn hnc (by simp) (by go_simp) (by go_simp) (Or.inr ⟨b, o, rfl, HE.out⟩)).mono ?_
        rintro e w1 ⟨rfl, hp⟩
        have HP : Hid (Below w.heap.size w w1) := ((Below.refl _ w).alloc (Nat.le_refl _) _).trans hp.below
        have d := hp.cell
        rw [HN.out.2.2] at d
        rw [HN.out.1, HN.out.2.1]
        have HW : Hid (∀ i, i < k → w1.cell? ⟨b, o + i, none⟩ = some (.int .i32 (Z i))) := fun j hj => (HP.out.cell (p := ⟨b, o + j, none⟩) hb).trans (HZ.out j hj)
        have di := HW.out i hi
        have hik : (i : Int) < (k : Int) := by omega
        clear hp
        go_wp2_with fail
        clear di
        go_loopw [10] (fun j wr => ∃ t q : Nat, t ≤ i ∧ j = .int .i64 t ∧ wr = w1.drewN q) (fun j _ => i - (intOf j).toNat)
        case atStart => exact ⟨0, 0, Nat.zero_le _, rfl, rfl⟩
        case round =>
          obtain ⟨t, q, ht, rfl, rfl⟩ := hrel
          by_cases hlt2 : t < i
          · have dt := HW.out t (by omega)
            have ht1 : (t : Int) < (i : Int) := by omega
            have ht2 : (t : Int) < (k : Int) := by omega
            go_wp2_with fail
            go_quiet (fail)
            go_wp2_with fail
            go_roundw
            case rel => exact ⟨t + 1, q + nq, by omega, by go_num, by first | rfl | exact World.drewN_drewN ..⟩
            case measure => simp [intOf]; omega
          · go_wp2_with fail
            go_ret
            exact ⟨rfl, ⟨HP.out.os, HP.out.tape, HP.out.output, HP.out.size, HP.out.block⟩⟩
end Go.Proofs.Qxb6618497a
