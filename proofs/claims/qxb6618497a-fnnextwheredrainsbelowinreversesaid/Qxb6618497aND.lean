/-
  The walk of the law 'FnNextWhereDrainsBelowInReverse'.
-/
import Derived.Test.Qxb6618497aNC
namespace Go.Proofs.Qxb6618497a
open Go.RowKit

theorem info21' : (Try.prog.info? 21).map (fun i => (i.zero, i.size, i.bytes)) = some (some (.int .i32 0), 1, 4) := by kernel_rfl

/-- Of the first k elements those below lim, in their order. -/
def kept (Z : Nat → Int) (lim : Int) : Nat → List Int
  | 0 => []
  | n + 1 => if Z n < lim then kept Z lim n ++ [Z n] else kept Z lim n

theorem kept_le (Z : Nat → Int) (lim : Int) : ∀ k, (kept Z lim k).length ≤ k
  | 0 => Nat.le_refl _
  | n + 1 => by
    have := kept_le Z lim n
    by_cases h : Z n < lim
    · simp [kept, h]; omega
    · simp [kept, h]; omega
theorem kept_hit {Z : Nat → Int} {lim : Int} {k : Nat} (h : Z k < lim) : kept Z lim (k + 1) = kept Z lim k ++ [Z k] := by simp [kept, h]
theorem kept_miss {Z : Nat → Int} {lim : Int} {k : Nat} (h : ¬ Z k < lim) : kept Z lim (k + 1) = kept Z lim k := by simp [kept, h]
theorem kept_more (Z : Nat → Int) (lim : Int) {p : Nat} : ∀ {n : Nat}, p ≤ n → ∃ r, kept Z lim n = kept Z lim p ++ r
  | 0, h => ⟨[], by rw [show p = 0 by omega]; rfl⟩
  | n + 1, h => by
    rcases Nat.lt_or_ge p (n + 1) with q | q
    · obtain ⟨r, hr⟩ := kept_more Z lim (show p ≤ n by omega)
      by_cases hz : Z n < lim
      · exact ⟨r ++ [Z n], by rw [kept_hit hz, hr, List.append_assoc]⟩
      · exact ⟨r, by rw [kept_miss hz, hr]⟩
    · exact ⟨[], by rw [show p = n + 1 by omega, List.append_nil]⟩
theorem kept_last {Z : Nat → Int} {lim : Int} : ∀ {p i : Nat}, lastBelow Z lim p = some i → kept Z lim p = kept Z lim i ++ [Z i]
  | 0, _, h => by cases h
  | p + 1, i, h => by
    by_cases hz : Z p < lim
    · simp [lastBelow, hz] at h; subst h; exact kept_hit hz
    · simp [lastBelow, hz] at h; rw [kept_miss hz]; exact kept_last h
theorem kept_none {Z : Nat → Int} {lim : Int} : ∀ {p : Nat}, lastBelow Z lim p = none → kept Z lim p = []
  | 0, _ => rfl
  | p + 1, h => by
    by_cases hz : Z p < lim
    · simp [lastBelow, hz] at h
    · simp [lastBelow, hz] at h; rw [kept_miss hz]; exact kept_none h
/-- The element that is handed out is the one that the law has laid at the count below. -/
theorem kept_elem {Z : Nat → Int} {lim : Int} {p i n : Nat} (h : lastBelow Z lim p = some i) (hn : p ≤ n) :
    (kept Z lim p).length = (kept Z lim i).length + 1 ∧ (kept Z lim i).length < (kept Z lim n).length ∧ (kept Z lim n)[(kept Z lim i).length]? = some (Z i) := by
  have e := kept_last h
  obtain ⟨r, hr⟩ := kept_more Z lim hn
  refine ⟨by rw [e]; simp, by rw [hr, e]; simp, ?_⟩
  rw [hr, e]
  simp

set_option maxHeartbeats 400000 in
theorem bytesDrain (a : Option Addr) (n c : Nat) (lim : Int) (w : World) (h0 : n ≤ maxLen) {r : Bool} (hr : decide (n ≤ 1048576) = r) :
    Calls Try.prog 11 #[.slice a n c, .int .i32 lim] w fun e w' => e = .returned (.bool r) ∧ w' = w := by
  unfold maxLen at h0
  subst hr
  go_enter Try.func11, Try.ntmps11
  go_wp2
  all_goals
    go_ret
    refine ⟨?_, rfl⟩
    first | (rw [decide_eq_false (p := n ≤ 1048576) (by omega)]; rfl) | (rw [decide_eq_true (p := n ≤ 1048576) (by omega)]; rfl)

set_option maxHeartbeats 1000000 in
theorem drains_out (a : Option Addr) (n c : Nat) (lim : Int) (w : World) (h0 : n ≤ maxLen) (h : 262144 < n) :
    Calls Try.prog 5 #[.slice a n c, .int .i32 lim] w fun e w' => e = .returned (.bool true) ∧ Below w.heap.size w w' := by
  by_cases hz : n ≤ 1048576
  · have HB : Hid (decide (n ≤ 1048576) = true) := decide_eq_true hz
    unfold maxLen at h0
    go_enter Try.func5, Try.ntmps5
    go_wp2_with fail
    refine (bytesDrain a n c lim w (by unfold maxLen; omega) HB.out).mono ?_
    rintro e wx ⟨rfl, hwx⟩
    subst wx
    go_wp2_with fail
    go_ret
    exact ⟨rfl, Below.refl _ _⟩
  · have HB : Hid (decide (n ≤ 1048576) = false) := decide_eq_false hz
    unfold maxLen at h0
    go_enter Try.func5, Try.ntmps5
    go_wp2_with fail
    refine (bytesDrain a n c lim w (by unfold maxLen; omega) HB.out).mono ?_
    rintro e wx ⟨rfl, hwx⟩
    subst wx
    go_wp2_with fail
    go_ret
    exact ⟨rfl, Below.refl _ _⟩

/-- What the gathering loop keeps true: the made row holds what was kept of the first k. -/
structure Gath (w wr : World) (n k : Nat) (Z : Nat → Int) (lim : Int) : Prop where
  own : wr.ownsRow w.heap.size 21 1 (.slice (some ⟨w.heap.size, 0, none⟩) (kept Z lim k).length n) (kept Z lim k).length ((kept Z lim k).map (Value.int .i32))
  below : Below w.heap.size w wr

theorem Gath.cell {w wr : World} {n k : Nat} {Z : Nat → Int} {lim : Int} (g : Gath w wr n k Z lim) {j : Nat} {x : Int} (hj : (kept Z lim k)[j]? = some x) : wr.cell? ⟨w.heap.size, j, none⟩ = some (.int .i32 x) := by
  have hl : j < (kept Z lim k).length := by
    rcases Nat.lt_or_ge j (kept Z lim k).length with q | q
    · exact q
    · rw [List.getElem?_eq_none q] at hj; cases hj
  rw [g.own.cellAt j (by omega), List.getElem?_map, hj]
  rfl

/-- What is left of the queue, in the variable behind W5's memory. -/
structure Left (W5 wz : World) (b o p c : Nat) : Prop where
  below : Below W5.heap.size W5 wz
  cell : wz.cell? ⟨W5.heap.size, 0, none⟩ = some (.slice (some ⟨b, o, none⟩) p c)
  frozen : wz.frozen? ⟨W5.heap.size, 0, none⟩ = false

theorem left_start (W5 : World) (b o p c : Nat) : Left W5 (W5.alloc (.cells #[.slice (some ⟨b, o, none⟩) p c] 22)) b o p c :=
  ⟨(Below.refl _ _).alloc (Nat.le_refl _) _, by go_simp, by go_simp⟩

set_option maxHeartbeats 1000000 in
theorem drains_some (b o n c : Nat) (lim : Int) (Z : Nat → Int) (w : World) (h0 : 0 < n) (hn : n ≤ 262144) (hnc : n ≤ c) (hz : ∀ i, i < n → w.cell? ⟨b, o + i, none⟩ = some (.int .i32 (Z i))) :
    Calls Try.prog 5 #[.slice (some ⟨b, o, none⟩) n c, .int .i32 lim] w fun e w' => e = .returned (.bool true) ∧ Below w.heap.size w w' := by
  have HB : Hid (decide (n ≤ 1048576) = true) := decide_eq_true (by omega)
  have hb : b < w.heap.size := block_lt (hz 0 h0)
  have HZ : Hid (∀ i, i < n → w.cell? ⟨b, o + i, none⟩ = some (.int .i32 (Z i))) := hz
  clear hz
  obtain ⟨i0, hi, hz0, hz1, hz2⟩ := info_parts info21'
  go_enter Try.func5, Try.ntmps5
  go_wp2_with fail
  refine (bytesDrain _ n c lim w (by unfold maxLen; omega) HB.out).mono ?_
  rintro e wx ⟨rfl, hwx⟩
  subst wx
  go_wp2_with (at_make; refine wpList_make_own _ rfl _ _ 22 rfl w.heap.size 21 i0 (.int .i32 0) 1 Try.underlying22 hi hz0 hz1 .i64 .i64 _ n rfl rfl rfl (by rw [hz2]; omega) (by unfold maxLen; omega) (Nat.le_refl _) ?_)
  intro W1 hown1 hgrow1
  have HG : Hid (Gath w W1 n 0 Z lim) := ⟨hown1, (Below.refl _ w).grown hgrow1 (Nat.le_refl _) (fun k e => by cases e)⟩
  clear hown1 hgrow1
  go_wp2_with fail
  go_loopw [5, 6] (fun v j wr => ∃ k : Nat, k ≤ n ∧ j = .int .i64 k ∧ v = .slice (some ⟨w.heap.size, 0, none⟩) (kept Z lim k).length n ∧ Gath w wr n k Z lim) (fun _ j _ => n - (intOf j).toNat)
  case atStart => exact ⟨0, Nat.zero_le _, rfl, rfl, HG.out⟩
  case round =>
    obtain ⟨k, hk, rfl, rfl, hg⟩ := hrel
    have HG1 : Hid (Gath w wr n k Z lim) := hg
    have hkl := kept_le Z lim k
    clear hg HG
    by_cases hlt : k < n
    · have d : wr.cell? ⟨b, o + k, none⟩ = some (.int .i32 (Z k)) := (HG1.out.below.cell (p := ⟨b, o + k, none⟩) hb).trans (HZ.out k hlt)
      by_cases hd : Z k < lim
      · go_wp2_with (at_builtin; refine wpList_append_fits _ rfl (.tmp 36) (.tmp 41) 22 rfl w.heap.size 21 i0 1 Try.underlying22 hi hz1 w.heap.size (kept Z lim k).length n _ rfl (HG1.out.own.alloc _) ⟨wr.heap.size, 0, none⟩ 1 1 [.int .i32 (Z k)] rfl rfl ?c1 ?c2 (by omega) ?_)
        case c1 =>
          intro j u hj
          match j, hj with
          | 0, hj => simp at hj; subst hj; simp [Addr.add]
        case c2 => intro u hu; simp at hu; subst hu; rfl
        intro w2 hown2 hgrow2
        have HG2 : Hid (Gath w w2 n (k + 1) Z lim) := by
          refine ⟨?_, (HG1.out.below.alloc HG1.out.below.size _).grown hgrow2 (by have := HG1.out.below.size; simp; omega) (fun g e => by cases e; exact Nat.le_refl _)⟩
          rw [kept_hit hd]
          simpa using hown2
        have HL : Hid ((kept Z lim (k + 1)).length = (kept Z lim k).length + 1) := by show _ = _; rw [kept_hit hd]; simp
        clear hown2 hgrow2
        go_wp2_with fail
        go_roundw
        case rel => exact ⟨k + 1, by omega, by go_num, by rw [HL.out], HG2.out⟩
        case measure => simp [intOf]; omega
      · have hd' : decide (Z k < lim) = false := by simpa using hd
        have HG2 : Hid (Gath w wr n (k + 1) Z lim) := by
          refine ⟨?_, HG1.out.below⟩
          rw [kept_miss hd]
          exact HG1.out.own
        have HL : Hid ((kept Z lim (k + 1)).length = (kept Z lim k).length) := by show _ = _; rw [kept_miss hd]
        go_wp2_with fail
        go_roundw
        case rel => exact ⟨k + 1, by omega, by go_num, by rw [HL.out], HG2.out⟩
        case measure => simp [intOf]; omega
    · obtain rfl : k = n := by omega
      go_wp2_with fail
      generalize wr = W5 at *
      have hw5 : w.heap.size ≤ W5.heap.size := HG1.out.below.size
      have HE : Hid (∀ i, i < k → W5.cell? ⟨b, o + i, none⟩ = some (.int .i32 (Z i))) := fun i hi => (HG1.out.below.cell (p := ⟨b, o + i, none⟩) hb).trans (HZ.out i hi)
      have HS : Hid (Left W5 (W5.alloc (.cells #[.slice (some ⟨b, o, none⟩) k c] 22)) b o k c) := left_start _ _ _ _ _
      go_loopw [8] (fun cc wz => ∃ p : Nat, p ≤ k ∧ cc = .int .i64 (((kept Z lim p).length : Int) - 1) ∧ Left W5 wz b o p c) (fun cc _ => (intOf cc + 1).toNat)
      case atStart => exact ⟨k, Nat.le_refl _, rfl, HS.out⟩
      case round =>
        obtain ⟨p, hp, rfl, hs⟩ := hrel
        have HS1 : Hid (Left W5 wr b o p c) := hs
        have hpl := kept_le Z lim p
        have hq : W5.heap.size < wr.heap.size := block_lt hs.cell
        have HE1 : Hid (Elems wr (some ⟨b, o, none⟩) p Z) := Or.inr ⟨b, o, rfl, fun i hi => (hs.below.cell (p := ⟨b, o + i, none⟩) (Nat.lt_of_lt_of_le hb hw5)).trans (HE.out i (by omega))⟩
        have c0 := hs.cell
        clear hs HS
        cases hl : lastBelow Z lim p with
        | none =>
          have HN : Hid (nextVal Z lim p = 0 ∧ nextOk Z lim p = false ∧ nextLen Z lim p = 0) := next_none (by rw [hl]; rfl)
          have he : (kept Z lim p).length = 0 := by rw [kept_none hl]; rfl
          clear hl
          go_wp2_with fail
          refine (zzNext W5.heap.size p c (some ⟨b, o, none⟩) lim Z wr (by omega) (by omega) hq HS1.out.cell HS1.out.frozen HE1.out).mono ?_
          rintro e w1 ⟨rfl, hpop⟩
          have HP : Hid (Below W5.heap.size W5 w1) := HS1.out.below.trans hpop.below
          have d := hpop.cell
          rw [HN.out.2.2] at d
          rw [HN.out.1, HN.out.2.1]
          clear hpop c0
          go_wp2_with fail
          go_ret
          exact ⟨rfl, HG1.out.below.trans (HP.out.mono hw5)⟩
        | some i =>
          obtain ⟨hi1, _⟩ := lastBelow_lt hl
          have HN : Hid (nextVal Z lim p = Z i ∧ nextOk Z lim p = true ∧ nextLen Z lim p = i) := by simp [Hid, nextVal, nextOk, nextLen, hl]
          obtain ⟨ke1, ke2, ke3⟩ := kept_elem hl hp
          have HK : Hid ((kept Z lim k)[(kept Z lim i).length]? = some (Z i)) := ke3
          rw [ke1]
          have ecc : (((kept Z lim i).length + 1 : Nat) : Int) - 1 = ((kept Z lim i).length : Int) := by omega
          rw [ecc]
          clear hl ke3 ecc ke1
          have hli : ((kept Z lim i).length : Int) < ((kept Z lim k).length : Int) := by omega
          go_wp2_with fail
          refine (zzNext W5.heap.size p c (some ⟨b, o, none⟩) lim Z wr (by omega) (by omega) hq HS1.out.cell HS1.out.frozen HE1.out).mono ?_
          rintro e w1 ⟨rfl, hpop⟩
          have HP : Hid (Left W5 w1 b o i c) := ⟨HS1.out.below.trans hpop.below, by have := hpop.cell; rw [HN.out.2.2] at this; exact this, hpop.frozen⟩
          have d := HP.out.cell
          have dk : w1.cell? ⟨w.heap.size, (kept Z lim i).length, none⟩ = some (.int .i32 (Z i)) := (HP.out.below.cell (p := ⟨w.heap.size, (kept Z lim i).length, none⟩) (block_lt (HG1.out.cell HK.out))).trans (HG1.out.cell HK.out)
          rw [HN.out.1, HN.out.2.1]
          clear hpop c0
          have hip : (i : Int) < (p : Int) := by omega
          go_wp2_with fail
          go_roundw
          case rel => exact ⟨i, by omega, by go_num, HP.out⟩
          case measure => simp [intOf]

set_option maxHeartbeats 1000000 in
theorem drains_zero (a : Option Addr) (c : Nat) (lim : Int) (w : World) :
    Calls Try.prog 5 #[.slice a 0 c, .int .i32 lim] w fun e w' => e = .returned (.bool true) ∧ Below w.heap.size w w' := by
  obtain ⟨i0, hi, hz0, hz1, hz2⟩ := info_parts info21'
  go_enter Try.func5, Try.ntmps5
  go_wp2_with fail
  refine (bytesDrain a 0 c lim w (by unfold maxLen; omega) (r := true) rfl).mono ?_
  rintro e wx ⟨rfl, hwx⟩
  subst wx
  go_wp2_with (at_make; refine wpList_make_own _ rfl _ _ 22 rfl w.heap.size 21 i0 (.int .i32 0) 1 Try.underlying22 hi hz0 hz1 .i64 .i64 _ 0 rfl rfl rfl (by omega) (by unfold maxLen; omega) (Nat.le_refl _) ?_)
  intro W1 _ hgrow1
  have HG : Hid (Below w.heap.size w W1) := (Below.refl _ w).grown hgrow1 (Nat.le_refl _) (fun k e => by cases e)
  clear hgrow1
  go_wp2_with fail
  go_loopw [5, 6] (fun v j wr => j = .int .i64 0 ∧ v = .slice (some ⟨w.heap.size, 0, none⟩) 0 0 ∧ wr = W1) (fun _ j _ => (intOf j).toNat)
  case atStart => exact ⟨rfl, rfl, rfl⟩
  case round =>
    obtain ⟨rfl, rfl, rfl⟩ := hrel
    go_wp2_with fail
    generalize wr = W5 at *
    go_loopw [8] (fun cc wz => cc = .int .i64 (-1) ∧ wz = W5.alloc (.cells #[.slice a 0 c] 22)) (fun cc _ => (intOf cc + 1).toNat)
    case atStart => exact ⟨rfl, rfl⟩
    case round =>
      obtain ⟨rfl, rfl⟩ := hrel
      go_wp2_with fail
      refine (zzNext W5.heap.size 0 c a lim (fun _ => 0) _ (by omega) (by omega) (by simp) (by go_simp) (by go_simp) (Or.inl rfl)).mono ?_
      rintro e w1 ⟨rfl, hp⟩
      have HP : Hid (Below W5.heap.size W5 w1) := ((Below.refl _ W5).alloc (Nat.le_refl _) _).trans hp.below
      have d := hp.cell
      obtain ⟨n1, n2, n3⟩ := next_none (Z := fun _ => 0) (lim := lim) (n := 0) rfl
      rw [n3] at d
      rw [n1, n2]
      clear hp n1 n2 n3
      go_wp2_with fail
      go_ret
      exact ⟨rfl, HG.out.trans (HP.out.mono HG.out.size)⟩
end Go.Proofs.Qxb6618497a
