/-
  The walk of the law 'FnSummedByTilesRows'.
-/
import Derived.Test.Qxb6618497aSA
namespace Go.Proofs.Qxb6618497a
open Go.RowKit

theorem info21 : (Try.prog.info? 21).map (fun i => (i.zero, i.size, i.bytes)) = some (some (.int .i32 0), 1, 4) := by kernel_rfl
theorem size21 : (Try.prog.info? 21).map (·.size) = some 1 := by kernel_rfl

theorem bytesTwo_is (a0 a1 : Option Addr) (n0 c0 n1 c1 : Nat) (w : World) {r : Bool} (h0 : n0 ≤ maxLen) (h1 : n1 ≤ maxLen) (hr : decide (n0 + n1 ≤ 1048576) = r) :
    Calls Try.prog 7 #[.slice a0 n0 c0, .slice a1 n1 c1] w fun e w' => e = .returned (.bool r) ∧ w' = w := by
  rw [← hr]
  exact bytesTwo a0 a1 n0 c0 n1 c1 w h0 h1

/-- The cells of a row of n numbers. -/
def cellsOf (n : Nat) (Z : Nat → Int) : List Value := (List.range n).map fun i => .int .i32 (Z i)
/-- Block g holds the n numbers Z from its head on. -/
structure Row (w : World) (g n : Nat) (Z : Nat → Int) : Prop where
  lt : g < w.heap.size
  cell : ∀ i, i < n → w.cell? ⟨g, i, none⟩ = some (.int .i32 (Z i))

theorem Row.below {w w' : World} {g n B : Nat} {Z : Nat → Int} (h : Row w g n Z) (k : Below B w w') (hB : g < B) : Row w' g n Z :=
  ⟨Nat.lt_of_lt_of_le h.lt k.size, fun i hi => (k.cell (p := ⟨g, i, none⟩) hB).trans (h.cell i hi)⟩
theorem Row.drewN {w : World} {g n : Nat} {Z : Nat → Int} (h : Row w g n Z) (q : Nat) : Row (w.drewN q) g n Z := ⟨h.lt, h.cell⟩

theorem row_of_heap {w : World} {g n : Nat} {Z : Nat → Int} {t : TypeId} (h : w.heap[g]? = some (.cells (cellsOf n Z).toArray t (0, 0))) : Row w g n Z := by
  refine ⟨?_, fun i hi => ?_⟩
  · rcases Nat.lt_or_ge g w.heap.size with h1 | h1
    · exact h1
    · rw [Array.getElem?_eq_none h1] at h; cases h
  · simp [World.cell?, h, cellsOf, hi]

theorem block_lt {w : World} {p : Addr} {v : Value} (h : w.cell? p = some v) : p.block < w.heap.size := by
  rcases Nat.lt_or_ge p.block w.heap.size with h1 | h1
  · exact h1
  · have e : w.heap[p.block]? = none := Array.getElem?_eq_none h1
    simp [World.cell?, e] at h

theorem cellsOf_length (n : Nat) (Z : Nat → Int) : (cellsOf n Z).length = n := by simp [cellsOf]

/-- A row made and copied into from a slice that holds Z. -/
theorem copy_fresh (w : World) (x : Addr) (c n : Nat) (Z : Nat → Int) (hc : ∀ i, i < n → w.cell? (x.add i) = some (.int .i32 (Z i))) :
    ∃ W2, (Builtin.copy_ #[22, 22] 3 #[.slice (some ⟨w.heap.size, 0, none⟩) n n, .slice (some x) n c]).run Try.prog (w.alloc (.cells (madeCells #[.int .i32 0] n) 21)) = .ok (.int .i64 n) W2 ∧
      Row W2 w.heap.size n Z ∧ Below w.heap.size w W2 := by
  have hg : (w.alloc (.cells (madeCells #[.int .i32 0] n) 21)).heap[w.heap.size]? = some (.cells (madeCells #[.int .i32 0] n) 21 (0, 0)) := by
    show (w.heap.push _)[w.heap.size]? = _
    simp
  have hlen : (madeCells #[Value.int .i32 0] n).size = n := by simp [madeCells]
  have h := run_copy_row (P := Try.prog) (w.alloc (.cells (madeCells #[.int .i32 0] n) 21)) 22 22 3 21 w.heap.size 0 n n x n c
    (madeCells #[.int .i32 0] n) 21 (cellsOf n Z) Try.underlying22 size21 hg (by rw [cellsOf_length]; exact (Nat.min_self _).symm)
    (by
      intro j v hv
      have hj : j < n := by
        rcases Nat.lt_or_ge j n with q | q
        · exact q
        · rw [List.getElem?_eq_none (by rw [cellsOf_length]; exact q)] at hv; cases hv
      have e := hc j hj
      rw [World.cell?_of_block (w := w) (Below.heap_alloc w _ _ (block_lt e)), e, ← hv]
      simp [cellsOf, hj])
    (by rw [hlen, cellsOf_length]; omega) (by intro v hv; simp [cellsOf] at hv; obtain ⟨n, _, rfl⟩ := hv; rfl)
  have e2 : ((madeCells #[Value.int .i32 0] n).toList.take 0 ++ cellsOf n Z ++ (madeCells #[Value.int .i32 0] n).toList.drop (0 + (cellsOf n Z).length)) = cellsOf n Z := by
    rw [List.take_zero, List.nil_append, List.drop_of_length_le (by rw [Array.length_toList, hlen, cellsOf_length]; omega), List.append_nil]
  rw [e2, cellsOf_length] at h
  refine ⟨_, h, row_of_heap (setRow_heap _ _ _ _ _ _ hg), below_setRow ((Below.refl _ _).alloc (Nat.le_refl _) _) (Nat.le_refl _) _⟩

/-- The offsets never fall. -/
def Mono (Z : Nat → Int) (k : Nat) : Prop := ∀ t, t < k → Z t ≤ Z (t + 1)
theorem Mono.le {Z : Nat → Int} {k : Nat} (h : Mono Z k) : ∀ {i j : Nat}, i ≤ j → j ≤ k → Z i ≤ Z j := by
  intro i j hij
  induction j with
  | zero => intro _; have : i = 0 := by omega
            rw [this]; exact Int.le_refl _
  | succ j ih =>
    intro hj
    rcases Nat.lt_or_ge i (j + 1) with q | q
    · exact Int.le_trans (ih (by omega) (by omega)) (h j (by omega))
    · obtain rfl : i = j + 1 := by omega
      exact Int.le_refl _

/-- A well-formed index: from 0 to n1, never falling. -/
structure Index (Z : Nat → Int) (n0 n1 : Nat) (L : Nat → Nat) : Prop where
  eq : ∀ k, k < n0 → Z k = (L k : Int)
  zero : L 0 = 0
  last : L (n0 - 1) = n1
  step : ∀ k, k + 1 < n0 → L k ≤ L (k + 1) ∧ L (k + 1) ≤ n1

theorem index_of {Z : Nat → Int} {n0 n1 : Nat} (h0 : 0 < n0) (hz : Z 0 = 0) (hm : Mono Z (n0 - 1)) (hl : Z (n0 - 1) = (n1 : Int)) : Index Z n0 n1 (fun k => (Z k).toNat) := by
  have pos : ∀ k, k < n0 → 0 ≤ Z k := fun k hk => by have := hm.le (Nat.zero_le k) (by omega); omega
  have eq : ∀ k, k < n0 → Z k = ((Z k).toNat : Int) := fun k hk => by have := pos k hk; omega
  refine ⟨eq, by simp [hz], by simp [hl], fun k hk => ?_⟩
  have a := hm k (by omega)
  have b := hm.le (show k + 1 ≤ n0 - 1 by omega) (Nat.le_refl _)
  have c := pos k (by omega)
  show (Z k).toNat ≤ (Z (k + 1)).toNat ∧ (Z (k + 1)).toNat ≤ n1
  omega

set_option maxHeartbeats 1000000 in
theorem tiles_some (b0 o0 : Nat) (x1 : Addr) (c0 c1 n0 n1 : Nat) (Z0 Z1 : Nat → Int) (w : World) (h0 : 0 < n0) (hz0 : n0 ≤ 131072) (hz1 : n1 ≤ 131072)
    (k0 : ∀ i, i < n0 → w.cell? ((⟨b0, o0, none⟩ : Addr).add i) = some (.int .i32 (Z0 i)))
    (k1 : ∀ i, i < n1 → w.cell? (x1.add i) = some (.int .i32 (Z1 i))) (f0 : Z0 0 = 0) (hw : ∀ i, i < n0 → -2147483648 ≤ Z0 i ∧ Z0 i ≤ 2147483647) :
    Calls Try.prog 3 #[.slice (some ⟨b0, o0, none⟩) n0 c0, .slice (some x1) n1 c1] w fun e w' => e = .returned (.bool true) ∧ Below w.heap.size w w' := by
  have HB : Hid (decide (n0 + n1 ≤ 1048576) = true) := decide_eq_true (by omega)
  have hsz : n0 + n1 ≤ 1048576 := by omega
  have e0 := k0 0 h0
  rw [show (⟨b0, o0, none⟩ : Addr).add 0 = ⟨b0, o0, none⟩ from rfl, f0] at e0
  have HZ : Hid (Z0 0 = 0) := f0
  clear f0
  have hmk0 := run_make_row' (P := Try.prog) 22 21 (.int .i32 0) 4 Try.underlying22 info21 rfl .i64 .i64 n0 (by omega) (by omega)
  have hmk1 := run_make_row' (P := Try.prog) 22 21 (.int .i32 0) 4 Try.underlying22 info21 rfl .i64 .i64 n1 (by omega) (by omega)
  obtain ⟨W2, hcp0, hr0, hbw⟩ := copy_fresh w ⟨b0, o0, none⟩ c0 n0 Z0 k0
  have k1' : ∀ i, i < n1 → W2.cell? (x1.add i) = some (.int .i32 (Z1 i)) := fun i hi => (hbw.cell (p := x1.add i) (block_lt (k1 i hi))).trans (k1 i hi)
  obtain ⟨W3, hcp1, hr1, hbw2⟩ := copy_fresh W2 x1 c1 n1 Z1 k1'
  have HF : Hid (Row W3 w.heap.size n0 Z0 ∧ Row W3 W2.heap.size n1 Z1 ∧ Below w.heap.size w W3) := ⟨hr0.below hbw2 hr0.lt, hr1, hbw.trans (hbw2.mono hbw.size)⟩
  have hw3 : w.heap.size < W3.heap.size := HF.out.1.lt
  clear hr0 hr1 hbw hbw2 k1' k0 k1
  have hc0 : ((n0 : Int) == 0) = false := by rw [beq_eq_false_iff_ne]; omega
  go_enter Try.func3, Try.ntmps3
  go_wp2_with fail
  refine (bytesTwo_is _ _ _ _ _ _ w (by unfold maxLen; omega) (by unfold maxLen; omega) HB.out).mono ?_
  rintro e wx ⟨rfl, hwx⟩
  subst wx
  go_wp2_with fail
  clear hmk0 hmk1 hcp0 hcp1 e0
  go_loopw [7] (fun i wr => ∃ k n : Nat, k + 1 ≤ n0 ∧ i = .int .i64 ((k + 1 : Nat) : Int) ∧ wr = W3.drewN n ∧ Mono Z0 k) (fun i _ => n0 - (intOf i).toNat)
  case atStart => exact ⟨0, 0, by omega, rfl, rfl, fun t ht => by omega⟩
  case round =>
    obtain ⟨k, n, hk, rfl, rfl, hmono⟩ := hrel
    have HM : Hid (Mono Z0 k) := hmono
    clear hmono
    have ek : ((k + 1 : Nat) : Int) = (k : Int) + 1 := by omega
    rw [ek]
    clear ek
    by_cases hlt : k + 1 < n0
    · have d0 := HF.out.1.cell k (by omega)
      have d1 := HF.out.1.cell (k + 1) (by omega)
      have i1 : (k : Int) + 1 < (n0 : Int) := by omega
      have i2 : (k : Int) < (n0 : Int) := by omega
      by_cases hd : Z0 (k + 1) < Z0 k
      · go_wp2
        go_quiet (fail)
        go_wp2
        go_ret
        exact ⟨rfl, below_drewN' (below_drewN' HF.out.2.2 _) _⟩
      · have HD : Hid (Mono Z0 (k + 1)) := by
          intro t ht
          rcases Nat.lt_or_ge t k with q | q
          · exact HM.out t q
          · obtain rfl : t = k := by omega
            omega
        have hd' : decide (Z0 (k + 1) < Z0 k) = false := by simpa using hd
        go_wp2
        go_quiet (fail)
        go_wp2
        go_roundw
        case rel => exact ⟨k + 1, n + nq, by omega, by go_num, by first | rfl | exact World.drewN_drewN .., HD.out⟩
        case measure => simp [intOf]; omega
    · have d1 := HF.out.1.cell (n0 - 1) (by omega)
      obtain ⟨q1, q2⟩ := hw (n0 - 1) (by omega)
      by_cases hl : Z0 (n0 - 1) = (n1 : Int)
      · have ekn : k = n0 - 1 := by omega
        obtain ⟨L, IX⟩ : ∃ L, Index Z0 n0 n1 L := ⟨_, index_of h0 HZ.out (by rw [← ekn]; exact HM.out) hl⟩
        have HX : Hid (Index Z0 n0 n1 L) := IX
        rw [hl] at d1
        clear hl IX ekn hw q1 q2 HZ HM
        have hbl : (-2147483648 : Int) ≤ (n1 : Int) ∧ (n1 : Int) ≤ 2147483647 := by omega
        go_wp2
        clear d1
        go_loopw [8, 9] (fun pos j wr => ∃ m : Nat, m + 1 ≤ n0 ∧ j = .int .i64 m ∧ pos = .int .i64 (L m) ∧ Below W3.heap.size W3 wr) (fun _ j _ => n0 - (intOf j).toNat)
        case atStart => exact ⟨0, by omega, rfl, by rw [HX.out.zero]; rfl, below_drewN' (Below.refl _ _) _⟩
        case round =>
          obtain ⟨m, hm, rfl, rfl, hbr⟩ := hrel
          have HBR : Hid (Below W3.heap.size W3 wr) := hbr
          have hwr : W3.heap.size ≤ wr.heap.size := hbr.size
          clear hbr
          by_cases hlm : m + 1 < n0
          · obtain ⟨st1, st2⟩ := HX.out.step m hlm
            have im : (m : Int) + 1 < (n0 : Int) := by omega
            have HR0 : Hid (Row wr w.heap.size n0 Z0) := HF.out.1.below HBR.out HF.out.1.lt
            have HR1 : Hid (Row wr W2.heap.size n1 Z1) := HF.out.2.1.below HBR.out HF.out.2.1.lt
            have HC : Hid (wr.cell? ⟨w.heap.size, m, none⟩ = some (.int .i32 (L m)) ∧ wr.cell? ⟨w.heap.size, m + 1, none⟩ = some (.int .i32 (L (m + 1)))) :=
              ⟨by rw [← HX.out.eq m (by omega)]; exact HR0.out.cell m (by omega), by rw [← HX.out.eq (m + 1) hlm]; exact HR0.out.cell (m + 1) hlm⟩
            go_wp2_with fail
            refine (zzSummed w.heap.size W2.heap.size n0 n1 m (L m) (L (m + 1)) wr HR0.out.lt hlm hz0 st1 st2 hz1 HC.out.1 HC.out.2).mono ?_
            rintro e w4 ⟨⟨o, c, rfl, ho⟩, hb4⟩
            have HB4 : Hid (Below wr.heap.size wr w4) := hb4
            have HO : Hid (L m < L (m + 1) → o = L m) := ho
            have d0 : w4.cell? ⟨w.heap.size, m, none⟩ = some (.int .i32 (L m)) := (hb4.cell (p := ⟨w.heap.size, m, none⟩) HR0.out.lt).trans HC.out.1
            have d1 : w4.cell? ⟨w.heap.size, m + 1, none⟩ = some (.int .i32 (L (m + 1))) := (hb4.cell (p := ⟨w.heap.size, m + 1, none⟩) HR0.out.lt).trans HC.out.2
            have HR4 : Hid (Row w4 W2.heap.size n1 Z1) := HR1.out.below hb4 HR1.out.lt
            clear hb4 ho HC HR0 HR1
            have hne : (((L (m + 1) - L m : Nat) : Int) != ((L (m + 1) : Nat) : Int) - ((L m : Nat) : Int)) = false := by
              rw [bne_eq_false_iff_eq]; omega
            have j1 : ((L m : Nat) : Int) ≤ 131072 := by omega
            have j2 : ((L (m + 1) : Nat) : Int) ≤ 131072 := by omega
            have im0 : (m : Int) < (n0 : Int) := by omega
            go_wp2_with fail
            go_quiet (fail)
            go_wp2_with fail
            clear d0 d1 hne
            go_loopw [8, 11] (fun pos i wz => ∃ t q : Nat, t ≤ L (m + 1) - L m ∧ i = .int .i64 t ∧ pos = .int .i64 (((L m : Nat) : Int) + (t : Int)) ∧ wz = w4.drewN q) (fun _ i _ => L (m + 1) - L m - (intOf i).toNat)
            case atStart => exact ⟨0, nq, by omega, rfl, by go_num, rfl⟩
            case round =>
              obtain ⟨t, q, ht, rfl, rfl, rfl⟩ := hrel
              by_cases hlt2 : t < L (m + 1) - L m
              · have eo := HO.out (by omega)
                have dd := HR4.out.cell (L m + t) (by omega)
                have ii : (t : Int) < ((L (m + 1) - L m : Nat) : Int) := by omega
                have jj : ((L m : Nat) : Int) + (t : Int) < (n1 : Int) := by omega
                subst eo
                go_wp2_with fail
                go_quiet (fail)
                go_wp2_with fail
                go_roundw
                case rel => exact ⟨t + 1, q + nq, by omega, by go_num, by go_num, by first | rfl | exact World.drewN_drewN ..⟩
                case measure => simp [intOf]; omega
              · go_wp2_with fail
                go_roundw
                case rel => exact ⟨m + 1, by omega, by go_num, by rw [show L (m + 1) = L m + t by omega]; go_num, HBR.out.trans ((below_drewN' HB4.out _).mono (by omega))⟩
                case measure => simp [intOf]; omega
          · have hpos : (((L m : Nat) : Int) == (n1 : Int)) = true := by rw [beq_iff_eq, show m = n0 - 1 by omega, HX.out.last]
            go_wp2
            go_ret
            exact ⟨rfl, HF.out.2.2.trans (HBR.out.mono (by omega))⟩
      · have hl' : (Z0 (n0 - 1) != (n1 : Int)) = true := by simpa using hl
        clear hl
        generalize Z0 (n0 - 1) = zl at *
        go_wp2
        go_ret
        exact ⟨rfl, below_drewN' HF.out.2.2 _⟩
set_option maxHeartbeats 1000000 in
theorem tiles_nil (b0 o0 c0 n0 : Nat) (Z0 : Nat → Int) (w : World) (h0 : 0 < n0) (hz0 : n0 ≤ 131072)
    (k0 : ∀ i, i < n0 → w.cell? ((⟨b0, o0, none⟩ : Addr).add i) = some (.int .i32 (Z0 i)))
    (f0 : Z0 0 = 0) (hw : ∀ i, i < n0 → -2147483648 ≤ Z0 i ∧ Z0 i ≤ 2147483647) :
    Calls Try.prog 3 #[.slice (some ⟨b0, o0, none⟩) n0 c0, .slice none 0 0] w fun e w' => e = .returned (.bool true) ∧ Below w.heap.size w w' := by
  have HB : Hid (decide (n0 + 0 ≤ 1048576) = true) := decide_eq_true (by omega)
  have hsz : n0 + 0 ≤ 1048576 := by omega
  have e0 := k0 0 h0
  rw [show (⟨b0, o0, none⟩ : Addr).add 0 = ⟨b0, o0, none⟩ from rfl, f0] at e0
  have HZ : Hid (Z0 0 = 0) := f0
  clear f0
  have hmk0 := run_make_row' (P := Try.prog) 22 21 (.int .i32 0) 4 Try.underlying22 info21 rfl .i64 .i64 n0 (by omega) (by omega)
  obtain ⟨W3, hcp0, hr0, hbw⟩ := copy_fresh w ⟨b0, o0, none⟩ c0 n0 Z0 k0
  have HF : Hid (Row W3 w.heap.size n0 Z0 ∧ Below w.heap.size w W3) := ⟨hr0, hbw⟩
  have hw3 : w.heap.size < W3.heap.size := HF.out.1.lt
  clear hr0 hbw k0
  have hc0 : ((n0 : Int) == 0) = false := by rw [beq_eq_false_iff_ne]; omega
  go_enter Try.func3, Try.ntmps3
  go_wp2_with fail
  refine (bytesTwo_is _ _ _ _ _ _ w (by unfold maxLen; omega) (by unfold maxLen; omega) HB.out).mono ?_
  rintro e wx ⟨rfl, hwx⟩
  subst wx
  go_wp2_with fail
  clear hmk0 hcp0 e0
  go_loopw [7] (fun i wr => ∃ k n : Nat, k + 1 ≤ n0 ∧ i = .int .i64 ((k + 1 : Nat) : Int) ∧ wr = W3.drewN n ∧ Mono Z0 k) (fun i _ => n0 - (intOf i).toNat)
  case atStart => exact ⟨0, 0, by omega, rfl, rfl, fun t ht => by omega⟩
  case round =>
    obtain ⟨k, n, hk, rfl, rfl, hmono⟩ := hrel
    have HM : Hid (Mono Z0 k) := hmono
    clear hmono
    have ek : ((k + 1 : Nat) : Int) = (k : Int) + 1 := by omega
    rw [ek]
    clear ek
    by_cases hlt : k + 1 < n0
    · have d0 := HF.out.1.cell k (by omega)
      have d1 := HF.out.1.cell (k + 1) (by omega)
      have i1 : (k : Int) + 1 < (n0 : Int) := by omega
      have i2 : (k : Int) < (n0 : Int) := by omega
      by_cases hd : Z0 (k + 1) < Z0 k
      · go_wp2
        go_quiet (fail)
        go_wp2
        go_ret
        exact ⟨rfl, below_drewN' (below_drewN' HF.out.2 _) _⟩
      · have HD : Hid (Mono Z0 (k + 1)) := by
          intro t ht
          rcases Nat.lt_or_ge t k with q | q
          · exact HM.out t q
          · obtain rfl : t = k := by omega
            omega
        have hd' : decide (Z0 (k + 1) < Z0 k) = false := by simpa using hd
        go_wp2
        go_quiet (fail)
        go_wp2
        go_roundw
        case rel => exact ⟨k + 1, n + nq, by omega, by go_num, by first | rfl | exact World.drewN_drewN .., HD.out⟩
        case measure => simp [intOf]; omega
    · have d1 := HF.out.1.cell (n0 - 1) (by omega)
      obtain ⟨q1, q2⟩ := hw (n0 - 1) (by omega)
      by_cases hl : Z0 (n0 - 1) = 0
      · have ekn : k = n0 - 1 := by omega
        obtain ⟨L, IX⟩ : ∃ L, Index Z0 n0 0 L := ⟨_, index_of h0 HZ.out (by rw [← ekn]; exact HM.out) hl⟩
        have HX : Hid (∀ m, m < n0 → Z0 m = 0) := by
          intro m hm
          have h1 := IX.eq m hm
          rcases Nat.lt_or_ge (m + 1) n0 with q | q
          · have h2 := IX.step m q; omega
          · have h2 := IX.last; rw [show n0 - 1 = m by omega] at h2; omega
        rw [hl] at d1
        clear hl IX ekn hw q1 q2 HZ HM
        go_wp2
        clear d1
        go_loopw [8, 9] (fun pos j wr => ∃ m : Nat, m + 1 ≤ n0 ∧ j = .int .i64 m ∧ pos = .int .i64 0 ∧ Below W3.heap.size W3 wr) (fun _ j _ => n0 - (intOf j).toNat)
        case atStart => exact ⟨0, by omega, rfl, rfl, below_drewN' (Below.refl _ _) _⟩
        case round =>
          obtain ⟨m, hm, rfl, rfl, hbr⟩ := hrel
          have HBR : Hid (Below W3.heap.size W3 wr) := hbr
          have hwr : W3.heap.size ≤ wr.heap.size := hbr.size
          clear hbr
          by_cases hlm : m + 1 < n0
          · have im : (m : Int) + 1 < (n0 : Int) := by omega
            have HR0 : Hid (Row wr w.heap.size n0 Z0) := HF.out.1.below HBR.out HF.out.1.lt
            have HC : Hid (wr.cell? ⟨w.heap.size, m, none⟩ = some (.int .i32 0) ∧ wr.cell? ⟨w.heap.size, m + 1, none⟩ = some (.int .i32 0)) :=
              ⟨by rw [← HX.out m (by omega)]; exact HR0.out.cell m (by omega), by rw [← HX.out (m + 1) hlm]; exact HR0.out.cell (m + 1) hlm⟩
            go_wp2_with fail
            refine (zzSummedNil w.heap.size n0 m wr HR0.out.lt hlm hz0 HC.out.1 HC.out.2).mono ?_
            rintro e w4 ⟨rfl, hb4⟩
            have HB4 : Hid (Below wr.heap.size wr w4) := hb4
            have d0 : w4.cell? ⟨w.heap.size, m, none⟩ = some (.int .i32 0) := (hb4.cell (p := ⟨w.heap.size, m, none⟩) HR0.out.lt).trans HC.out.1
            have d1 : w4.cell? ⟨w.heap.size, m + 1, none⟩ = some (.int .i32 0) := (hb4.cell (p := ⟨w.heap.size, m + 1, none⟩) HR0.out.lt).trans HC.out.2
            clear hb4 HC HR0
            have im0 : (m : Int) < (n0 : Int) := by omega
            go_wp2_with fail
            go_quiet (fail)
            go_wp2_with fail
            clear d0 d1
            go_loopw [8, 11] (fun pos i wz => ∃ q : Nat, i = .int .i64 0 ∧ pos = .int .i64 0 ∧ wz = w4.drewN q) (fun _ i _ => (intOf i).toNat)
            case atStart => exact ⟨nq, rfl, rfl, rfl⟩
            case round =>
              obtain ⟨q, rfl, rfl, rfl⟩ := hrel
              go_wp2_with fail
              go_roundw
              case rel => exact ⟨m + 1, by omega, by go_num, rfl, HBR.out.trans ((below_drewN' HB4.out _).mono (by omega))⟩
              case measure => simp [intOf]; omega
          · go_wp2
            go_ret
            exact ⟨rfl, HF.out.2.trans (HBR.out.mono (by omega))⟩
      · have hl' : (Z0 (n0 - 1) != 0) = true := by simpa using hl
        clear hl
        generalize Z0 (n0 - 1) = zl at *
        go_wp2
        go_ret
        exact ⟨rfl, below_drewN' HF.out.2 _⟩

set_option maxHeartbeats 1000000 in
theorem tiles_out (a0 a1 : Option Addr) (n0 c0 n1 c1 : Nat) (w : World) (h0 : n0 ≤ maxLen) (h1 : n1 ≤ maxLen) (h : 131072 < n0 ∨ 131072 < n1 ∨ n0 = 0) :
    Calls Try.prog 3 #[.slice a0 n0 c0, .slice a1 n1 c1] w fun e w' => e = .returned (.bool true) ∧ Below w.heap.size w w' := by
  by_cases hz : n0 + n1 ≤ 1048576
  · have HB : Hid (decide (n0 + n1 ≤ 1048576) = true) := decide_eq_true hz
    unfold maxLen at h0 h1
    by_cases g0 : 131072 < n0
    · clear h
      go_enter Try.func3, Try.ntmps3
      go_wp2_with fail
      refine (bytesTwo_is _ _ _ _ _ _ w (by unfold maxLen; omega) (by unfold maxLen; omega) HB.out).mono ?_
      rintro e wx ⟨rfl, hwx⟩
      subst wx
      go_wp2_with fail
      go_ret
      exact ⟨rfl, Below.refl _ _⟩
    · by_cases g1 : 131072 < n1
      · clear h
        go_enter Try.func3, Try.ntmps3
        go_wp2_with fail
        refine (bytesTwo_is _ _ _ _ _ _ w (by unfold maxLen; omega) (by unfold maxLen; omega) HB.out).mono ?_
        rintro e wx ⟨rfl, hwx⟩
        subst wx
        go_wp2_with fail
        go_ret
        exact ⟨rfl, Below.refl _ _⟩
      · obtain rfl : n0 = 0 := by omega
        clear h
        go_enter Try.func3, Try.ntmps3
        go_wp2_with fail
        refine (bytesTwo_is _ _ _ _ _ _ w (by unfold maxLen; omega) (by unfold maxLen; omega) HB.out).mono ?_
        rintro e wx ⟨rfl, hwx⟩
        subst wx
        go_wp2_with fail
        go_ret
        exact ⟨rfl, Below.refl _ _⟩
  · have HB : Hid (decide (n0 + n1 ≤ 1048576) = false) := decide_eq_false hz
    unfold maxLen at h0 h1
    go_enter Try.func3, Try.ntmps3
    go_wp2_with fail
    refine (bytesTwo_is _ _ _ _ _ _ w (by unfold maxLen; omega) (by unfold maxLen; omega) HB.out).mono ?_
    rintro e wx ⟨rfl, hwx⟩
    subst wx
    go_wp2_with fail
    go_ret
    exact ⟨rfl, Below.refl _ _⟩

set_option maxHeartbeats 1000000 in
theorem tiles_head (b0 o0 : Nat) (a1 : Option Addr) (n0 c0 n1 c1 : Nat) (z : Int) (w : World) (h0 : n0 ≤ 131072) (h1 : n1 ≤ 131072) (hp : 0 < n0)
    (e0 : w.cell? ⟨b0, o0, none⟩ = some (.int .i32 z)) (hz : ¬ z = 0) :
    Calls Try.prog 3 #[.slice (some ⟨b0, o0, none⟩) n0 c0, .slice a1 n1 c1] w fun e w' => e = .returned (.bool true) ∧ Below w.heap.size w w' := by
  have HB : Hid (decide (n0 + n1 ≤ 1048576) = true) := decide_eq_true (by omega)
  have hsz : n0 + n1 ≤ 1048576 := by omega
  have hc0 : ((n0 : Int) == 0) = false := by rw [beq_eq_false_iff_ne]; omega
  have hz' : (z != 0) = true := by simpa using hz
  go_enter Try.func3, Try.ntmps3
  go_wp2_with fail
  refine (bytesTwo_is _ _ _ _ _ _ w (by unfold maxLen; omega) (by unfold maxLen; omega) HB.out).mono ?_
  rintro e wx ⟨rfl, hwx⟩
  subst wx
  go_wp2_with fail
  go_ret
  exact ⟨rfl, Below.refl _ _⟩

end Go.Proofs.Qxb6618497a
