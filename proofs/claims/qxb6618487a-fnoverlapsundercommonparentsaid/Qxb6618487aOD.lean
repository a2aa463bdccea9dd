/-
  The walk of the law 'FnOverlapsUnderCommonParent'.
-/
import Derived.Test.Qxb6618487aOC
import Derived.Test.Qxb6618487aOS
namespace Go.Proofs.Qxb6618487a
open Go.RowKit

theorem bytes5_is (a b c d f : ByteArray) (w : World) {r : Bool} (ha : a.size ≤ maxLen) (hb : b.size ≤ maxLen) (hc : c.size ≤ maxLen) (hd : d.size ≤ maxLen) (hf : f.size ≤ maxLen) (hr : decide (a.size + b.size + c.size + d.size + f.size ≤ 1048576) = r) :
    Calls Try.prog 26 #[.string a, .string b, .string c, .string d, .string f] w fun e w' => e = .returned (.bool r) ∧ w' = w := by
  rw [← hr]
  exact bytes5 a b c d f w ha hb hc hd hf

set_option maxHeartbeats 1000000 in
theorem under_out (a b c d f : ByteArray) (w : World) (ha : a.size ≤ maxLen) (hb : b.size ≤ maxLen) (hc : c.size ≤ maxLen) (hd : d.size ≤ maxLen) (hf : f.size ≤ maxLen)
    (h : ¬ (a.size ≤ 65536 ∧ b.size ≤ 65536 ∧ c.size ≤ 65536 ∧ d.size ≤ 65536 ∧ f.size ≤ 65536)) :
    Calls Try.prog 6 #[.string a, .string b, .string c, .string d, .string f] w fun e w' => e = .returned (.bool true) ∧ Grown w w' := by
  by_cases hz : a.size + b.size + c.size + d.size + f.size ≤ 1048576
  · have HB : Hid (decide (a.size + b.size + c.size + d.size + f.size ≤ 1048576) = true) := decide_eq_true hz
    unfold maxLen at ha hb hc hd hf
    go_enter Try.func6, Try.ntmps6
    go_wp2_with fail
    refine (bytes5_is a b c d f _ (by unfold maxLen; omega) (by unfold maxLen; omega) (by unfold maxLen; omega) (by unfold maxLen; omega) (by unfold maxLen; omega) HB.out).mono ?_
    rintro e w' ⟨rfl, rfl⟩
    go_wp2_with fail
    all_goals first | (exfalso; omega) | (go_ret; exact ⟨rfl, Grown.refl _⟩)
  · have HB : Hid (decide (a.size + b.size + c.size + d.size + f.size ≤ 1048576) = false) := decide_eq_false hz
    unfold maxLen at ha hb hc hd hf
    go_enter Try.func6, Try.ntmps6
    go_wp2_with fail
    refine (bytes5_is a b c d f _ (by unfold maxLen; omega) (by unfold maxLen; omega) (by unfold maxLen; omega) (by unfold maxLen; omega) (by unfold maxLen; omega) HB.out).mono ?_
    rintro e w' ⟨rfl, rfl⟩
    go_wp2_with fail
    go_ret
    exact ⟨rfl, Grown.refl _⟩

set_option maxHeartbeats 1000000 in
theorem under_none (a b c d f : ByteArray) (w : World) (ha : a.size ≤ 65536) (hb : b.size ≤ 65536) (hc : c.size ≤ 65536) (hd : d.size ≤ 65536) (hf : f.size ≤ 65536)
    (h : d.toList.isEmpty = true ∨ f.toList.isEmpty = true) :
    Calls Try.prog 6 #[.string a, .string b, .string c, .string d, .string f] w fun e w' => e = .returned (.bool true) ∧ Grown w w' := by
  have HB : Hid (decide (a.size + b.size + c.size + d.size + f.size ≤ 1048576) = true) := decide_eq_true (by omega)
  have hsz : a.size + b.size + c.size + d.size + f.size ≤ 1048576 := by omega
  cases hx : d.toList.isEmpty with
  | true =>
    clear h
    go_enter Try.func6, Try.ntmps6
    go_wp2_with fail
    refine (bytes5_is a b c d f _ (by unfold maxLen; omega) (by unfold maxLen; omega) (by unfold maxLen; omega) (by unfold maxLen; omega) (by unfold maxLen; omega) HB.out).mono ?_
    rintro e w' ⟨rfl, rfl⟩
    go_wp2_with fail
    go_ret
    exact ⟨rfl, Grown.refl _⟩
  | false =>
    have hy : f.toList.isEmpty = true := by rcases h with h | h; (rw [hx] at h; cases h); exact h
    clear h
    go_enter Try.func6, Try.ntmps6
    go_wp2_with fail
    refine (bytes5_is a b c d f _ (by unfold maxLen; omega) (by unfold maxLen; omega) (by unfold maxLen; omega) (by unfold maxLen; omega) (by unfold maxLen; omega) HB.out).mono ?_
    rintro e w' ⟨rfl, rfl⟩
    go_wp2_with fail
    go_ret
    exact ⟨rfl, Grown.refl _⟩

/-- Five boxes, each of two strings, lie behind block n, each behind a twin of its own. -/
structure Boxed5 (w : World) (n : Nat) (s0 n0 s1 n1 s2 n2 s3 n3 s4 n4 : ByteArray) : Prop where
  c0 : w.cell? ⟨n + 1, 0, none⟩ = some (.string s0)
  c1 : w.cell? ⟨n + 1, 1, none⟩ = some (.string n0)
  c2 : w.cell? ⟨n + 1 + 1 + 1, 0, none⟩ = some (.string s1)
  c3 : w.cell? ⟨n + 1 + 1 + 1, 1, none⟩ = some (.string n1)
  c4 : w.cell? ⟨n + 1 + 1 + 1 + 1 + 1, 0, none⟩ = some (.string s2)
  c5 : w.cell? ⟨n + 1 + 1 + 1 + 1 + 1, 1, none⟩ = some (.string n2)
  c6 : w.cell? ⟨n + 1 + 1 + 1 + 1 + 1 + 1 + 1, 0, none⟩ = some (.string s3)
  c7 : w.cell? ⟨n + 1 + 1 + 1 + 1 + 1 + 1 + 1, 1, none⟩ = some (.string n3)
  c8 : w.cell? ⟨n + 1 + 1 + 1 + 1 + 1 + 1 + 1 + 1 + 1, 0, none⟩ = some (.string s4)
  c9 : w.cell? ⟨n + 1 + 1 + 1 + 1 + 1 + 1 + 1 + 1 + 1, 1, none⟩ = some (.string n4)

theorem Boxed5.lays {w w' : World} {n : Nat} {s0 n0 s1 n1 s2 n2 s3 n3 s4 n4 : ByteArray} (q : Boxed5 w n s0 n0 s1 n1 s2 n2 s3 n3 s4 n4) (k : Lays w w') : Boxed5 w' n s0 n0 s1 n1 s2 n2 s3 n3 s4 n4 :=
  ⟨k.cell _ _ q.c0, k.cell _ _ q.c1, k.cell _ _ q.c2, k.cell _ _ q.c3, k.cell _ _ q.c4, k.cell _ _ q.c5, k.cell _ _ q.c6, k.cell _ _ q.c7, k.cell _ _ q.c8, k.cell _ _ q.c9⟩

/-- The world behind the five boxes. -/
abbrev five (w : World) (s0 n0 s1 n1 s2 n2 s3 n3 s4 n4 : ByteArray) : World :=
  (((((((((w.alloc (.cells #[.string s0, .string n0] 41)).alloc (.cells #[.string s0, .string n0] 41)).alloc (.cells #[.string s1, .string n1] 41)).alloc (.cells #[.string s1, .string n1] 41)).alloc (.cells #[.string s2, .string n2] 41)).alloc (.cells #[.string s2, .string n2] 41)).alloc (.cells #[.string s3, .string n3] 41)).alloc (.cells #[.string s3, .string n3] 41)).alloc (.cells #[.string s4, .string n4] 41)).alloc (.cells #[.string s4, .string n4] 41)

theorem boxed_five (w : World) (s0 n0 s1 n1 s2 n2 s3 n3 s4 n4 : ByteArray) : Boxed5 (five w s0 n0 s1 n1 s2 n2 s3 n3 s4 n4) w.heap.size s0 n0 s1 n1 s2 n2 s3 n3 s4 n4 := by
  constructor <;> go_simp

theorem lays_five (w : World) (s0 n0 s1 n1 s2 n2 s3 n3 s4 n4 : ByteArray) : Lays w (five w s0 n0 s1 n1 s2 n2 s3 n3 s4 n4) :=
  (((((((((((Lays.refl w).alloc _ _).alloc _ _).alloc _ _).alloc _ _).alloc _ _).alloc _ _).alloc _ _).alloc _ _).alloc _ _).alloc _ _)

theorem wth_under (p : ByteArray) {x y : ByteArray} (hy : y.toList.isEmpty = false) : wth (p ++ ⟨#[46]⟩ ++ x) (p ++ ⟨#[46]⟩ ++ y) = seg y x := by
  have h : y.data.toList ≠ [] := by rw [Lib.toList_data] at hy; intro e; rw [e] at hy; cases hy
  unfold wth seg
  rw [join_data, join_data, wl_common _ h, wl_sp h]

theorem wth_bare {x y : ByteArray} (hy : y.toList.isEmpty = false) : wth x y = seg y x := by
  have h : y.data.toList ≠ [] := by rw [Lib.toList_data] at hy; intro e; rw [e] at hy; cases hy
  unfold wth seg
  rw [wl_sp h]

section
variable (a b p : ByteArray) {x y : ByteArray} (hx : x.toList.isEmpty = false) (hy : y.toList.isEmpty = false) {t u : Bool}

theorem ovl_xy (h1 : seg x y = t) (h2 : seg y x = u) (hx : x.toList.isEmpty = false) (hy : y.toList.isEmpty = false) : ovl a (p ++ ⟨#[46]⟩ ++ x) a (p ++ ⟨#[46]⟩ ++ y) = (t || u) := by
  unfold ovl
  rw [wth_under p hy, wth_under p hx, h1, h2, beq_self_eq_true, Bool.true_and, Bool.or_comm]
theorem ovl_b (h1 : seg x y = t) (h2 : seg y x = u) (hx : x.toList.isEmpty = false) (hy : y.toList.isEmpty = false) : ovl a x a y = (t || u) := by
  unfold ovl
  rw [wth_bare hy, wth_bare hx, h1, h2, beq_self_eq_true, Bool.true_and, Bool.or_comm]
theorem ovl_q (h1 : seg x y = t) (h2 : seg y x = u) (hx : x.toList.isEmpty = false) (hy : y.toList.isEmpty = false) {r : Bool} (hr : (a.toList == b.toList) = r) : ovl a (p ++ ⟨#[46]⟩ ++ x) b (p ++ ⟨#[46]⟩ ++ y) = (r && (t || u)) := by
  unfold ovl
  rw [wth_under p hy, wth_under p hx, h1, h2, hr, Bool.or_comm]
end

set_option maxHeartbeats 1000000 in
theorem under_true_true_true (a b p x y : ByteArray) (w : World) (ha : a.size ≤ 65536) (hb : b.size ≤ 65536) (hp : p.size ≤ 65536) (hx : x.size ≤ 65536) (hy : y.size ≤ 65536)
    (ex : x.toList.isEmpty = false) (ey : y.toList.isEmpty = false) (h1 : seg x y = true) (h2 : seg y x = true) (hr : (a.toList == b.toList) = true) :
    Calls Try.prog 6 #[.string a, .string b, .string p, .string x, .string y] w fun e w' => e = .returned (.bool true) ∧ Grown w w' := by
  have HB : Hid (decide (a.size + b.size + p.size + x.size + y.size ≤ 1048576) = true) := decide_eq_true (by omega)
  have HF : Hid (seg x y = true ∧ seg y x = true ∧ (a.toList == b.toList) = true ∧ x.toList.isEmpty = false ∧ y.toList.isEmpty = false) := ⟨h1, h2, hr, ex, ey⟩
  have HW : Hid (Lays w (five w a (p ++ ⟨#[46]⟩ ++ x) a (p ++ ⟨#[46]⟩ ++ y) b (p ++ ⟨#[46]⟩ ++ y) a x a y)) := lays_five _ _ _ _ _ _ _ _ _ _ _
  have HC : Hid (Boxed5 (five w a (p ++ ⟨#[46]⟩ ++ x) a (p ++ ⟨#[46]⟩ ++ y) b (p ++ ⟨#[46]⟩ ++ y) a x a y) w.heap.size a (p ++ ⟨#[46]⟩ ++ x) a (p ++ ⟨#[46]⟩ ++ y) b (p ++ ⟨#[46]⟩ ++ y) a x a y) := boxed_five _ _ _ _ _ _ _ _ _ _ _
  have hsz : a.size + b.size + p.size + x.size + y.size ≤ 1048576 := by omega
  clear h1 h2
  go_enter Try.func6, Try.ntmps6
  go_wp2_with fail
  refine (bytes5_is a b p x y w (by unfold maxLen; omega) (by unfold maxLen; omega) (by unfold maxLen; omega) (by unfold maxLen; omega) (by unfold maxLen; omega) HB.out).mono ?_
  rintro e wx ⟨rfl, hwx⟩
  subst wx
  go_wp2_with fail
  refine (newRef _ _ _).mono ?_
  rintro e w' ⟨rfl, rfl⟩
  go_wp2_with fail
  refine (newRef _ _ _).mono ?_
  rintro e w' ⟨rfl, rfl⟩
  go_wp2_with fail
  refine (newRef _ _ _).mono ?_
  rintro e w' ⟨rfl, rfl⟩
  go_wp2_with fail
  refine (newRef _ _ _).mono ?_
  rintro e w' ⟨rfl, rfl⟩
  go_wp2_with fail
  refine (newRef _ _ _).mono ?_
  rintro e w' ⟨rfl, rfl⟩
  go_wp2_with fail
  refine (segWalk x y _ (by unfold maxLen; omega) (by unfold maxLen; omega)).mono ?_
  rintro e wa ⟨rfl, na, hwa⟩
  have HLA : Hid (Lays w wa ∧ Boxed5 wa w.heap.size a (p ++ ⟨#[46]⟩ ++ x) a (p ++ ⟨#[46]⟩ ++ y) b (p ++ ⟨#[46]⟩ ++ y) a x a y) := by
    have hla := (Lays.refl (five w a (p ++ ⟨#[46]⟩ ++ x) a (p ++ ⟨#[46]⟩ ++ y) b (p ++ ⟨#[46]⟩ ++ y) a x a y)).drewN na
    rw [← hwa] at hla
    exact ⟨HW.out.trans hla, HC.out.lays hla⟩
  clear hwa HW HC
  rw [HF.out.1]
  obtain ⟨c0, c1, c2, c3, c4, c5, c6, c7, c8, c9⟩ := HLA.out.2
  go_wp2_with fail
  refine (zzOverlaps _ _ _ _ _).mono ?_
  rintro e w1 ⟨rfl, hl1⟩
  have HL1 : Hid (Lays w w1 ∧ Boxed5 w1 w.heap.size a (p ++ ⟨#[46]⟩ ++ x) a (p ++ ⟨#[46]⟩ ++ y) b (p ++ ⟨#[46]⟩ ++ y) a x a y) := ⟨HLA.out.1.trans hl1, HLA.out.2.lays hl1⟩
  clear hl1 HLA c0 c1 c2 c3 c4 c5 c6 c7 c8 c9
  obtain ⟨c0, c1, c2, c3, c4, c5, c6, c7, c8, c9⟩ := HL1.out.2
  rw [ovl_xy a p HF.out.1 HF.out.2.1 HF.out.2.2.2.1 HF.out.2.2.2.2]
  go_wp2_with fail
  refine (zzOverlaps _ _ _ _ _).mono ?_
  rintro e w2 ⟨rfl, hl2⟩
  have HL2 : Hid (Lays w w2 ∧ Boxed5 w2 w.heap.size a (p ++ ⟨#[46]⟩ ++ x) a (p ++ ⟨#[46]⟩ ++ y) b (p ++ ⟨#[46]⟩ ++ y) a x a y) := ⟨HL1.out.1.trans hl2, HL1.out.2.lays hl2⟩
  clear hl2 HL1 c0 c1 c2 c3 c4 c5 c6 c7 c8 c9
  obtain ⟨c0, c1, c2, c3, c4, c5, c6, c7, c8, c9⟩ := HL2.out.2
  rw [ovl_xy a p HF.out.2.1 HF.out.1 HF.out.2.2.2.2 HF.out.2.2.2.1]
  go_wp2_with fail
  refine (zzOverlaps _ _ _ _ _).mono ?_
  rintro e w3 ⟨rfl, hl3⟩
  have HL3 : Hid (Lays w w3 ∧ Boxed5 w3 w.heap.size a (p ++ ⟨#[46]⟩ ++ x) a (p ++ ⟨#[46]⟩ ++ y) b (p ++ ⟨#[46]⟩ ++ y) a x a y) := ⟨HL2.out.1.trans hl3, HL2.out.2.lays hl3⟩
  clear hl3 HL2 c0 c1 c2 c3 c4 c5 c6 c7 c8 c9
  obtain ⟨c0, c1, c2, c3, c4, c5, c6, c7, c8, c9⟩ := HL3.out.2
  rw [ovl_b a HF.out.1 HF.out.2.1 HF.out.2.2.2.1 HF.out.2.2.2.2]
  go_wp2_with fail
  refine (zzOverlaps _ _ _ _ _).mono ?_
  rintro e w4 ⟨rfl, hl4⟩
  have HL4 : Hid (Lays w w4 ∧ Boxed5 w4 w.heap.size a (p ++ ⟨#[46]⟩ ++ x) a (p ++ ⟨#[46]⟩ ++ y) b (p ++ ⟨#[46]⟩ ++ y) a x a y) := ⟨HL3.out.1.trans hl4, HL3.out.2.lays hl4⟩
  clear hl4 HL3 c0 c1 c2 c3 c4 c5 c6 c7 c8 c9
  obtain ⟨c0, c1, c2, c3, c4, c5, c6, c7, c8, c9⟩ := HL4.out.2
  rw [ovl_b a HF.out.2.1 HF.out.1 HF.out.2.2.2.2 HF.out.2.2.2.1]
  go_wp2_with fail
  refine (zzOverlaps _ _ _ _ _).mono ?_
  rintro e w5 ⟨rfl, hl5⟩
  have HL5 : Hid (Lays w w5 ∧ Boxed5 w5 w.heap.size a (p ++ ⟨#[46]⟩ ++ x) a (p ++ ⟨#[46]⟩ ++ y) b (p ++ ⟨#[46]⟩ ++ y) a x a y) := ⟨HL4.out.1.trans hl5, HL4.out.2.lays hl5⟩
  clear hl5 HL4 c0 c1 c2 c3 c4 c5 c6 c7 c8 c9
  obtain ⟨c0, c1, c2, c3, c4, c5, c6, c7, c8, c9⟩ := HL5.out.2
  rw [ovl_q a b p HF.out.1 HF.out.2.1 HF.out.2.2.2.1 HF.out.2.2.2.2 HF.out.2.2.1]
  go_wp2_with fail
  go_ret
  exact ⟨rfl, HL5.out.1.grown⟩

set_option maxHeartbeats 1000000 in
theorem under_true_true_false (a b p x y : ByteArray) (w : World) (ha : a.size ≤ 65536) (hb : b.size ≤ 65536) (hp : p.size ≤ 65536) (hx : x.size ≤ 65536) (hy : y.size ≤ 65536)
    (ex : x.toList.isEmpty = false) (ey : y.toList.isEmpty = false) (h1 : seg x y = true) (h2 : seg y x = true) (hr : (a.toList == b.toList) = false) :
    Calls Try.prog 6 #[.string a, .string b, .string p, .string x, .string y] w fun e w' => e = .returned (.bool true) ∧ Grown w w' := by
  have HB : Hid (decide (a.size + b.size + p.size + x.size + y.size ≤ 1048576) = true) := decide_eq_true (by omega)
  have HF : Hid (seg x y = true ∧ seg y x = true ∧ (a.toList == b.toList) = false ∧ x.toList.isEmpty = false ∧ y.toList.isEmpty = false) := ⟨h1, h2, hr, ex, ey⟩
  have HW : Hid (Lays w (five w a (p ++ ⟨#[46]⟩ ++ x) a (p ++ ⟨#[46]⟩ ++ y) b (p ++ ⟨#[46]⟩ ++ y) a x a y)) := lays_five _ _ _ _ _ _ _ _ _ _ _
  have HC : Hid (Boxed5 (five w a (p ++ ⟨#[46]⟩ ++ x) a (p ++ ⟨#[46]⟩ ++ y) b (p ++ ⟨#[46]⟩ ++ y) a x a y) w.heap.size a (p ++ ⟨#[46]⟩ ++ x) a (p ++ ⟨#[46]⟩ ++ y) b (p ++ ⟨#[46]⟩ ++ y) a x a y) := boxed_five _ _ _ _ _ _ _ _ _ _ _
  have hsz : a.size + b.size + p.size + x.size + y.size ≤ 1048576 := by omega
  clear h1 h2
  go_enter Try.func6, Try.ntmps6
  go_wp2_with fail
  refine (bytes5_is a b p x y w (by unfold maxLen; omega) (by unfold maxLen; omega) (by unfold maxLen; omega) (by unfold maxLen; omega) (by unfold maxLen; omega) HB.out).mono ?_
  rintro e wx ⟨rfl, hwx⟩
  subst wx
  go_wp2_with fail
  refine (newRef _ _ _).mono ?_
  rintro e w' ⟨rfl, rfl⟩
  go_wp2_with fail
  refine (newRef _ _ _).mono ?_
  rintro e w' ⟨rfl, rfl⟩
  go_wp2_with fail
  refine (newRef _ _ _).mono ?_
  rintro e w' ⟨rfl, rfl⟩
  go_wp2_with fail
  refine (newRef _ _ _).mono ?_
  rintro e w' ⟨rfl, rfl⟩
  go_wp2_with fail
  refine (newRef _ _ _).mono ?_
  rintro e w' ⟨rfl, rfl⟩
  go_wp2_with fail
  refine (segWalk x y _ (by unfold maxLen; omega) (by unfold maxLen; omega)).mono ?_
  rintro e wa ⟨rfl, na, hwa⟩
  have HLA : Hid (Lays w wa ∧ Boxed5 wa w.heap.size a (p ++ ⟨#[46]⟩ ++ x) a (p ++ ⟨#[46]⟩ ++ y) b (p ++ ⟨#[46]⟩ ++ y) a x a y) := by
    have hla := (Lays.refl (five w a (p ++ ⟨#[46]⟩ ++ x) a (p ++ ⟨#[46]⟩ ++ y) b (p ++ ⟨#[46]⟩ ++ y) a x a y)).drewN na
    rw [← hwa] at hla
    exact ⟨HW.out.trans hla, HC.out.lays hla⟩
  clear hwa HW HC
  rw [HF.out.1]
  obtain ⟨c0, c1, c2, c3, c4, c5, c6, c7, c8, c9⟩ := HLA.out.2
  go_wp2_with fail
  refine (zzOverlaps _ _ _ _ _).mono ?_
  rintro e w1 ⟨rfl, hl1⟩
  have HL1 : Hid (Lays w w1 ∧ Boxed5 w1 w.heap.size a (p ++ ⟨#[46]⟩ ++ x) a (p ++ ⟨#[46]⟩ ++ y) b (p ++ ⟨#[46]⟩ ++ y) a x a y) := ⟨HLA.out.1.trans hl1, HLA.out.2.lays hl1⟩
  clear hl1 HLA c0 c1 c2 c3 c4 c5 c6 c7 c8 c9
  obtain ⟨c0, c1, c2, c3, c4, c5, c6, c7, c8, c9⟩ := HL1.out.2
  rw [ovl_xy a p HF.out.1 HF.out.2.1 HF.out.2.2.2.1 HF.out.2.2.2.2]
  go_wp2_with fail
  refine (zzOverlaps _ _ _ _ _).mono ?_
  rintro e w2 ⟨rfl, hl2⟩
  have HL2 : Hid (Lays w w2 ∧ Boxed5 w2 w.heap.size a (p ++ ⟨#[46]⟩ ++ x) a (p ++ ⟨#[46]⟩ ++ y) b (p ++ ⟨#[46]⟩ ++ y) a x a y) := ⟨HL1.out.1.trans hl2, HL1.out.2.lays hl2⟩
  clear hl2 HL1 c0 c1 c2 c3 c4 c5 c6 c7 c8 c9
  obtain ⟨c0, c1, c2, c3, c4, c5, c6, c7, c8, c9⟩ := HL2.out.2
  rw [ovl_xy a p HF.out.2.1 HF.out.1 HF.out.2.2.2.2 HF.out.2.2.2.1]
  go_wp2_with fail
  refine (zzOverlaps _ _ _ _ _).mono ?_
  rintro e w3 ⟨rfl, hl3⟩
  have HL3 : Hid (Lays w w3 ∧ Boxed5 w3 w.heap.size a (p ++ ⟨#[46]⟩ ++ x) a (p ++ ⟨#[46]⟩ ++ y) b (p ++ ⟨#[46]⟩ ++ y) a x a y) := ⟨HL2.out.1.trans hl3, HL2.out.2.lays hl3⟩
  clear hl3 HL2 c0 c1 c2 c3 c4 c5 c6 c7 c8 c9
  obtain ⟨c0, c1, c2, c3, c4, c5, c6, c7, c8, c9⟩ := HL3.out.2
  rw [ovl_b a HF.out.1 HF.out.2.1 HF.out.2.2.2.1 HF.out.2.2.2.2]
  go_wp2_with fail
  refine (zzOverlaps _ _ _ _ _).mono ?_
  rintro e w4 ⟨rfl, hl4⟩
  have HL4 : Hid (Lays w w4 ∧ Boxed5 w4 w.heap.size a (p ++ ⟨#[46]⟩ ++ x) a (p ++ ⟨#[46]⟩ ++ y) b (p ++ ⟨#[46]⟩ ++ y) a x a y) := ⟨HL3.out.1.trans hl4, HL3.out.2.lays hl4⟩
  clear hl4 HL3 c0 c1 c2 c3 c4 c5 c6 c7 c8 c9
  obtain ⟨c0, c1, c2, c3, c4, c5, c6, c7, c8, c9⟩ := HL4.out.2
  rw [ovl_b a HF.out.2.1 HF.out.1 HF.out.2.2.2.2 HF.out.2.2.2.1]
  go_wp2_with fail
  refine (zzOverlaps _ _ _ _ _).mono ?_
  rintro e w5 ⟨rfl, hl5⟩
  have HL5 : Hid (Lays w w5 ∧ Boxed5 w5 w.heap.size a (p ++ ⟨#[46]⟩ ++ x) a (p ++ ⟨#[46]⟩ ++ y) b (p ++ ⟨#[46]⟩ ++ y) a x a y) := ⟨HL4.out.1.trans hl5, HL4.out.2.lays hl5⟩
  clear hl5 HL4 c0 c1 c2 c3 c4 c5 c6 c7 c8 c9
  obtain ⟨c0, c1, c2, c3, c4, c5, c6, c7, c8, c9⟩ := HL5.out.2
  rw [ovl_q a b p HF.out.1 HF.out.2.1 HF.out.2.2.2.1 HF.out.2.2.2.2 HF.out.2.2.1]
  go_wp2_with fail
  go_ret
  exact ⟨rfl, HL5.out.1.grown⟩

set_option maxHeartbeats 1000000 in
theorem under_true_false_true (a b p x y : ByteArray) (w : World) (ha : a.size ≤ 65536) (hb : b.size ≤ 65536) (hp : p.size ≤ 65536) (hx : x.size ≤ 65536) (hy : y.size ≤ 65536)
    (ex : x.toList.isEmpty = false) (ey : y.toList.isEmpty = false) (h1 : seg x y = true) (h2 : seg y x = false) (hr : (a.toList == b.toList) = true) :
    Calls Try.prog 6 #[.string a, .string b, .string p, .string x, .string y] w fun e w' => e = .returned (.bool true) ∧ Grown w w' := by
  have HB : Hid (decide (a.size + b.size + p.size + x.size + y.size ≤ 1048576) = true) := decide_eq_true (by omega)
  have HF : Hid (seg x y = true ∧ seg y x = false ∧ (a.toList == b.toList) = true ∧ x.toList.isEmpty = false ∧ y.toList.isEmpty = false) := ⟨h1, h2, hr, ex, ey⟩
  have HW : Hid (Lays w (five w a (p ++ ⟨#[46]⟩ ++ x) a (p ++ ⟨#[46]⟩ ++ y) b (p ++ ⟨#[46]⟩ ++ y) a x a y)) := lays_five _ _ _ _ _ _ _ _ _ _ _
  have HC : Hid (Boxed5 (five w a (p ++ ⟨#[46]⟩ ++ x) a (p ++ ⟨#[46]⟩ ++ y) b (p ++ ⟨#[46]⟩ ++ y) a x a y) w.heap.size a (p ++ ⟨#[46]⟩ ++ x) a (p ++ ⟨#[46]⟩ ++ y) b (p ++ ⟨#[46]⟩ ++ y) a x a y) := boxed_five _ _ _ _ _ _ _ _ _ _ _
  have hsz : a.size + b.size + p.size + x.size + y.size ≤ 1048576 := by omega
  clear h1 h2
  go_enter Try.func6, Try.ntmps6
  go_wp2_with fail
  refine (bytes5_is a b p x y w (by unfold maxLen; omega) (by unfold maxLen; omega) (by unfold maxLen; omega) (by unfold maxLen; omega) (by unfold maxLen; omega) HB.out).mono ?_
  rintro e wx ⟨rfl, hwx⟩
  subst wx
  go_wp2_with fail
  refine (newRef _ _ _).mono ?_
  rintro e w' ⟨rfl, rfl⟩
  go_wp2_with fail
  refine (newRef _ _ _).mono ?_
  rintro e w' ⟨rfl, rfl⟩
  go_wp2_with fail
  refine (newRef _ _ _).mono ?_
  rintro e w' ⟨rfl, rfl⟩
  go_wp2_with fail
  refine (newRef _ _ _).mono ?_
  rintro e w' ⟨rfl, rfl⟩
  go_wp2_with fail
  refine (newRef _ _ _).mono ?_
  rintro e w' ⟨rfl, rfl⟩
  go_wp2_with fail
  refine (segWalk x y _ (by unfold maxLen; omega) (by unfold maxLen; omega)).mono ?_
  rintro e wa ⟨rfl, na, hwa⟩
  have HLA : Hid (Lays w wa ∧ Boxed5 wa w.heap.size a (p ++ ⟨#[46]⟩ ++ x) a (p ++ ⟨#[46]⟩ ++ y) b (p ++ ⟨#[46]⟩ ++ y) a x a y) := by
    have hla := (Lays.refl (five w a (p ++ ⟨#[46]⟩ ++ x) a (p ++ ⟨#[46]⟩ ++ y) b (p ++ ⟨#[46]⟩ ++ y) a x a y)).drewN na
    rw [← hwa] at hla
    exact ⟨HW.out.trans hla, HC.out.lays hla⟩
  clear hwa HW HC
  rw [HF.out.1]
  obtain ⟨c0, c1, c2, c3, c4, c5, c6, c7, c8, c9⟩ := HLA.out.2
  go_wp2_with fail
  refine (zzOverlaps _ _ _ _ _).mono ?_
  rintro e w1 ⟨rfl, hl1⟩
  have HL1 : Hid (Lays w w1 ∧ Boxed5 w1 w.heap.size a (p ++ ⟨#[46]⟩ ++ x) a (p ++ ⟨#[46]⟩ ++ y) b (p ++ ⟨#[46]⟩ ++ y) a x a y) := ⟨HLA.out.1.trans hl1, HLA.out.2.lays hl1⟩
  clear hl1 HLA c0 c1 c2 c3 c4 c5 c6 c7 c8 c9
  obtain ⟨c0, c1, c2, c3, c4, c5, c6, c7, c8, c9⟩ := HL1.out.2
  rw [ovl_xy a p HF.out.1 HF.out.2.1 HF.out.2.2.2.1 HF.out.2.2.2.2]
  go_wp2_with fail
  refine (zzOverlaps _ _ _ _ _).mono ?_
  rintro e w2 ⟨rfl, hl2⟩
  have HL2 : Hid (Lays w w2 ∧ Boxed5 w2 w.heap.size a (p ++ ⟨#[46]⟩ ++ x) a (p ++ ⟨#[46]⟩ ++ y) b (p ++ ⟨#[46]⟩ ++ y) a x a y) := ⟨HL1.out.1.trans hl2, HL1.out.2.lays hl2⟩
  clear hl2 HL1 c0 c1 c2 c3 c4 c5 c6 c7 c8 c9
  obtain ⟨c0, c1, c2, c3, c4, c5, c6, c7, c8, c9⟩ := HL2.out.2
  rw [ovl_xy a p HF.out.2.1 HF.out.1 HF.out.2.2.2.2 HF.out.2.2.2.1]
  go_wp2_with fail
  refine (zzOverlaps _ _ _ _ _).mono ?_
  rintro e w3 ⟨rfl, hl3⟩
  have HL3 : Hid (Lays w w3 ∧ Boxed5 w3 w.heap.size a (p ++ ⟨#[46]⟩ ++ x) a (p ++ ⟨#[46]⟩ ++ y) b (p ++ ⟨#[46]⟩ ++ y) a x a y) := ⟨HL2.out.1.trans hl3, HL2.out.2.lays hl3⟩
  clear hl3 HL2 c0 c1 c2 c3 c4 c5 c6 c7 c8 c9
  obtain ⟨c0, c1, c2, c3, c4, c5, c6, c7, c8, c9⟩ := HL3.out.2
  rw [ovl_b a HF.out.1 HF.out.2.1 HF.out.2.2.2.1 HF.out.2.2.2.2]
  go_wp2_with fail
  refine (zzOverlaps _ _ _ _ _).mono ?_
  rintro e w4 ⟨rfl, hl4⟩
  have HL4 : Hid (Lays w w4 ∧ Boxed5 w4 w.heap.size a (p ++ ⟨#[46]⟩ ++ x) a (p ++ ⟨#[46]⟩ ++ y) b (p ++ ⟨#[46]⟩ ++ y) a x a y) := ⟨HL3.out.1.trans hl4, HL3.out.2.lays hl4⟩
  clear hl4 HL3 c0 c1 c2 c3 c4 c5 c6 c7 c8 c9
  obtain ⟨c0, c1, c2, c3, c4, c5, c6, c7, c8, c9⟩ := HL4.out.2
  rw [ovl_b a HF.out.2.1 HF.out.1 HF.out.2.2.2.2 HF.out.2.2.2.1]
  go_wp2_with fail
  refine (zzOverlaps _ _ _ _ _).mono ?_
  rintro e w5 ⟨rfl, hl5⟩
  have HL5 : Hid (Lays w w5 ∧ Boxed5 w5 w.heap.size a (p ++ ⟨#[46]⟩ ++ x) a (p ++ ⟨#[46]⟩ ++ y) b (p ++ ⟨#[46]⟩ ++ y) a x a y) := ⟨HL4.out.1.trans hl5, HL4.out.2.lays hl5⟩
  clear hl5 HL4 c0 c1 c2 c3 c4 c5 c6 c7 c8 c9
  obtain ⟨c0, c1, c2, c3, c4, c5, c6, c7, c8, c9⟩ := HL5.out.2
  rw [ovl_q a b p HF.out.1 HF.out.2.1 HF.out.2.2.2.1 HF.out.2.2.2.2 HF.out.2.2.1]
  go_wp2_with fail
  go_ret
  exact ⟨rfl, HL5.out.1.grown⟩

set_option maxHeartbeats 1000000 in
theorem under_true_false_false (a b p x y : ByteArray) (w : World) (ha : a.size ≤ 65536) (hb : b.size ≤ 65536) (hp : p.size ≤ 65536) (hx : x.size ≤ 65536) (hy : y.size ≤ 65536)
    (ex : x.toList.isEmpty = false) (ey : y.toList.isEmpty = false) (h1 : seg x y = true) (h2 : seg y x = false) (hr : (a.toList == b.toList) = false) :
    Calls Try.prog 6 #[.string a, .string b, .string p, .string x, .string y] w fun e w' => e = .returned (.bool true) ∧ Grown w w' := by
  have HB : Hid (decide (a.size + b.size + p.size + x.size + y.size ≤ 1048576) = true) := decide_eq_true (by omega)
  have HF : Hid (seg x y = true ∧ seg y x = false ∧ (a.toList == b.toList) = false ∧ x.toList.isEmpty = false ∧ y.toList.isEmpty = false) := ⟨h1, h2, hr, ex, ey⟩
  have HW : Hid (Lays w (five w a (p ++ ⟨#[46]⟩ ++ x) a (p ++ ⟨#[46]⟩ ++ y) b (p ++ ⟨#[46]⟩ ++ y) a x a y)) := lays_five _ _ _ _ _ _ _ _ _ _ _
  have HC : Hid (Boxed5 (five w a (p ++ ⟨#[46]⟩ ++ x) a (p ++ ⟨#[46]⟩ ++ y) b (p ++ ⟨#[46]⟩ ++ y) a x a y) w.heap.size a (p ++ ⟨#[46]⟩ ++ x) a (p ++ ⟨#[46]⟩ ++ y) b (p ++ ⟨#[46]⟩ ++ y) a x a y) := boxed_five _ _ _ _ _ _ _ _ _ _ _
  have hsz : a.size + b.size + p.size + x.size + y.size ≤ 1048576 := by omega
  clear h1 h2
  go_enter Try.func6, Try.ntmps6
  go_wp2_with fail
  refine (bytes5_is a b p x y w (by unfold maxLen; omega) (by unfold maxLen; omega) (by unfold maxLen; omega) (by unfold maxLen; omega) (by unfold maxLen; omega) HB.out).mono ?_
  rintro e wx ⟨rfl, hwx⟩
  subst wx
  go_wp2_with fail
  refine (newRef _ _ _).mono ?_
  rintro e w' ⟨rfl, rfl⟩
  go_wp2_with fail
  refine (newRef _ _ _).mono ?_
  rintro e w' ⟨rfl, rfl⟩
  go_wp2_with fail
  refine (newRef _ _ _).mono ?_
  rintro e w' ⟨rfl, rfl⟩
  go_wp2_with fail
  refine (newRef _ _ _).mono ?_
  rintro e w' ⟨rfl, rfl⟩
  go_wp2_with fail
  refine (newRef _ _ _).mono ?_
  rintro e w' ⟨rfl, rfl⟩
  go_wp2_with fail
  refine (segWalk x y _ (by unfold maxLen; omega) (by unfold maxLen; omega)).mono ?_
  rintro e wa ⟨rfl, na, hwa⟩
  have HLA : Hid (Lays w wa ∧ Boxed5 wa w.heap.size a (p ++ ⟨#[46]⟩ ++ x) a (p ++ ⟨#[46]⟩ ++ y) b (p ++ ⟨#[46]⟩ ++ y) a x a y) := by
    have hla := (Lays.refl (five w a (p ++ ⟨#[46]⟩ ++ x) a (p ++ ⟨#[46]⟩ ++ y) b (p ++ ⟨#[46]⟩ ++ y) a x a y)).drewN na
    rw [← hwa] at hla
    exact ⟨HW.out.trans hla, HC.out.lays hla⟩
  clear hwa HW HC
  rw [HF.out.1]
  obtain ⟨c0, c1, c2, c3, c4, c5, c6, c7, c8, c9⟩ := HLA.out.2
  go_wp2_with fail
  refine (zzOverlaps _ _ _ _ _).mono ?_
  rintro e w1 ⟨rfl, hl1⟩
  have HL1 : Hid (Lays w w1 ∧ Boxed5 w1 w.heap.size a (p ++ ⟨#[46]⟩ ++ x) a (p ++ ⟨#[46]⟩ ++ y) b (p ++ ⟨#[46]⟩ ++ y) a x a y) := ⟨HLA.out.1.trans hl1, HLA.out.2.lays hl1⟩
  clear hl1 HLA c0 c1 c2 c3 c4 c5 c6 c7 c8 c9
  obtain ⟨c0, c1, c2, c3, c4, c5, c6, c7, c8, c9⟩ := HL1.out.2
  rw [ovl_xy a p HF.out.1 HF.out.2.1 HF.out.2.2.2.1 HF.out.2.2.2.2]
  go_wp2_with fail
  refine (zzOverlaps _ _ _ _ _).mono ?_
  rintro e w2 ⟨rfl, hl2⟩
  have HL2 : Hid (Lays w w2 ∧ Boxed5 w2 w.heap.size a (p ++ ⟨#[46]⟩ ++ x) a (p ++ ⟨#[46]⟩ ++ y) b (p ++ ⟨#[46]⟩ ++ y) a x a y) := ⟨HL1.out.1.trans hl2, HL1.out.2.lays hl2⟩
  clear hl2 HL1 c0 c1 c2 c3 c4 c5 c6 c7 c8 c9
  obtain ⟨c0, c1, c2, c3, c4, c5, c6, c7, c8, c9⟩ := HL2.out.2
  rw [ovl_xy a p HF.out.2.1 HF.out.1 HF.out.2.2.2.2 HF.out.2.2.2.1]
  go_wp2_with fail
  refine (zzOverlaps _ _ _ _ _).mono ?_
  rintro e w3 ⟨rfl, hl3⟩
  have HL3 : Hid (Lays w w3 ∧ Boxed5 w3 w.heap.size a (p ++ ⟨#[46]⟩ ++ x) a (p ++ ⟨#[46]⟩ ++ y) b (p ++ ⟨#[46]⟩ ++ y) a x a y) := ⟨HL2.out.1.trans hl3, HL2.out.2.lays hl3⟩
  clear hl3 HL2 c0 c1 c2 c3 c4 c5 c6 c7 c8 c9
  obtain ⟨c0, c1, c2, c3, c4, c5, c6, c7, c8, c9⟩ := HL3.out.2
  rw [ovl_b a HF.out.1 HF.out.2.1 HF.out.2.2.2.1 HF.out.2.2.2.2]
  go_wp2_with fail
  refine (zzOverlaps _ _ _ _ _).mono ?_
  rintro e w4 ⟨rfl, hl4⟩
  have HL4 : Hid (Lays w w4 ∧ Boxed5 w4 w.heap.size a (p ++ ⟨#[46]⟩ ++ x) a (p ++ ⟨#[46]⟩ ++ y) b (p ++ ⟨#[46]⟩ ++ y) a x a y) := ⟨HL3.out.1.trans hl4, HL3.out.2.lays hl4⟩
  clear hl4 HL3 c0 c1 c2 c3 c4 c5 c6 c7 c8 c9
  obtain ⟨c0, c1, c2, c3, c4, c5, c6, c7, c8, c9⟩ := HL4.out.2
  rw [ovl_b a HF.out.2.1 HF.out.1 HF.out.2.2.2.2 HF.out.2.2.2.1]
  go_wp2_with fail
  refine (zzOverlaps _ _ _ _ _).mono ?_
  rintro e w5 ⟨rfl, hl5⟩
  have HL5 : Hid (Lays w w5 ∧ Boxed5 w5 w.heap.size a (p ++ ⟨#[46]⟩ ++ x) a (p ++ ⟨#[46]⟩ ++ y) b (p ++ ⟨#[46]⟩ ++ y) a x a y) := ⟨HL4.out.1.trans hl5, HL4.out.2.lays hl5⟩
  clear hl5 HL4 c0 c1 c2 c3 c4 c5 c6 c7 c8 c9
  obtain ⟨c0, c1, c2, c3, c4, c5, c6, c7, c8, c9⟩ := HL5.out.2
  rw [ovl_q a b p HF.out.1 HF.out.2.1 HF.out.2.2.2.1 HF.out.2.2.2.2 HF.out.2.2.1]
  go_wp2_with fail
  go_ret
  exact ⟨rfl, HL5.out.1.grown⟩

set_option maxHeartbeats 1000000 in
theorem under_false_true_true (a b p x y : ByteArray) (w : World) (ha : a.size ≤ 65536) (hb : b.size ≤ 65536) (hp : p.size ≤ 65536) (hx : x.size ≤ 65536) (hy : y.size ≤ 65536)
    (ex : x.toList.isEmpty = false) (ey : y.toList.isEmpty = false) (h1 : seg x y = false) (h2 : seg y x = true) (hr : (a.toList == b.toList) = true) :
    Calls Try.prog 6 #[.string a, .string b, .string p, .string x, .string y] w fun e w' => e = .returned (.bool true) ∧ Grown w w' := by
  have HB : Hid (decide (a.size + b.size + p.size + x.size + y.size ≤ 1048576) = true) := decide_eq_true (by omega)
  have HF : Hid (seg x y = false ∧ seg y x = true ∧ (a.toList == b.toList) = true ∧ x.toList.isEmpty = false ∧ y.toList.isEmpty = false) := ⟨h1, h2, hr, ex, ey⟩
  have HW : Hid (Lays w (five w a (p ++ ⟨#[46]⟩ ++ x) a (p ++ ⟨#[46]⟩ ++ y) b (p ++ ⟨#[46]⟩ ++ y) a x a y)) := lays_five _ _ _ _ _ _ _ _ _ _ _
  have HC : Hid (Boxed5 (five w a (p ++ ⟨#[46]⟩ ++ x) a (p ++ ⟨#[46]⟩ ++ y) b (p ++ ⟨#[46]⟩ ++ y) a x a y) w.heap.size a (p ++ ⟨#[46]⟩ ++ x) a (p ++ ⟨#[46]⟩ ++ y) b (p ++ ⟨#[46]⟩ ++ y) a x a y) := boxed_five _ _ _ _ _ _ _ _ _ _ _
  have hsz : a.size + b.size + p.size + x.size + y.size ≤ 1048576 := by omega
  clear h1 h2
  go_enter Try.func6, Try.ntmps6
  go_wp2_with fail
  refine (bytes5_is a b p x y w (by unfold maxLen; omega) (by unfold maxLen; omega) (by unfold maxLen; omega) (by unfold maxLen; omega) (by unfold maxLen; omega) HB.out).mono ?_
  rintro e wx ⟨rfl, hwx⟩
  subst wx
  go_wp2_with fail
  refine (newRef _ _ _).mono ?_
  rintro e w' ⟨rfl, rfl⟩
  go_wp2_with fail
  refine (newRef _ _ _).mono ?_
  rintro e w' ⟨rfl, rfl⟩
  go_wp2_with fail
  refine (newRef _ _ _).mono ?_
  rintro e w' ⟨rfl, rfl⟩
  go_wp2_with fail
  refine (newRef _ _ _).mono ?_
  rintro e w' ⟨rfl, rfl⟩
  go_wp2_with fail
  refine (newRef _ _ _).mono ?_
  rintro e w' ⟨rfl, rfl⟩
  go_wp2_with fail
  refine (segWalk x y _ (by unfold maxLen; omega) (by unfold maxLen; omega)).mono ?_
  rintro e wa ⟨rfl, na, hwa⟩
  have HLA : Hid (Lays w wa ∧ Boxed5 wa w.heap.size a (p ++ ⟨#[46]⟩ ++ x) a (p ++ ⟨#[46]⟩ ++ y) b (p ++ ⟨#[46]⟩ ++ y) a x a y) := by
    have hla := (Lays.refl (five w a (p ++ ⟨#[46]⟩ ++ x) a (p ++ ⟨#[46]⟩ ++ y) b (p ++ ⟨#[46]⟩ ++ y) a x a y)).drewN na
    rw [← hwa] at hla
    exact ⟨HW.out.trans hla, HC.out.lays hla⟩
  clear hwa HW HC
  rw [HF.out.1]
  go_wp2_with fail
  refine (segWalk y x _ (by unfold maxLen; omega) (by unfold maxLen; omega)).mono ?_
  rintro e wb ⟨rfl, nb, hwb⟩
  have HLB : Hid (Lays w wb ∧ Boxed5 wb w.heap.size a (p ++ ⟨#[46]⟩ ++ x) a (p ++ ⟨#[46]⟩ ++ y) b (p ++ ⟨#[46]⟩ ++ y) a x a y) := by
    have hlb := (Lays.refl wa).drewN nb
    rw [← hwb] at hlb
    exact ⟨HLA.out.1.trans hlb, HLA.out.2.lays hlb⟩
  clear hwb HLA
  rw [HF.out.2.1]
  obtain ⟨c0, c1, c2, c3, c4, c5, c6, c7, c8, c9⟩ := HLB.out.2
  go_wp2_with fail
  refine (zzOverlaps _ _ _ _ _).mono ?_
  rintro e w1 ⟨rfl, hl1⟩
  have HL1 : Hid (Lays w w1 ∧ Boxed5 w1 w.heap.size a (p ++ ⟨#[46]⟩ ++ x) a (p ++ ⟨#[46]⟩ ++ y) b (p ++ ⟨#[46]⟩ ++ y) a x a y) := ⟨HLB.out.1.trans hl1, HLB.out.2.lays hl1⟩
  clear hl1 HLB c0 c1 c2 c3 c4 c5 c6 c7 c8 c9
  obtain ⟨c0, c1, c2, c3, c4, c5, c6, c7, c8, c9⟩ := HL1.out.2
  rw [ovl_xy a p HF.out.1 HF.out.2.1 HF.out.2.2.2.1 HF.out.2.2.2.2]
  go_wp2_with fail
  refine (zzOverlaps _ _ _ _ _).mono ?_
  rintro e w2 ⟨rfl, hl2⟩
  have HL2 : Hid (Lays w w2 ∧ Boxed5 w2 w.heap.size a (p ++ ⟨#[46]⟩ ++ x) a (p ++ ⟨#[46]⟩ ++ y) b (p ++ ⟨#[46]⟩ ++ y) a x a y) := ⟨HL1.out.1.trans hl2, HL1.out.2.lays hl2⟩
  clear hl2 HL1 c0 c1 c2 c3 c4 c5 c6 c7 c8 c9
  obtain ⟨c0, c1, c2, c3, c4, c5, c6, c7, c8, c9⟩ := HL2.out.2
  rw [ovl_xy a p HF.out.2.1 HF.out.1 HF.out.2.2.2.2 HF.out.2.2.2.1]
  go_wp2_with fail
  refine (zzOverlaps _ _ _ _ _).mono ?_
  rintro e w3 ⟨rfl, hl3⟩
  have HL3 : Hid (Lays w w3 ∧ Boxed5 w3 w.heap.size a (p ++ ⟨#[46]⟩ ++ x) a (p ++ ⟨#[46]⟩ ++ y) b (p ++ ⟨#[46]⟩ ++ y) a x a y) := ⟨HL2.out.1.trans hl3, HL2.out.2.lays hl3⟩
  clear hl3 HL2 c0 c1 c2 c3 c4 c5 c6 c7 c8 c9
  obtain ⟨c0, c1, c2, c3, c4, c5, c6, c7, c8, c9⟩ := HL3.out.2
  rw [ovl_b a HF.out.1 HF.out.2.1 HF.out.2.2.2.1 HF.out.2.2.2.2]
  go_wp2_with fail
  refine (zzOverlaps _ _ _ _ _).mono ?_
  rintro e w4 ⟨rfl, hl4⟩
  have HL4 : Hid (Lays w w4 ∧ Boxed5 w4 w.heap.size a (p ++ ⟨#[46]⟩ ++ x) a (p ++ ⟨#[46]⟩ ++ y) b (p ++ ⟨#[46]⟩ ++ y) a x a y) := ⟨HL3.out.1.trans hl4, HL3.out.2.lays hl4⟩
  clear hl4 HL3 c0 c1 c2 c3 c4 c5 c6 c7 c8 c9
  obtain ⟨c0, c1, c2, c3, c4, c5, c6, c7, c8, c9⟩ := HL4.out.2
  rw [ovl_b a HF.out.2.1 HF.out.1 HF.out.2.2.2.2 HF.out.2.2.2.1]
  go_wp2_with fail
  refine (zzOverlaps _ _ _ _ _).mono ?_
  rintro e w5 ⟨rfl, hl5⟩
  have HL5 : Hid (Lays w w5 ∧ Boxed5 w5 w.heap.size a (p ++ ⟨#[46]⟩ ++ x) a (p ++ ⟨#[46]⟩ ++ y) b (p ++ ⟨#[46]⟩ ++ y) a x a y) := ⟨HL4.out.1.trans hl5, HL4.out.2.lays hl5⟩
  clear hl5 HL4 c0 c1 c2 c3 c4 c5 c6 c7 c8 c9
  obtain ⟨c0, c1, c2, c3, c4, c5, c6, c7, c8, c9⟩ := HL5.out.2
  rw [ovl_q a b p HF.out.1 HF.out.2.1 HF.out.2.2.2.1 HF.out.2.2.2.2 HF.out.2.2.1]
  go_wp2_with fail
  go_ret
  exact ⟨rfl, HL5.out.1.grown⟩

set_option maxHeartbeats 1000000 in
theorem under_false_true_false (a b p x y : ByteArray) (w : World) (ha : a.size ≤ 65536) (hb : b.size ≤ 65536) (hp : p.size ≤ 65536) (hx : x.size ≤ 65536) (hy : y.size ≤ 65536)
    (ex : x.toList.isEmpty = false) (ey : y.toList.isEmpty = false) (h1 : seg x y = false) (h2 : seg y x = true) (hr : (a.toList == b.toList) = false) :
    Calls Try.prog 6 #[.string a, .string b, .string p, .string x, .string y] w fun e w' => e = .returned (.bool true) ∧ Grown w w' := by
  have HB : Hid (decide (a.size + b.size + p.size + x.size + y.size ≤ 1048576) = true) := decide_eq_true (by omega)
  have HF : Hid (seg x y = false ∧ seg y x = true ∧ (a.toList == b.toList) = false ∧ x.toList.isEmpty = false ∧ y.toList.isEmpty = false) := ⟨h1, h2, hr, ex, ey⟩
  have HW : Hid (Lays w (five w a (p ++ ⟨#[46]⟩ ++ x) a (p ++ ⟨#[46]⟩ ++ y) b (p ++ ⟨#[46]⟩ ++ y) a x a y)) := lays_five _ _ _ _ _ _ _ _ _ _ _
  have HC : Hid (Boxed5 (five w a (p ++ ⟨#[46]⟩ ++ x) a (p ++ ⟨#[46]⟩ ++ y) b (p ++ ⟨#[46]⟩ ++ y) a x a y) w.heap.size a (p ++ ⟨#[46]⟩ ++ x) a (p ++ ⟨#[46]⟩ ++ y) b (p ++ ⟨#[46]⟩ ++ y) a x a y) := boxed_five _ _ _ _ _ _ _ _ _ _ _
  have hsz : a.size + b.size + p.size + x.size + y.size ≤ 1048576 := by omega
  clear h1 h2
  go_enter Try.func6, Try.ntmps6
  go_wp2_with fail
  refine (bytes5_is a b p x y w (by unfold maxLen; omega) (by unfold maxLen; omega) (by unfold maxLen; omega) (by unfold maxLen; omega) (by unfold maxLen; omega) HB.out).mono ?_
  rintro e wx ⟨rfl, hwx⟩
  subst wx
  go_wp2_with fail
  refine (newRef _ _ _).mono ?_
  rintro e w' ⟨rfl, rfl⟩
  go_wp2_with fail
  refine (newRef _ _ _).mono ?_
  rintro e w' ⟨rfl, rfl⟩
  go_wp2_with fail
  refine (newRef _ _ _).mono ?_
  rintro e w' ⟨rfl, rfl⟩
  go_wp2_with fail
  refine (newRef _ _ _).mono ?_
  rintro e w' ⟨rfl, rfl⟩
  go_wp2_with fail
  refine (newRef _ _ _).mono ?_
  rintro e w' ⟨rfl, rfl⟩
  go_wp2_with fail
  refine (segWalk x y _ (by unfold maxLen; omega) (by unfold maxLen; omega)).mono ?_
  rintro e wa ⟨rfl, na, hwa⟩
  have HLA : Hid (Lays w wa ∧ Boxed5 wa w.heap.size a (p ++ ⟨#[46]⟩ ++ x) a (p ++ ⟨#[46]⟩ ++ y) b (p ++ ⟨#[46]⟩ ++ y) a x a y) := by
    have hla := (Lays.refl (five w a (p ++ ⟨#[46]⟩ ++ x) a (p ++ ⟨#[46]⟩ ++ y) b (p ++ ⟨#[46]⟩ ++ y) a x a y)).drewN na
    rw [← hwa] at hla
    exact ⟨HW.out.trans hla, HC.out.lays hla⟩
  clear hwa HW HC
  rw [HF.out.1]
  go_wp2_with fail
  refine (segWalk y x _ (by unfold maxLen; omega) (by unfold maxLen; omega)).mono ?_
  rintro e wb ⟨rfl, nb, hwb⟩
  have HLB : Hid (Lays w wb ∧ Boxed5 wb w.heap.size a (p ++ ⟨#[46]⟩ ++ x) a (p ++ ⟨#[46]⟩ ++ y) b (p ++ ⟨#[46]⟩ ++ y) a x a y) := by
    have hlb := (Lays.refl wa).drewN nb
    rw [← hwb] at hlb
    exact ⟨HLA.out.1.trans hlb, HLA.out.2.lays hlb⟩
  clear hwb HLA
  rw [HF.out.2.1]
  obtain ⟨c0, c1, c2, c3, c4, c5, c6, c7, c8, c9⟩ := HLB.out.2
  go_wp2_with fail
  refine (zzOverlaps _ _ _ _ _).mono ?_
  rintro e w1 ⟨rfl, hl1⟩
  have HL1 : Hid (Lays w w1 ∧ Boxed5 w1 w.heap.size a (p ++ ⟨#[46]⟩ ++ x) a (p ++ ⟨#[46]⟩ ++ y) b (p ++ ⟨#[46]⟩ ++ y) a x a y) := ⟨HLB.out.1.trans hl1, HLB.out.2.lays hl1⟩
  clear hl1 HLB c0 c1 c2 c3 c4 c5 c6 c7 c8 c9
  obtain ⟨c0, c1, c2, c3, c4, c5, c6, c7, c8, c9⟩ := HL1.out.2
  rw [ovl_xy a p HF.out.1 HF.out.2.1 HF.out.2.2.2.1 HF.out.2.2.2.2]
  go_wp2_with fail
  refine (zzOverlaps _ _ _ _ _).mono ?_
  rintro e w2 ⟨rfl, hl2⟩
  have HL2 : Hid (Lays w w2 ∧ Boxed5 w2 w.heap.size a (p ++ ⟨#[46]⟩ ++ x) a (p ++ ⟨#[46]⟩ ++ y) b (p ++ ⟨#[46]⟩ ++ y) a x a y) := ⟨HL1.out.1.trans hl2, HL1.out.2.lays hl2⟩
  clear hl2 HL1 c0 c1 c2 c3 c4 c5 c6 c7 c8 c9
  obtain ⟨c0, c1, c2, c3, c4, c5, c6, c7, c8, c9⟩ := HL2.out.2
  rw [ovl_xy a p HF.out.2.1 HF.out.1 HF.out.2.2.2.2 HF.out.2.2.2.1]
  go_wp2_with fail
  refine (zzOverlaps _ _ _ _ _).mono ?_
  rintro e w3 ⟨rfl, hl3⟩
  have HL3 : Hid (Lays w w3 ∧ Boxed5 w3 w.heap.size a (p ++ ⟨#[46]⟩ ++ x) a (p ++ ⟨#[46]⟩ ++ y) b (p ++ ⟨#[46]⟩ ++ y) a x a y) := ⟨HL2.out.1.trans hl3, HL2.out.2.lays hl3⟩
  clear hl3 HL2 c0 c1 c2 c3 c4 c5 c6 c7 c8 c9
  obtain ⟨c0, c1, c2, c3, c4, c5, c6, c7, c8, c9⟩ := HL3.out.2
  rw [ovl_b a HF.out.1 HF.out.2.1 HF.out.2.2.2.1 HF.out.2.2.2.2]
  go_wp2_with fail
  refine (zzOverlaps _ _ _ _ _).mono ?_
  rintro e w4 ⟨rfl, hl4⟩
  have HL4 : Hid (Lays w w4 ∧ Boxed5 w4 w.heap.size a (p ++ ⟨#[46]⟩ ++ x) a (p ++ ⟨#[46]⟩ ++ y) b (p ++ ⟨#[46]⟩ ++ y) a x a y) := ⟨HL3.out.1.trans hl4, HL3.out.2.lays hl4⟩
  clear hl4 HL3 c0 c1 c2 c3 c4 c5 c6 c7 c8 c9
  obtain ⟨c0, c1, c2, c3, c4, c5, c6, c7, c8, c9⟩ := HL4.out.2
  rw [ovl_b a HF.out.2.1 HF.out.1 HF.out.2.2.2.2 HF.out.2.2.2.1]
  go_wp2_with fail
  refine (zzOverlaps _ _ _ _ _).mono ?_
  rintro e w5 ⟨rfl, hl5⟩
  have HL5 : Hid (Lays w w5 ∧ Boxed5 w5 w.heap.size a (p ++ ⟨#[46]⟩ ++ x) a (p ++ ⟨#[46]⟩ ++ y) b (p ++ ⟨#[46]⟩ ++ y) a x a y) := ⟨HL4.out.1.trans hl5, HL4.out.2.lays hl5⟩
  clear hl5 HL4 c0 c1 c2 c3 c4 c5 c6 c7 c8 c9
  obtain ⟨c0, c1, c2, c3, c4, c5, c6, c7, c8, c9⟩ := HL5.out.2
  rw [ovl_q a b p HF.out.1 HF.out.2.1 HF.out.2.2.2.1 HF.out.2.2.2.2 HF.out.2.2.1]
  go_wp2_with fail
  go_ret
  exact ⟨rfl, HL5.out.1.grown⟩

set_option maxHeartbeats 1000000 in
theorem under_false_false_true (a b p x y : ByteArray) (w : World) (ha : a.size ≤ 65536) (hb : b.size ≤ 65536) (hp : p.size ≤ 65536) (hx : x.size ≤ 65536) (hy : y.size ≤ 65536)
    (ex : x.toList.isEmpty = false) (ey : y.toList.isEmpty = false) (h1 : seg x y = false) (h2 : seg y x = false) (hr : (a.toList == b.toList) = true) :
    Calls Try.prog 6 #[.string a, .string b, .string p, .string x, .string y] w fun e w' => e = .returned (.bool true) ∧ Grown w w' := by
  have HB : Hid (decide (a.size + b.size + p.size + x.size + y.size ≤ 1048576) = true) := decide_eq_true (by omega)
  have HF : Hid (seg x y = false ∧ seg y x = false ∧ (a.toList == b.toList) = true ∧ x.toList.isEmpty = false ∧ y.toList.isEmpty = false) := ⟨h1, h2, hr, ex, ey⟩
  have HW : Hid (Lays w (five w a (p ++ ⟨#[46]⟩ ++ x) a (p ++ ⟨#[46]⟩ ++ y) b (p ++ ⟨#[46]⟩ ++ y) a x a y)) := lays_five _ _ _ _ _ _ _ _ _ _ _
  have HC : Hid (Boxed5 (five w a (p ++ ⟨#[46]⟩ ++ x) a (p ++ ⟨#[46]⟩ ++ y) b (p ++ ⟨#[46]⟩ ++ y) a x a y) w.heap.size a (p ++ ⟨#[46]⟩ ++ x) a (p ++ ⟨#[46]⟩ ++ y) b (p ++ ⟨#[46]⟩ ++ y) a x a y) := boxed_five _ _ _ _ _ _ _ _ _ _ _
  have hsz : a.size + b.size + p.size + x.size + y.size ≤ 1048576 := by omega
  clear h1 h2
  go_enter Try.func6, Try.ntmps6
  go_wp2_with fail
  refine (bytes5_is a b p x y w (by unfold maxLen; omega) (by unfold maxLen; omega) (by unfold maxLen; omega) (by unfold maxLen; omega) (by unfold maxLen; omega) HB.out).mono ?_
  rintro e wx ⟨rfl, hwx⟩
  subst wx
  go_wp2_with fail
  refine (newRef _ _ _).mono ?_
  rintro e w' ⟨rfl, rfl⟩
  go_wp2_with fail
  refine (newRef _ _ _).mono ?_
  rintro e w' ⟨rfl, rfl⟩
  go_wp2_with fail
  refine (newRef _ _ _).mono ?_
  rintro e w' ⟨rfl, rfl⟩
  go_wp2_with fail
  refine (newRef _ _ _).mono ?_
  rintro e w' ⟨rfl, rfl⟩
  go_wp2_with fail
  refine (newRef _ _ _).mono ?_
  rintro e w' ⟨rfl, rfl⟩
  go_wp2_with fail
  refine (segWalk x y _ (by unfold maxLen; omega) (by unfold maxLen; omega)).mono ?_
  rintro e wa ⟨rfl, na, hwa⟩
  have HLA : Hid (Lays w wa ∧ Boxed5 wa w.heap.size a (p ++ ⟨#[46]⟩ ++ x) a (p ++ ⟨#[46]⟩ ++ y) b (p ++ ⟨#[46]⟩ ++ y) a x a y) := by
    have hla := (Lays.refl (five w a (p ++ ⟨#[46]⟩ ++ x) a (p ++ ⟨#[46]⟩ ++ y) b (p ++ ⟨#[46]⟩ ++ y) a x a y)).drewN na
    rw [← hwa] at hla
    exact ⟨HW.out.trans hla, HC.out.lays hla⟩
  clear hwa HW HC
  rw [HF.out.1]
  go_wp2_with fail
  refine (segWalk y x _ (by unfold maxLen; omega) (by unfold maxLen; omega)).mono ?_
  rintro e wb ⟨rfl, nb, hwb⟩
  have HLB : Hid (Lays w wb ∧ Boxed5 wb w.heap.size a (p ++ ⟨#[46]⟩ ++ x) a (p ++ ⟨#[46]⟩ ++ y) b (p ++ ⟨#[46]⟩ ++ y) a x a y) := by
    have hlb := (Lays.refl wa).drewN nb
    rw [← hwb] at hlb
    exact ⟨HLA.out.1.trans hlb, HLA.out.2.lays hlb⟩
  clear hwb HLA
  rw [HF.out.2.1]
  obtain ⟨c0, c1, c2, c3, c4, c5, c6, c7, c8, c9⟩ := HLB.out.2
  go_wp2_with fail
  refine (zzOverlaps _ _ _ _ _).mono ?_
  rintro e w1 ⟨rfl, hl1⟩
  have HL1 : Hid (Lays w w1 ∧ Boxed5 w1 w.heap.size a (p ++ ⟨#[46]⟩ ++ x) a (p ++ ⟨#[46]⟩ ++ y) b (p ++ ⟨#[46]⟩ ++ y) a x a y) := ⟨HLB.out.1.trans hl1, HLB.out.2.lays hl1⟩
  clear hl1 HLB c0 c1 c2 c3 c4 c5 c6 c7 c8 c9
  obtain ⟨c0, c1, c2, c3, c4, c5, c6, c7, c8, c9⟩ := HL1.out.2
  rw [ovl_xy a p HF.out.1 HF.out.2.1 HF.out.2.2.2.1 HF.out.2.2.2.2]
  go_wp2_with fail
  refine (zzOverlaps _ _ _ _ _).mono ?_
  rintro e w2 ⟨rfl, hl2⟩
  have HL2 : Hid (Lays w w2 ∧ Boxed5 w2 w.heap.size a (p ++ ⟨#[46]⟩ ++ x) a (p ++ ⟨#[46]⟩ ++ y) b (p ++ ⟨#[46]⟩ ++ y) a x a y) := ⟨HL1.out.1.trans hl2, HL1.out.2.lays hl2⟩
  clear hl2 HL1 c0 c1 c2 c3 c4 c5 c6 c7 c8 c9
  obtain ⟨c0, c1, c2, c3, c4, c5, c6, c7, c8, c9⟩ := HL2.out.2
  rw [ovl_xy a p HF.out.2.1 HF.out.1 HF.out.2.2.2.2 HF.out.2.2.2.1]
  go_wp2_with fail
  refine (zzOverlaps _ _ _ _ _).mono ?_
  rintro e w3 ⟨rfl, hl3⟩
  have HL3 : Hid (Lays w w3 ∧ Boxed5 w3 w.heap.size a (p ++ ⟨#[46]⟩ ++ x) a (p ++ ⟨#[46]⟩ ++ y) b (p ++ ⟨#[46]⟩ ++ y) a x a y) := ⟨HL2.out.1.trans hl3, HL2.out.2.lays hl3⟩
  clear hl3 HL2 c0 c1 c2 c3 c4 c5 c6 c7 c8 c9
  obtain ⟨c0, c1, c2, c3, c4, c5, c6, c7, c8, c9⟩ := HL3.out.2
  rw [ovl_b a HF.out.1 HF.out.2.1 HF.out.2.2.2.1 HF.out.2.2.2.2]
  go_wp2_with fail
  refine (zzOverlaps _ _ _ _ _).mono ?_
  rintro e w4 ⟨rfl, hl4⟩
  have HL4 : Hid (Lays w w4 ∧ Boxed5 w4 w.heap.size a (p ++ ⟨#[46]⟩ ++ x) a (p ++ ⟨#[46]⟩ ++ y) b (p ++ ⟨#[46]⟩ ++ y) a x a y) := ⟨HL3.out.1.trans hl4, HL3.out.2.lays hl4⟩
  clear hl4 HL3 c0 c1 c2 c3 c4 c5 c6 c7 c8 c9
  obtain ⟨c0, c1, c2, c3, c4, c5, c6, c7, c8, c9⟩ := HL4.out.2
  rw [ovl_b a HF.out.2.1 HF.out.1 HF.out.2.2.2.2 HF.out.2.2.2.1]
  go_wp2_with fail
  refine (zzOverlaps _ _ _ _ _).mono ?_
  rintro e w5 ⟨rfl, hl5⟩
  have HL5 : Hid (Lays w w5 ∧ Boxed5 w5 w.heap.size a (p ++ ⟨#[46]⟩ ++ x) a (p ++ ⟨#[46]⟩ ++ y) b (p ++ ⟨#[46]⟩ ++ y) a x a y) := ⟨HL4.out.1.trans hl5, HL4.out.2.lays hl5⟩
  clear hl5 HL4 c0 c1 c2 c3 c4 c5 c6 c7 c8 c9
  obtain ⟨c0, c1, c2, c3, c4, c5, c6, c7, c8, c9⟩ := HL5.out.2
  rw [ovl_q a b p HF.out.1 HF.out.2.1 HF.out.2.2.2.1 HF.out.2.2.2.2 HF.out.2.2.1]
  go_wp2_with fail
  go_ret
  exact ⟨rfl, HL5.out.1.grown⟩

set_option maxHeartbeats 1000000 in
theorem under_false_false_false (a b p x y : ByteArray) (w : World) (ha : a.size ≤ 65536) (hb : b.size ≤ 65536) (hp : p.size ≤ 65536) (hx : x.size ≤ 65536) (hy : y.size ≤ 65536)
    (ex : x.toList.isEmpty = false) (ey : y.toList.isEmpty = false) (h1 : seg x y = false) (h2 : seg y x = false) (hr : (a.toList == b.toList) = false) :
    Calls Try.prog 6 #[.string a, .string b, .string p, .string x, .string y] w fun e w' => e = .returned (.bool true) ∧ Grown w w' := by
  have HB : Hid (decide (a.size + b.size + p.size + x.size + y.size ≤ 1048576) = true) := decide_eq_true (by omega)
  have HF : Hid (seg x y = false ∧ seg y x = false ∧ (a.toList == b.toList) = false ∧ x.toList.isEmpty = false ∧ y.toList.isEmpty = false) := ⟨h1, h2, hr, ex, ey⟩
  have HW : Hid (Lays w (five w a (p ++ ⟨#[46]⟩ ++ x) a (p ++ ⟨#[46]⟩ ++ y) b (p ++ ⟨#[46]⟩ ++ y) a x a y)) := lays_five _ _ _ _ _ _ _ _ _ _ _
  have HC : Hid (Boxed5 (five w a (p ++ ⟨#[46]⟩ ++ x) a (p ++ ⟨#[46]⟩ ++ y) b (p ++ ⟨#[46]⟩ ++ y) a x a y) w.heap.size a (p ++ ⟨#[46]⟩ ++ x) a (p ++ ⟨#[46]⟩ ++ y) b (p ++ ⟨#[46]⟩ ++ y) a x a y) := boxed_five _ _ _ _ _ _ _ _ _ _ _
  have hsz : a.size + b.size + p.size + x.size + y.size ≤ 1048576 := by omega
  clear h1 h2
  go_enter Try.func6, Try.ntmps6
  go_wp2_with fail
  refine (bytes5_is a b p x y w (by unfold maxLen; omega) (by unfold maxLen; omega) (by unfold maxLen; omega) (by unfold maxLen; omega) (by unfold maxLen; omega) HB.out).mono ?_
  rintro e wx ⟨rfl, hwx⟩
  subst wx
  go_wp2_with fail
  refine (newRef _ _ _).mono ?_
  rintro e w' ⟨rfl, rfl⟩
  go_wp2_with fail
  refine (newRef _ _ _).mono ?_
  rintro e w' ⟨rfl, rfl⟩
  go_wp2_with fail
  refine (newRef _ _ _).mono ?_
  rintro e w' ⟨rfl, rfl⟩
  go_wp2_with fail
  refine (newRef _ _ _).mono ?_
  rintro e w' ⟨rfl, rfl⟩
  go_wp2_with fail
  refine (newRef _ _ _).mono ?_
  rintro e w' ⟨rfl, rfl⟩
  go_wp2_with fail
  refine (segWalk x y _ (by unfold maxLen; omega) (by unfold maxLen; omega)).mono ?_
  rintro e wa ⟨rfl, na, hwa⟩
  have HLA : Hid (Lays w wa ∧ Boxed5 wa w.heap.size a (p ++ ⟨#[46]⟩ ++ x) a (p ++ ⟨#[46]⟩ ++ y) b (p ++ ⟨#[46]⟩ ++ y) a x a y) := by
    have hla := (Lays.refl (five w a (p ++ ⟨#[46]⟩ ++ x) a (p ++ ⟨#[46]⟩ ++ y) b (p ++ ⟨#[46]⟩ ++ y) a x a y)).drewN na
    rw [← hwa] at hla
    exact ⟨HW.out.trans hla, HC.out.lays hla⟩
  clear hwa HW HC
  rw [HF.out.1]
  go_wp2_with fail
  refine (segWalk y x _ (by unfold maxLen; omega) (by unfold maxLen; omega)).mono ?_
  rintro e wb ⟨rfl, nb, hwb⟩
  have HLB : Hid (Lays w wb ∧ Boxed5 wb w.heap.size a (p ++ ⟨#[46]⟩ ++ x) a (p ++ ⟨#[46]⟩ ++ y) b (p ++ ⟨#[46]⟩ ++ y) a x a y) := by
    have hlb := (Lays.refl wa).drewN nb
    rw [← hwb] at hlb
    exact ⟨HLA.out.1.trans hlb, HLA.out.2.lays hlb⟩
  clear hwb HLA
  rw [HF.out.2.1]
  obtain ⟨c0, c1, c2, c3, c4, c5, c6, c7, c8, c9⟩ := HLB.out.2
  go_wp2_with fail
  refine (zzOverlaps _ _ _ _ _).mono ?_
  rintro e w1 ⟨rfl, hl1⟩
  have HL1 : Hid (Lays w w1 ∧ Boxed5 w1 w.heap.size a (p ++ ⟨#[46]⟩ ++ x) a (p ++ ⟨#[46]⟩ ++ y) b (p ++ ⟨#[46]⟩ ++ y) a x a y) := ⟨HLB.out.1.trans hl1, HLB.out.2.lays hl1⟩
  clear hl1 HLB c0 c1 c2 c3 c4 c5 c6 c7 c8 c9
  obtain ⟨c0, c1, c2, c3, c4, c5, c6, c7, c8, c9⟩ := HL1.out.2
  rw [ovl_xy a p HF.out.1 HF.out.2.1 HF.out.2.2.2.1 HF.out.2.2.2.2]
  go_wp2_with fail
  refine (zzOverlaps _ _ _ _ _).mono ?_
  rintro e w2 ⟨rfl, hl2⟩
  have HL2 : Hid (Lays w w2 ∧ Boxed5 w2 w.heap.size a (p ++ ⟨#[46]⟩ ++ x) a (p ++ ⟨#[46]⟩ ++ y) b (p ++ ⟨#[46]⟩ ++ y) a x a y) := ⟨HL1.out.1.trans hl2, HL1.out.2.lays hl2⟩
  clear hl2 HL1 c0 c1 c2 c3 c4 c5 c6 c7 c8 c9
  obtain ⟨c0, c1, c2, c3, c4, c5, c6, c7, c8, c9⟩ := HL2.out.2
  rw [ovl_xy a p HF.out.2.1 HF.out.1 HF.out.2.2.2.2 HF.out.2.2.2.1]
  go_wp2_with fail
  refine (zzOverlaps _ _ _ _ _).mono ?_
  rintro e w3 ⟨rfl, hl3⟩
  have HL3 : Hid (Lays w w3 ∧ Boxed5 w3 w.heap.size a (p ++ ⟨#[46]⟩ ++ x) a (p ++ ⟨#[46]⟩ ++ y) b (p ++ ⟨#[46]⟩ ++ y) a x a y) := ⟨HL2.out.1.trans hl3, HL2.out.2.lays hl3⟩
  clear hl3 HL2 c0 c1 c2 c3 c4 c5 c6 c7 c8 c9
  obtain ⟨c0, c1, c2, c3, c4, c5, c6, c7, c8, c9⟩ := HL3.out.2
  rw [ovl_b a HF.out.1 HF.out.2.1 HF.out.2.2.2.1 HF.out.2.2.2.2]
  go_wp2_with fail
  refine (zzOverlaps _ _ _ _ _).mono ?_
  rintro e w4 ⟨rfl, hl4⟩
  have HL4 : Hid (Lays w w4 ∧ Boxed5 w4 w.heap.size a (p ++ ⟨#[46]⟩ ++ x) a (p ++ ⟨#[46]⟩ ++ y) b (p ++ ⟨#[46]⟩ ++ y) a x a y) := ⟨HL3.out.1.trans hl4, HL3.out.2.lays hl4⟩
  clear hl4 HL3 c0 c1 c2 c3 c4 c5 c6 c7 c8 c9
  obtain ⟨c0, c1, c2, c3, c4, c5, c6, c7, c8, c9⟩ := HL4.out.2
  rw [ovl_b a HF.out.2.1 HF.out.1 HF.out.2.2.2.2 HF.out.2.2.2.1]
  go_wp2_with fail
  refine (zzOverlaps _ _ _ _ _).mono ?_
  rintro e w5 ⟨rfl, hl5⟩
  have HL5 : Hid (Lays w w5 ∧ Boxed5 w5 w.heap.size a (p ++ ⟨#[46]⟩ ++ x) a (p ++ ⟨#[46]⟩ ++ y) b (p ++ ⟨#[46]⟩ ++ y) a x a y) := ⟨HL4.out.1.trans hl5, HL4.out.2.lays hl5⟩
  clear hl5 HL4 c0 c1 c2 c3 c4 c5 c6 c7 c8 c9
  obtain ⟨c0, c1, c2, c3, c4, c5, c6, c7, c8, c9⟩ := HL5.out.2
  rw [ovl_q a b p HF.out.1 HF.out.2.1 HF.out.2.2.2.1 HF.out.2.2.2.2 HF.out.2.2.1]
  go_wp2_with fail
  go_ret
  exact ⟨rfl, HL5.out.1.grown⟩

theorem under_all (a b p x y : ByteArray) (w : World) (ha : a.size ≤ maxLen) (hb : b.size ≤ maxLen) (hp : p.size ≤ maxLen) (hx : x.size ≤ maxLen) (hy : y.size ≤ maxLen) :
    Calls Try.prog 6 #[.string a, .string b, .string p, .string x, .string y] w fun e w' => e = .returned (.bool true) ∧ Grown w w' := by
  by_cases h : a.size ≤ 65536 ∧ b.size ≤ 65536 ∧ p.size ≤ 65536 ∧ x.size ≤ 65536 ∧ y.size ≤ 65536
  · obtain ⟨g0, g1, g2, g3, g4⟩ := h
    cases ex : x.toList.isEmpty with
    | true => exact under_none a b p x y w g0 g1 g2 g3 g4 (Or.inl ex)
    | false =>
      cases ey : y.toList.isEmpty with
      | true => exact under_none a b p x y w g0 g1 g2 g3 g4 (Or.inr ey)
      | false =>
        cases h1 : seg x y <;> cases h2 : seg y x <;> cases hr : (a.toList == b.toList)
        · exact under_false_false_false a b p x y w g0 g1 g2 g3 g4 ex ey h1 h2 hr
        · exact under_false_false_true a b p x y w g0 g1 g2 g3 g4 ex ey h1 h2 hr
        · exact under_false_true_false a b p x y w g0 g1 g2 g3 g4 ex ey h1 h2 hr
        · exact under_false_true_true a b p x y w g0 g1 g2 g3 g4 ex ey h1 h2 hr
        · exact under_true_false_false a b p x y w g0 g1 g2 g3 g4 ex ey h1 h2 hr
        · exact under_true_false_true a b p x y w g0 g1 g2 g3 g4 ex ey h1 h2 hr
        · exact under_true_true_false a b p x y w g0 g1 g2 g3 g4 ex ey h1 h2 hr
        · exact under_true_true_true a b p x y w g0 g1 g2 g3 g4 ex ey h1 h2 hr
  · exact under_out a b p x y w ha hb hp hx hy h
end Go.Proofs.Qxb6618487a
