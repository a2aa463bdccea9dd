/-
  The walk of the law 'FnOverlapsHoldsExtensions'.
-/
import Derived.Test.Qxb6618487aOB
namespace Go.Proofs.Qxb6618487a
open Go.RowKit

theorem bytes4_is (a b c d : ByteArray) (w : World) {r : Bool} (ha : a.size ≤ maxLen) (hb : b.size ≤ maxLen) (hc : c.size ≤ maxLen) (hd : d.size ≤ maxLen) (hr : decide (a.size + b.size + c.size + d.size ≤ 1048576) = r) :
    Calls Try.prog 23 #[.string a, .string b, .string c, .string d] w fun e w' => e = .returned (.bool r) ∧ w' = w := by
  rw [← hr]
  exact bytes4 a b c d w ha hb hc hd

set_option maxHeartbeats 400000 in
theorem holds_out (a b c d : ByteArray) (w : World) (ha : a.size ≤ maxLen) (hb : b.size ≤ maxLen) (hc : c.size ≤ maxLen) (hd : d.size ≤ maxLen)
    (h : ¬ (a.size ≤ 65536 ∧ b.size ≤ 65536 ∧ c.size ≤ 65536 ∧ d.size ≤ 65536)) :
    Calls Try.prog 5 #[.string a, .string b, .string c, .string d] w fun e w' => e = .returned (.bool true) ∧ Grown w w' := by
  by_cases hz : a.size + b.size + c.size + d.size ≤ 1048576
  · have HB : Hid (decide (a.size + b.size + c.size + d.size ≤ 1048576) = true) := decide_eq_true hz
    unfold maxLen at ha hb hc hd
    go_enter Try.func5, Try.ntmps5
    go_wp2_with fail
    refine (bytes4_is a b c d _ (by unfold maxLen; omega) (by unfold maxLen; omega) (by unfold maxLen; omega) (by unfold maxLen; omega) HB.out).mono ?_
    rintro e w' ⟨rfl, rfl⟩
    go_wp2_with fail
    all_goals first | (exfalso; omega) | (go_ret; exact ⟨rfl, Grown.refl _⟩) | go_ways
  · have HB : Hid (decide (a.size + b.size + c.size + d.size ≤ 1048576) = false) := decide_eq_false hz
    unfold maxLen at ha hb hc hd
    go_enter Try.func5, Try.ntmps5
    go_wp2_with fail
    refine (bytes4_is a b c d _ (by unfold maxLen; omega) (by unfold maxLen; omega) (by unfold maxLen; omega) (by unfold maxLen; omega) HB.out).mono ?_
    rintro e w' ⟨rfl, rfl⟩
    go_wp2_with fail
    go_ret
    exact ⟨rfl, Grown.refl _⟩

theorem join_data (p x : ByteArray) : (p ++ ⟨#[46]⟩ ++ x).data.toList = p.data.toList ++ 46 :: x.data.toList := by
  simp

/-- Four boxes, each of two strings, lie behind block n, each behind a twin of its own. -/
structure Boxed (w : World) (n : Nat) (a b c d f g h i : ByteArray) : Prop where
  c0 : w.cell? ⟨n + 1, 0, none⟩ = some (.string a)
  c1 : w.cell? ⟨n + 1, 1, none⟩ = some (.string b)
  c2 : w.cell? ⟨n + 1 + 1 + 1, 0, none⟩ = some (.string c)
  c3 : w.cell? ⟨n + 1 + 1 + 1, 1, none⟩ = some (.string d)
  c4 : w.cell? ⟨n + 1 + 1 + 1 + 1 + 1, 0, none⟩ = some (.string f)
  c5 : w.cell? ⟨n + 1 + 1 + 1 + 1 + 1, 1, none⟩ = some (.string g)
  c6 : w.cell? ⟨n + 1 + 1 + 1 + 1 + 1 + 1 + 1, 0, none⟩ = some (.string h)
  c7 : w.cell? ⟨n + 1 + 1 + 1 + 1 + 1 + 1 + 1, 1, none⟩ = some (.string i)

theorem Boxed.lays {w w' : World} {n : Nat} {a b c d f g h i : ByteArray} (q : Boxed w n a b c d f g h i) (k : Lays w w') : Boxed w' n a b c d f g h i :=
  ⟨k.cell _ _ q.c0, k.cell _ _ q.c1, k.cell _ _ q.c2, k.cell _ _ q.c3, k.cell _ _ q.c4, k.cell _ _ q.c5, k.cell _ _ q.c6, k.cell _ _ q.c7⟩

/-- The world behind the four boxes. -/
abbrev four (w : World) (a b c d f g h i : ByteArray) : World :=
  (((((((w.alloc (.cells #[.string a, .string b] 41)).alloc (.cells #[.string a, .string b] 41)).alloc (.cells #[.string c, .string d] 41)).alloc (.cells #[.string c, .string d] 41)).alloc
    (.cells #[.string f, .string g] 41)).alloc (.cells #[.string f, .string g] 41)).alloc (.cells #[.string h, .string i] 41)).alloc (.cells #[.string h, .string i] 41)

theorem boxed_four (w : World) (a b c d f g h i : ByteArray) : Boxed (four w a b c d f g h i) w.heap.size a b c d f g h i := by
  constructor <;> go_simp

theorem lays_four (w : World) (a b c d f g h i : ByteArray) : Lays w (four w a b c d f g h i) :=
  (((((((((Lays.refl w).alloc _ _).alloc _ _).alloc _ _).alloc _ _).alloc _ _).alloc _ _).alloc _ _).alloc _ _)

theorem ovl_down (a c d : ByteArray) : ovl a c a (c ++ ⟨#[46]⟩ ++ d) = true := by
  have h : wth (c ++ ⟨#[46]⟩ ++ d) c = true := by unfold wth; rw [join_data]; exact wl_ext _ _
  simp [ovl, h]
theorem ovl_up (a c d : ByteArray) : ovl a (c ++ ⟨#[46]⟩ ++ d) a c = true := by
  have h : wth (c ++ ⟨#[46]⟩ ++ d) c = true := by unfold wth; rw [join_data]; exact wl_ext _ _
  simp [ovl, h]
theorem ovl_whole (a c : ByteArray) : ovl a ⟨#[]⟩ a c = true := by
  have h : wth c ⟨#[]⟩ = true := wl_nil _
  simp [ovl, h]
theorem ovl_whole' (a c : ByteArray) : ovl a c a ⟨#[]⟩ = true := by
  have h : wth c ⟨#[]⟩ = true := wl_nil _
  simp [ovl, h]
theorem ovl_self (a c : ByteArray) : ovl a c a c = true := by
  have h : wth c c = true := wl_self _
  simp [ovl, h]
theorem ovl_strange (a b c d : ByteArray) {r : Bool} (hr : (a.toList == b.toList) = r) : ovl a c b (c ++ ⟨#[46]⟩ ++ d) = r := by
  have h : wth (c ++ ⟨#[46]⟩ ++ d) c = true := by unfold wth; rw [join_data]; exact wl_ext _ _
  rw [← hr]
  simp [ovl, h]
theorem ovl_strange' (a b c d : ByteArray) {r : Bool} (hr : (a.toList == b.toList) = r) : ovl b (c ++ ⟨#[46]⟩ ++ d) a c = r := by
  have h : wth (c ++ ⟨#[46]⟩ ++ d) c = true := by unfold wth; rw [join_data]; exact wl_ext _ _
  have e : (b.toList == a.toList) = (a.toList == b.toList) := Bool.beq_comm
  rw [← hr, ← e]
  simp [ovl, h]

set_option maxHeartbeats 1000000 in
theorem holds_in_true (a b c d : ByteArray) (w : World) (ha : a.size ≤ 65536) (hb : b.size ≤ 65536) (hc : c.size ≤ 65536) (hd : d.size ≤ 65536) (hr : (a.toList == b.toList) = true) :
    Calls Try.prog 5 #[.string a, .string b, .string c, .string d] w fun e w' => e = .returned (.bool true) ∧ Grown w w' := by
  have HB : Hid (decide (a.size + b.size + c.size + d.size ≤ 1048576) = true) := decide_eq_true (by omega)
  have HR : Hid ((a.toList == b.toList) = true) := hr
  have HW : Hid (Lays w (four w a c a (c ++ ⟨#[46]⟩ ++ d) b (c ++ ⟨#[46]⟩ ++ d) a ⟨#[]⟩)) := lays_four _ _ _ _ _ _ _ _ _
  have HC : Hid (Boxed (four w a c a (c ++ ⟨#[46]⟩ ++ d) b (c ++ ⟨#[46]⟩ ++ d) a ⟨#[]⟩) w.heap.size a c a (c ++ ⟨#[46]⟩ ++ d) b (c ++ ⟨#[46]⟩ ++ d) a ⟨#[]⟩) := boxed_four _ _ _ _ _ _ _ _ _
  have hsz : a.size + b.size + c.size + d.size ≤ 1048576 := by omega
  go_enter Try.func5, Try.ntmps5
  go_wp2_with fail
  refine (bytes4_is a b c d w (by unfold maxLen; omega) (by unfold maxLen; omega) (by unfold maxLen; omega) (by unfold maxLen; omega) HB.out).mono ?_
  rintro e wx ⟨rfl, hwx⟩
  subst wx
  go_wp2_with fail
  refine (newRef _ _ _).mono ?_
  rintro e w' ⟨rfl, rfl⟩
  go_wp2_with fail
  refine (newRef _ _ _).mono ?_
  rintro e w' ⟨rfl, rfl⟩
  go_wp2_with fail
  refine (newRef _ _ _).mono ?_
  rintro e w' ⟨rfl, rfl⟩
  go_wp2_with fail
  refine (newRef _ _ _).mono ?_
  rintro e w' ⟨rfl, rfl⟩
  go_wp2_with fail
  refine (zzOverlaps _ _ _ _ _).mono ?_
  rintro e w1 ⟨rfl, hl1⟩
  have HC1 : Hid (Boxed w1 w.heap.size a c a (c ++ ⟨#[46]⟩ ++ d) b (c ++ ⟨#[46]⟩ ++ d) a ⟨#[]⟩) := HC.out.lays hl1
  have HW1 : Hid (Lays w w1) := HW.out.trans hl1
  clear hl1 HC HW
  obtain ⟨c0, c1, c2, c3, c4, c5, c6, c7⟩ := HC1.out
  rw [ovl_down]
  go_wp2_with fail
  refine (zzOverlaps _ _ _ _ _).mono ?_
  rintro e w2 ⟨rfl, hl2⟩
  have HC2 : Hid (Boxed w2 w.heap.size a c a (c ++ ⟨#[46]⟩ ++ d) b (c ++ ⟨#[46]⟩ ++ d) a ⟨#[]⟩) := HC1.out.lays hl2
  have HW2 : Hid (Lays w w2) := HW1.out.trans hl2
  clear hl2 HC1 HW1 c0 c1 c2 c3 c4 c5 c6 c7
  obtain ⟨c0, c1, c2, c3, c4, c5, c6, c7⟩ := HC2.out
  rw [ovl_up]
  go_wp2_with fail
  refine (zzOverlaps _ _ _ _ _).mono ?_
  rintro e w3 ⟨rfl, hl3⟩
  have HC3 : Hid (Boxed w3 w.heap.size a c a (c ++ ⟨#[46]⟩ ++ d) b (c ++ ⟨#[46]⟩ ++ d) a ⟨#[]⟩) := HC2.out.lays hl3
  have HW3 : Hid (Lays w w3) := HW2.out.trans hl3
  clear hl3 HC2 HW2 c0 c1 c2 c3 c4 c5 c6 c7
  obtain ⟨c0, c1, c2, c3, c4, c5, c6, c7⟩ := HC3.out
  rw [ovl_whole]
  go_wp2_with fail
  refine (zzOverlaps _ _ _ _ _).mono ?_
  rintro e w4 ⟨rfl, hl4⟩
  have HC4 : Hid (Boxed w4 w.heap.size a c a (c ++ ⟨#[46]⟩ ++ d) b (c ++ ⟨#[46]⟩ ++ d) a ⟨#[]⟩) := HC3.out.lays hl4
  have HW4 : Hid (Lays w w4) := HW3.out.trans hl4
  clear hl4 HC3 HW3 c0 c1 c2 c3 c4 c5 c6 c7
  obtain ⟨c0, c1, c2, c3, c4, c5, c6, c7⟩ := HC4.out
  rw [ovl_whole']
  go_wp2_with fail
  refine (zzOverlaps _ _ _ _ _).mono ?_
  rintro e w5 ⟨rfl, hl5⟩
  have HC5 : Hid (Boxed w5 w.heap.size a c a (c ++ ⟨#[46]⟩ ++ d) b (c ++ ⟨#[46]⟩ ++ d) a ⟨#[]⟩) := HC4.out.lays hl5
  have HW5 : Hid (Lays w w5) := HW4.out.trans hl5
  clear hl5 HC4 HW4 c0 c1 c2 c3 c4 c5 c6 c7
  obtain ⟨c0, c1, c2, c3, c4, c5, c6, c7⟩ := HC5.out
  rw [ovl_self]
  go_wp2_with fail
  refine (zzOverlaps _ _ _ _ _).mono ?_
  rintro e w6 ⟨rfl, hl6⟩
  have HC6 : Hid (Boxed w6 w.heap.size a c a (c ++ ⟨#[46]⟩ ++ d) b (c ++ ⟨#[46]⟩ ++ d) a ⟨#[]⟩) := HC5.out.lays hl6
  have HW6 : Hid (Lays w w6) := HW5.out.trans hl6
  clear hl6 HC5 HW5 c0 c1 c2 c3 c4 c5 c6 c7
  obtain ⟨c0, c1, c2, c3, c4, c5, c6, c7⟩ := HC6.out
  rw [ovl_strange a b c d HR.out]
  go_wp2_with fail
  refine (zzOverlaps _ _ _ _ _).mono ?_
  rintro e w7 ⟨rfl, hl7⟩
  have HC7 : Hid (Boxed w7 w.heap.size a c a (c ++ ⟨#[46]⟩ ++ d) b (c ++ ⟨#[46]⟩ ++ d) a ⟨#[]⟩) := HC6.out.lays hl7
  have HW7 : Hid (Lays w w7) := HW6.out.trans hl7
  clear hl7 HC6 HW6 c0 c1 c2 c3 c4 c5 c6 c7
  obtain ⟨c0, c1, c2, c3, c4, c5, c6, c7⟩ := HC7.out
  rw [ovl_strange' a b c d HR.out]
  go_wp2_with fail
  go_ret
  exact ⟨rfl, HW7.out.grown⟩

set_option maxHeartbeats 1000000 in
theorem holds_in_false (a b c d : ByteArray) (w : World) (ha : a.size ≤ 65536) (hb : b.size ≤ 65536) (hc : c.size ≤ 65536) (hd : d.size ≤ 65536) (hr : (a.toList == b.toList) = false) :
    Calls Try.prog 5 #[.string a, .string b, .string c, .string d] w fun e w' => e = .returned (.bool true) ∧ Grown w w' := by
  have HB : Hid (decide (a.size + b.size + c.size + d.size ≤ 1048576) = true) := decide_eq_true (by omega)
  have HR : Hid ((a.toList == b.toList) = false) := hr
  have HW : Hid (Lays w (four w a c a (c ++ ⟨#[46]⟩ ++ d) b (c ++ ⟨#[46]⟩ ++ d) a ⟨#[]⟩)) := lays_four _ _ _ _ _ _ _ _ _
  have HC : Hid (Boxed (four w a c a (c ++ ⟨#[46]⟩ ++ d) b (c ++ ⟨#[46]⟩ ++ d) a ⟨#[]⟩) w.heap.size a c a (c ++ ⟨#[46]⟩ ++ d) b (c ++ ⟨#[46]⟩ ++ d) a ⟨#[]⟩) := boxed_four _ _ _ _ _ _ _ _ _
  have hsz : a.size + b.size + c.size + d.size ≤ 1048576 := by omega
  go_enter Try.func5, Try.ntmps5
  go_wp2_with fail
  refine (bytes4_is a b c d w (by unfold maxLen; omega) (by unfold maxLen; omega) (by unfold maxLen; omega) (by unfold maxLen; omega) HB.out).mono ?_
  rintro e wx ⟨rfl, hwx⟩
  subst wx
  go_wp2_with fail
  refine (newRef _ _ _).mono ?_
  rintro e w' ⟨rfl, rfl⟩
  go_wp2_with fail
  refine (newRef _ _ _).mono ?_
  rintro e w' ⟨rfl, rfl⟩
  go_wp2_with fail
  refine (newRef _ _ _).mono ?_
  rintro e w' ⟨rfl, rfl⟩
  go_wp2_with fail
  refine (newRef _ _ _).mono ?_
  rintro e w' ⟨rfl, rfl⟩
  go_wp2_with fail
  refine (zzOverlaps _ _ _ _ _).mono ?_
  rintro e w1 ⟨rfl, hl1⟩
  have HC1 : Hid (Boxed w1 w.heap.size a c a (c ++ ⟨#[46]⟩ ++ d) b (c ++ ⟨#[46]⟩ ++ d) a ⟨#[]⟩) := HC.out.lays hl1
  have HW1 : Hid (Lays w w1) := HW.out.trans hl1
  clear hl1 HC HW
  obtain ⟨c0, c1, c2, c3, c4, c5, c6, c7⟩ := HC1.out
  rw [ovl_down]
  go_wp2_with fail
  refine (zzOverlaps _ _ _ _ _).mono ?_
  rintro e w2 ⟨rfl, hl2⟩
  have HC2 : Hid (Boxed w2 w.heap.size a c a (c ++ ⟨#[46]⟩ ++ d) b (c ++ ⟨#[46]⟩ ++ d) a ⟨#[]⟩) := HC1.out.lays hl2
  have HW2 : Hid (Lays w w2) := HW1.out.trans hl2
  clear hl2 HC1 HW1 c0 c1 c2 c3 c4 c5 c6 c7
  obtain ⟨c0, c1, c2, c3, c4, c5, c6, c7⟩ := HC2.out
  rw [ovl_up]
  go_wp2_with fail
  refine (zzOverlaps _ _ _ _ _).mono ?_
  rintro e w3 ⟨rfl, hl3⟩
  have HC3 : Hid (Boxed w3 w.heap.size a c a (c ++ ⟨#[46]⟩ ++ d) b (c ++ ⟨#[46]⟩ ++ d) a ⟨#[]⟩) := HC2.out.lays hl3
  have HW3 : Hid (Lays w w3) := HW2.out.trans hl3
  clear hl3 HC2 HW2 c0 c1 c2 c3 c4 c5 c6 c7
  obtain ⟨c0, c1, c2, c3, c4, c5, c6, c7⟩ := HC3.out
  rw [ovl_whole]
  go_wp2_with fail
  refine (zzOverlaps _ _ _ _ _).mono ?_
  rintro e w4 ⟨rfl, hl4⟩
  have HC4 : Hid (Boxed w4 w.heap.size a c a (c ++ ⟨#[46]⟩ ++ d) b (c ++ ⟨#[46]⟩ ++ d) a ⟨#[]⟩) := HC3.out.lays hl4
  have HW4 : Hid (Lays w w4) := HW3.out.trans hl4
  clear hl4 HC3 HW3 c0 c1 c2 c3 c4 c5 c6 c7
  obtain ⟨c0, c1, c2, c3, c4, c5, c6, c7⟩ := HC4.out
  rw [ovl_whole']
  go_wp2_with fail
  refine (zzOverlaps _ _ _ _ _).mono ?_
  rintro e w5 ⟨rfl, hl5⟩
  have HC5 : Hid (Boxed w5 w.heap.size a c a (c ++ ⟨#[46]⟩ ++ d) b (c ++ ⟨#[46]⟩ ++ d) a ⟨#[]⟩) := HC4.out.lays hl5
  have HW5 : Hid (Lays w w5) := HW4.out.trans hl5
  clear hl5 HC4 HW4 c0 c1 c2 c3 c4 c5 c6 c7
  obtain ⟨c0, c1, c2, c3, c4, c5, c6, c7⟩ := HC5.out
  rw [ovl_self]
  go_wp2_with fail
  refine (zzOverlaps _ _ _ _ _).mono ?_
  rintro e w6 ⟨rfl, hl6⟩
  have HC6 : Hid (Boxed w6 w.heap.size a c a (c ++ ⟨#[46]⟩ ++ d) b (c ++ ⟨#[46]⟩ ++ d) a ⟨#[]⟩) := HC5.out.lays hl6
  have HW6 : Hid (Lays w w6) := HW5.out.trans hl6
  clear hl6 HC5 HW5 c0 c1 c2 c3 c4 c5 c6 c7
  obtain ⟨c0, c1, c2, c3, c4, c5, c6, c7⟩ := HC6.out
  rw [ovl_strange a b c d HR.out]
  go_wp2_with fail
  refine (zzOverlaps _ _ _ _ _).mono ?_
  rintro e w7 ⟨rfl, hl7⟩
  have HC7 : Hid (Boxed w7 w.heap.size a c a (c ++ ⟨#[46]⟩ ++ d) b (c ++ ⟨#[46]⟩ ++ d) a ⟨#[]⟩) := HC6.out.lays hl7
  have HW7 : Hid (Lays w w7) := HW6.out.trans hl7
  clear hl7 HC6 HW6 c0 c1 c2 c3 c4 c5 c6 c7
  obtain ⟨c0, c1, c2, c3, c4, c5, c6, c7⟩ := HC7.out
  rw [ovl_strange' a b c d HR.out]
  go_wp2_with fail
  go_ret
  exact ⟨rfl, HW7.out.grown⟩

theorem holds_all (a b c d : ByteArray) (w : World) (ha : a.size ≤ maxLen) (hb : b.size ≤ maxLen) (hc : c.size ≤ maxLen) (hd : d.size ≤ maxLen) :
    Calls Try.prog 5 #[.string a, .string b, .string c, .string d] w fun e w' => e = .returned (.bool true) ∧ Grown w w' := by
  by_cases h : a.size ≤ 65536 ∧ b.size ≤ 65536 ∧ c.size ≤ 65536 ∧ d.size ≤ 65536
  · obtain ⟨h0, h1, h2, h3⟩ := h
    cases hr : (a.toList == b.toList) with
    | true => exact holds_in_true a b c d w h0 h1 h2 h3 hr
    | false => exact holds_in_false a b c d w h0 h1 h2 h3 hr
  · exact holds_out a b c d w ha hb hc hd h
end Go.Proofs.Qxb6618487a
