/-
  The walks of 'overlaps', of its shim, and of the two bounds on total length.
-/
import Derived.Test.Qxb6618487aOA
namespace Go.Proofs.Qxb6618487a
open Go.RowKit

/-- 'overlaps' of the data called x in schema a and the data called y in schema b. -/
def ovl (a x b y : ByteArray) : Bool := (a.toList == b.toList) && (wth x y || wth y x)

/-- Behind a call that only lays new blocks. -/
structure Lays (w w' : World) : Prop where
  grown : Grown w w'
  cell : ∀ a v, w.cell? a = some v → w'.cell? a = some v

theorem Lays.refl (w : World) : Lays w w := ⟨Grown.refl w, fun _ _ h => h⟩
theorem Lays.trans {a b c : World} (h : Lays a b) (k : Lays b c) : Lays a c :=
  ⟨⟨World.keptBut_trans h.grown.1 k.grown.1, fun x => (k.grown.2.1 x).trans (h.grown.2.1 x), Nat.le_trans h.grown.2.2 k.grown.2.2⟩, fun p v e => k.cell p v (h.cell p v e)⟩
theorem Lays.alloc {w w' : World} (h : Lays w w') (c : Array Value) (t : TypeId) : Lays w (w'.alloc (.cells c t)) := by
  refine ⟨h.grown.alloc c t, fun a v e => ?_⟩
  have e' := h.cell a v e
  have hb : a.block < w'.heap.size := by
    rcases Nat.lt_or_ge a.block w'.heap.size with h1 | h1
    · exact h1
    · have e0 : w'.heap[a.block]? = none := Array.getElem?_eq_none h1
      simp [World.cell?, e0] at e'
  rw [World.cell?_of_block (w := w') (Below.heap_alloc w' _ a.block hb)]
  exact e'
theorem Lays.drewN {w w' : World} (h : Lays w w') : ∀ n, Lays w (w'.drewN n)
  | 0 => h
  | n + 1 => ⟨(h.drewN n).grown.drew, (h.drewN n).cell⟩

set_option maxHeartbeats 400000 in
theorem overlapsWalk (a x b y : ByteArray) (w : World) :
    Calls Try.prog 42 #[.agg #[.string a, .string x], .agg #[.string b, .string y]] w fun e w' => e = .returned (.bool (ovl a x b y)) ∧ Lays w w' := by
  by_cases h0 : (a.toList == b.toList) = true
  · by_cases h1 : wth x y = true
    · have HW : Hid (ovl a x b y = true) := by show _ = _; simp [ovl, h0, h1]
      go_enter Try.func42, Try.ntmps42
      go_wp2_with (go_at_call 45; refine (withinWalk x y _).mono ?_; rintro e w' ⟨rfl, rfl⟩; rw [h1])
      go_ret
      rw [HW.out]
      exact ⟨rfl, ((Lays.refl _).alloc _ _).alloc _ _⟩
    · have h1' : wth x y = false := by simpa using h1
      have HW : Hid (ovl a x b y = wth y x) := by show _ = _; simp [ovl, h0, h1']
      go_enter Try.func42, Try.ntmps42
      go_wp2_with fail
      refine (withinWalk x y _).mono ?_; rintro e w' ⟨rfl, rfl⟩; rw [h1']
      go_wp2_with fail
      refine (withinWalk y x _).mono ?_; rintro e w' ⟨rfl, rfl⟩
      go_wp2_with fail
      go_ret
      rw [HW.out]
      exact ⟨rfl, ((Lays.refl _).alloc _ _).alloc _ _⟩
  · have h0' : (a.toList == b.toList) = false := by simpa using h0
    have HW : Hid (ovl a x b y = false) := by show _ = _; simp only [ovl, h0', Bool.false_and]
    go_enter Try.func42, Try.ntmps42
    go_wp2_with fail
    go_ret
    rw [HW.out]
    exact ⟨rfl, ((Lays.refl _).alloc _ _).alloc _ _⟩

set_option maxHeartbeats 400000 in
theorem zzOverlaps (a x b y : ByteArray) (w : World) :
    Calls Try.prog 25 #[.agg #[.string a, .string x], .agg #[.string b, .string y]] w fun e w' => e = .returned (.bool (ovl a x b y)) ∧ Lays w w' := by
  go_enter Try.func25, Try.ntmps25
  go_wp2_with fail
  refine (overlapsWalk a x b y _).mono ?_
  rintro e w' ⟨rfl, hl⟩
  go_wp2
  go_ret
  exact ⟨rfl, (((Lays.refl _).alloc _ _).alloc _ _).trans hl⟩

theorem ret_f {q : Prop} [Decidable q] (h : ¬ q) : Ending.returned (.bool false) = .returned (.bool (decide q)) := by rw [decide_eq_false h]
theorem ret_t {q : Prop} [Decidable q] (h : q) : Ending.returned (.bool true) = .returned (.bool (decide q)) := by rw [decide_eq_true h]

set_option maxHeartbeats 400000 in
theorem bytes4 (a b c d : ByteArray) (w : World) (ha : a.size ≤ maxLen) (hb : b.size ≤ maxLen) (hc : c.size ≤ maxLen) (hd : d.size ≤ maxLen) :
    Calls Try.prog 23 #[.string a, .string b, .string c, .string d] w fun e w' => e = .returned (.bool (decide (a.size + b.size + c.size + d.size ≤ 1048576))) ∧ w' = w := by
  unfold maxLen at ha hb hc hd
  go_enter Try.func23, Try.ntmps23
  go_wp2
  all_goals
    go_ret
    refine ⟨?_, rfl⟩
    first | exact ret_f (by omega) | exact ret_t (by omega)

set_option maxHeartbeats 400000 in
theorem bytes5 (a b c d f : ByteArray) (w : World) (ha : a.size ≤ maxLen) (hb : b.size ≤ maxLen) (hc : c.size ≤ maxLen) (hd : d.size ≤ maxLen) (hf : f.size ≤ maxLen) :
    Calls Try.prog 26 #[.string a, .string b, .string c, .string d, .string f] w fun e w' => e = .returned (.bool (decide (a.size + b.size + c.size + d.size + f.size ≤ 1048576))) ∧ w' = w := by
  unfold maxLen at ha hb hc hd hf
  go_enter Try.func26, Try.ntmps26
  go_wp2
  all_goals
    go_ret
    refine ⟨?_, rfl⟩
    first | exact ret_f (by omega) | exact ret_t (by omega)
end Go.Proofs.Qxb6618487a
