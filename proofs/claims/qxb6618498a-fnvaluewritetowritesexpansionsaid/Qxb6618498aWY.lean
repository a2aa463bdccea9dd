/-
  The walk of the law 'FnValueWriteToWritesExpansion'.
-/
import Derived.Test.Qxb6618498aWX
namespace Go.Proofs.Qxb6618498a
open Go.RowKit

theorem ret_f {q : Prop} [Decidable q] (h : ¬ q) : Ending.returned (.bool false) = .returned (.bool (decide q)) := by rw [decide_eq_false h]
theorem ret_t {q : Prop} [Decidable q] (h : q) : Ending.returned (.bool true) = .returned (.bool (decide q)) := by rw [decide_eq_true h]

set_option maxHeartbeats 400000 in
theorem bytes8 (a b c d : ByteArray) (x y z u : Int) (w : World) (ha : a.size ≤ maxLen) (hb : b.size ≤ maxLen) (hc : c.size ≤ maxLen) (hd : d.size ≤ maxLen) :
    Calls Try.prog 11 #[.string a, .string b, .string c, .string d, .int .i64 x, .int .i64 y, .int .i64 z, .int .i64 u] w fun e w' => e = .returned (.bool (decide (a.size + b.size + c.size + d.size ≤ 1048576))) ∧ w' = w := by
  unfold maxLen at ha hb hc hd
  go_enter Try.func11, Try.ntmps11
  go_wp2
  all_goals
    go_ret
    refine ⟨?_, rfl⟩
    first | exact ret_f (by omega) | exact ret_t (by omega)

theorem bytes8_is (a b c d : ByteArray) (x y z u : Int) (w : World) {r : Bool} (ha : a.size ≤ maxLen) (hb : b.size ≤ maxLen) (hc : c.size ≤ maxLen) (hd : d.size ≤ maxLen) (hr : decide (a.size + b.size + c.size + d.size ≤ 1048576) = r) :
    Calls Try.prog 11 #[.string a, .string b, .string c, .string d, .int .i64 x, .int .i64 y, .int .i64 z, .int .i64 u] w fun e w' => e = .returned (.bool r) ∧ w' = w := by
  rw [← hr]
  exact bytes8 a b c d x y z u w ha hb hc hd

set_option maxHeartbeats 1000000 in
theorem law_out (a b c d : ByteArray) (x y z u : Int) (w : World) (ha : a.size ≤ maxLen) (hb : b.size ≤ maxLen) (hc : c.size ≤ maxLen) (hd : d.size ≤ maxLen)
    (h : ¬ (a.size ≤ 262144 ∧ b.size ≤ 262144 ∧ c.size ≤ 262144 ∧ d.size ≤ 262144)) :
    Calls Try.prog 4 #[.string a, .string b, .string c, .string d, .int .i64 x, .int .i64 y, .int .i64 z, .int .i64 u] w fun e w' => e = .returned (.bool true) ∧ Below w.heap.size w w' := by
  by_cases hz : a.size + b.size + c.size + d.size ≤ 1048576
  · have HB : Hid (decide (a.size + b.size + c.size + d.size ≤ 1048576) = true) := decide_eq_true hz
    unfold maxLen at ha hb hc hd
    by_cases h0 : 262144 < a.size
    · clear h
      go_enter Try.func4, Try.ntmps4
      go_wp2_with fail
      refine (bytes8_is a b c d x y z u w (by unfold maxLen; omega) (by unfold maxLen; omega) (by unfold maxLen; omega) (by unfold maxLen; omega) HB.out).mono ?_
      rintro e wx ⟨rfl, hwx⟩
      subst wx
      go_wp2_with fail
      go_ret
      exact ⟨rfl, Below.refl _ _⟩
    · by_cases h1 : 262144 < b.size
      · clear h
        go_enter Try.func4, Try.ntmps4
        go_wp2_with fail
        refine (bytes8_is a b c d x y z u w (by unfold maxLen; omega) (by unfold maxLen; omega) (by unfold maxLen; omega) (by unfold maxLen; omega) HB.out).mono ?_
        rintro e wx ⟨rfl, hwx⟩
        subst wx
        go_wp2_with fail
        go_ret
        exact ⟨rfl, Below.refl _ _⟩
      · by_cases h2 : 262144 < c.size
        · clear h
          go_enter Try.func4, Try.ntmps4
          go_wp2_with fail
          refine (bytes8_is a b c d x y z u w (by unfold maxLen; omega) (by unfold maxLen; omega) (by unfold maxLen; omega) (by unfold maxLen; omega) HB.out).mono ?_
          rintro e wx ⟨rfl, hwx⟩
          subst wx
          go_wp2_with fail
          go_ret
          exact ⟨rfl, Below.refl _ _⟩
        · have h3 : 262144 < d.size := by omega
          clear h
          go_enter Try.func4, Try.ntmps4
          go_wp2_with fail
          refine (bytes8_is a b c d x y z u w (by unfold maxLen; omega) (by unfold maxLen; omega) (by unfold maxLen; omega) (by unfold maxLen; omega) HB.out).mono ?_
          rintro e wx ⟨rfl, hwx⟩
          subst wx
          go_wp2_with fail
          go_ret
          exact ⟨rfl, Below.refl _ _⟩
  · have HB : Hid (decide (a.size + b.size + c.size + d.size ≤ 1048576) = false) := decide_eq_false hz
    unfold maxLen at ha hb hc hd
    go_enter Try.func4, Try.ntmps4
    go_wp2_with fail
    refine (bytes8_is a b c d x y z u w (by unfold maxLen; omega) (by unfold maxLen; omega) (by unfold maxLen; omega) (by unfold maxLen; omega) HB.out).mono ?_
    rintro e wx ⟨rfl, hwx⟩
    subst wx
    go_wp2_with fail
    go_ret
    exact ⟨rfl, Below.refl _ _⟩

set_option maxHeartbeats 1000000 in
theorem law_ref (a b c d : ByteArray) (x y z u : Int) (w : World) (ha : a.size ≤ 262144) (hb : b.size ≤ 262144) (hc : c.size ≤ 262144) (hd : d.size ≤ 262144)
    (h : ¬ (0 ≤ x ∧ x ≤ y ∧ y ≤ b.size + c.size)) :
    Calls Try.prog 4 #[.string a, .string b, .string c, .string d, .int .i64 x, .int .i64 y, .int .i64 z, .int .i64 u] w fun e w' => e = .returned (.bool true) ∧ Below w.heap.size w w' := by
  have HB : Hid (decide (a.size + b.size + c.size + d.size ≤ 1048576) = true) := decide_eq_true (by omega)
  have HH : Hid (¬ (0 ≤ x ∧ x ≤ y ∧ y ≤ b.size + c.size)) := h
  clear h
  go_enter Try.func4, Try.ntmps4
  go_wp2_with fail
  refine (bytes8_is a b c d x y z u w (by unfold maxLen; omega) (by unfold maxLen; omega) (by unfold maxLen; omega) (by unfold maxLen; omega) HB.out).mono ?_
  rintro e wx ⟨rfl, hwx⟩
  subst wx
  go_wp2_with fail
  all_goals first | (go_ret; exact ⟨rfl, Below.refl _ _⟩) | (exfalso; have := HH.out; omega)
end Go.Proofs.Qxb6618498a
