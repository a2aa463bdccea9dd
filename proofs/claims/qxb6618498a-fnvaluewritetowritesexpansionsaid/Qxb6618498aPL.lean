/-
  The plain law under 'each': the bytes of three parts from a place on, so many of them. No Go in sight.
-/
import Derived.Test.Qxb6618498aVA
namespace Go.Proofs.Qxb6618498a

/-- The bytes of the parts from k on. -/
def tailB (tb : Nat → List UInt8) : Nat → List UInt8
  | 0 => tb 0 ++ (tb 1 ++ (tb 2 ++ []))
  | 1 => tb 1 ++ (tb 2 ++ [])
  | 2 => tb 2 ++ []
  | _ => []

theorem tailB_step (tb : Nat → List UInt8) : ∀ k, k < 3 → tailB tb k = tb k ++ tailB tb (k + 1)
  | 0, _ => rfl
  | 1, _ => rfl
  | 2, _ => rfl

/-- What is still to come: behind s bytes of the parts from k on, m of them. -/
def restOf (tb : Nat → List UInt8) (k s m : Nat) : List UInt8 := ((tailB tb k).drop s).take m

theorem rest_zero (tb : Nat → List UInt8) (k s : Nat) : restOf tb k s 0 = [] := by simp [restOf]
theorem rest_end (tb : Nat → List UInt8) (s m : Nat) : restOf tb 3 s m = [] := by simp [restOf, tailB]

theorem rest_skip {tb : Nat → List UInt8} {k s m : Nat} (hk : k < 3) (h : (tb k).length ≤ s) (hl : s + m ≤ (tailB tb k).length) :
    restOf tb k s m = restOf tb (k + 1) (s - (tb k).length) m ∧ s - (tb k).length + m ≤ (tailB tb (k + 1)).length := by
  rw [tailB_step tb k hk, List.length_append] at hl
  refine ⟨?_, by omega⟩
  unfold restOf
  rw [tailB_step tb k hk, List.drop_append, List.drop_of_length_le h, List.nil_append]

theorem rest_take {tb : Nat → List UInt8} {k s m t : Nat} (hk : k < 3) (h : s < (tb k).length) (ht : t = min ((tb k).length - s) m) (hl : s + m ≤ (tailB tb k).length) :
    restOf tb k s m = ((tb k).drop s).take t ++ restOf tb (k + 1) 0 (m - t) ∧ 0 + (m - t) ≤ (tailB tb (k + 1)).length := by
  rw [tailB_step tb k hk, List.length_append] at hl
  refine ⟨?_, by omega⟩
  unfold restOf
  rw [tailB_step tb k hk, List.drop_zero, List.drop_append_of_le_length (by omega), List.take_append]
  rw [List.length_drop]
  rcases Nat.le_total ((tb k).length - s) m with q | q
  · have e : t = (tb k).length - s := by omega
    have e1 : ((tb k).drop s).take m = (tb k).drop s := List.take_of_length_le (by rw [List.length_drop]; exact q)
    have e2 : ((tb k).drop s).take ((tb k).length - s) = (tb k).drop s := List.take_of_length_le (by rw [List.length_drop]; exact Nat.le_refl _)
    rw [e, e1, e2]
  · have e : t = m := by omega
    rw [e]
    simp [show m - ((tb k).length - s) = 0 by omega]
end Go.Proofs.Qxb6618498a
