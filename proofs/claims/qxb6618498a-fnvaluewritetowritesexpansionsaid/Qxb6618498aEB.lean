/-
  The walk of 'pieces'.
-/
import Derived.Test.Qxb6618498aEA
namespace Go.Proofs.Qxb6618498a
open Go.RowKit Go.Shelf
attribute [local go_sem] Oper.semAt_some

set_option maxHeartbeats 2000000 in
theorem piecesWalk (n l nb : Nat) (f t : Nat) (J : List UInt8 → World → Prop) (out : List UInt8) (W : World)
    (hA : Abides J) (hft : f ≤ t) (ht : t ≤ 1048576) (hJ : J [] W)
    (heach : ∀ n V, J [] V → CallsIn Fence.wide n Try.prog 22 #[.pointer (some ⟨nb, 0, none⟩), .int .i64 f, .int .i64 ((t : Int) - (f : Int)), .func (.yield l) #[] #[]] V fun e V' => e = .returned (.bool true) ∧ J out V') :
    CallsIn Fence.wide n Try.prog 20 #[.agg #[.pointer (some ⟨nb, 0, none⟩), .int .i64 f, .int .i64 t], .func (.yield l) #[] #[]] W fun e W' => (∃ v, e = .returned v) ∧ J out W' := by
  have HA : Hid (Abides J) := hA
  have HJ : Hid (J [] W) := hJ
  have HE : Hid (∀ n V, J [] V → CallsIn Fence.wide n Try.prog 22 #[.pointer (some ⟨nb, 0, none⟩), .int .i64 f, .int .i64 ((t : Int) - (f : Int)), .func (.yield l) #[] #[]] V fun e V' => e = .returned (.bool true) ∧ J out V') := heach
  clear hA hJ heach
  have hmx : Try.prog.follows .mixedOrders = true := by kernel_rfl
  refine callsIn_of_wp Try.func20 rfl trivial ?_ rfl
  simp only [Try.ntmps20, List.size_toArray, List.length_cons, List.length_nil, Nat.reduceAdd, Nat.reduceSub, Array.replicate_succ, Array.replicate_zero, List.push_toArray, List.append_toArray, List.nil_append, List.cons_append]
  gi_wp2_with fail
  gi_region_with_o (first
    | ((try refine ⟨trivial, noDepth _, ?_⟩); gi_at_call 15; refine (callsIn_wide.2 (lenWalk _ _ _ _ (by omega) (by omega) (by omega))).mono ?_; rintro e w' ⟨rfl, rfl⟩)
    | ((try refine ⟨trivial, noDepth _, ?_⟩); gi_at_call 22; refine (HE.out _ _ (HA.out.alloc _ _ _ _ (HA.out.drew _ _ (HA.out.alloc _ _ _ _ HJ.out)))).mono ?_; rintro e w' ⟨rfl, hj⟩))
  all_goals
    go_end0
    exact ⟨⟨_, rfl⟩, hj⟩
end Go.Proofs.Qxb6618498a
