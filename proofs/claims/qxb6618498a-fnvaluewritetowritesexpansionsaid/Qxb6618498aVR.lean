/-
  The walk of 'ZZNewRefValue': a region that draws its order and makes memory.
-/
import Derived.Test.Qxb6618498aVA
namespace Go.Proofs.Qxb6618498a
open Go.RowKit

set_option maxHeartbeats 4000000 in
theorem newRef (a d : ByteArray) (n : Option Addr) (rf rt f t : Int) (w : World) (h0 : 0 ≤ rf) (h1 : rf ≤ rt) (h2 : rt ≤ 524288) :
    Calls Try.prog 12 #[.string a, .agg #[.pointer n, .int .i64 rf, .int .i64 rt], .string d, .int .i64 f, .int .i64 t] w fun e w' =>
      e = .returned (.agg #[.pointer (some ⟨w.heap.size + 1 + 1 + 1 + 1, 0, none⟩), .int .i64 f, .int .i64 t]) ∧ RefMade w a d n rf rt w' := by
  go_enter Try.func12, Try.ntmps12
  go_wp2
  go_region_with (go_at_call 15; refine (lenWalk _ _ _ _ h0 h1 (by omega)).mono ?_; rintro e w' ⟨rfl, rfl⟩)
  all_goals go_wp2
  all_goals
    refine bodyPost_ret (v := .agg #[.pointer (some ⟨w.heap.size + 1 + 1 + 1 + 1, 0, none⟩), .int .i64 f, .int .i64 t]) (by simp [results, Try.results12, go_sem]) rfl ⟨rfl, ?_⟩
    first | exact ref_made1 w a d n rf rt f t _ | exact ref_made2 w a d n rf rt f t _
end Go.Proofs.Qxb6618498a
