/-
  'io.WriteString' into a bytes.Buffer.
-/
import Derived.Test.Qxb6618498aVA
import Derived.Test.Qxb6618498aLaid
namespace Go.Proofs.Qxb6618498a
open Go.RowKit

theorem assertSW (a : Addr) (w : World) : (Instr.typeAssert (.iface 55 (.pointer (some a))) 59 65 true).run Try.prog w = .ok (.tuple #[.iface 55 (.pointer (some a)), .bool true]) w := by kernel_rfl

theorem methodWS (a : Addr) (w : World) : (method 210 55 (.pointer (some a)) "WriteString").run Try.prog w = .ok (53, .pointer (some a)) w := by kernel_rfl

set_option maxHeartbeats 400000 in
theorem ioWrite (B b : Nat) (bs : List Value) (s : ByteArray) (w : World) (h : Lib.IsBuffer 52 5 B b bs w) (hBw : B ≤ w.heap.size) (h1 : ∀ v ∈ bs, v.oneCell' = true) (hlim : bs.length + s.size ≤ 140737488355328) :
    Calls Try.prog 21 #[.iface 55 (.pointer (some ⟨b, 0, none⟩)), .string s] w fun e w' => e = .returned (.tuple #[.int .i64 s.size, .nilIface]) ∧ Lib.IsBuffer 52 5 B b (bs ++ Lib.byteCells s.data.toList) w' ∧ Below B w w' ∧ Lib.OthersKept 5 (some b) w w' := by
  have hta := assertSW
  have hme := methodWS
  go_enter Try.func21, Try.ntmps21
  go_wp2_with fail
  refine (Try.bufWriteString B b bs s w h hBw h1 hlim).mono ?_
  rintro e w' ⟨rfl, hi, hb, hk⟩
  go_wp2_with fail
  go_ret2
  exact ⟨rfl, hi, hb, hk⟩
end Go.Proofs.Qxb6618498a
