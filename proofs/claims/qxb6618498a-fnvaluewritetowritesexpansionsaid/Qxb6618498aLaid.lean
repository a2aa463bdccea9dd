/-
  The contracts of two methods of bytes.Buffer, laid at this program: each function of the method's closure is held by the kernel against the body that the contract was proved of.
-/
import Derived.Shelf.Bytes.WriteStringKept
import Derived.Shelf.Bytes.Bytes
import Derived.Test.Qxb6618498aProg
namespace Go.Proofs
open Go.Shelf
def Try.lays178_ren : Go.Shelf.Ren := ⟨fun | 178 => 53 | 251 => 54 | 252 => 55 | 181 => 56 | 184 => 50 | 290 => 57 | 324 => 58 | n => n, fun | 130 => 55 | 9 => 9 | 3 => 3 | 75 => 27 | 0 => 0 | 93 => 52 | 91 => 50 | 131 => 95 | 4 => 4 | 37 => 22 | 20 => 20 | 80 => 80 | 5 => 5 | n => n, fun | 14 => 0 | n => n⟩
theorem Try.lays178 : Go.Proofs.LaysM.n178 Try.prog Try.lays178_ren := {
  mixed := by kernel_rfl
  f178 := Try.func53.trans (congrArg some (by kernel_rfl))
  f181 := Try.func56.trans (congrArg some (by kernel_rfl))
  f184 := Try.func50.trans (congrArg some (by kernel_rfl))
  f251 := Try.func54.trans (congrArg some (by kernel_rfl))
  f252 := Try.func55.trans (congrArg some (by kernel_rfl))
  f290 := Try.func57.trans (congrArg some (by kernel_rfl))
  f324 := Try.func58.trans (congrArg some (by kernel_rfl))
  t0 := Try.underlying0
  a0 := Try.isAgg0
  z0 := Try.sizeOf0
  v0 := Try.zeroValue0
  t3 := Try.underlying3
  a3 := Try.isAgg3
  z3 := Try.sizeOf3
  v3 := Try.zeroValue3
  t4 := Try.underlying4
  a4 := Try.isAgg4
  z4 := Try.sizeOf4
  v4 := Try.zeroValue4
  t9 := Try.underlying9
  a9 := Try.isAgg9
  z9 := Try.sizeOf9
  v9 := Try.zeroValue9
  t20 := Try.underlying20
  a20 := Try.isAgg20
  z20 := Try.sizeOf20
  v20 := Try.zeroValue20
  t37 := Try.underlying22
  a37 := Try.isAgg22
  z37 := Try.sizeOf22
  v37 := Try.zeroValue22
  t75 := Try.underlying27
  a75 := Try.isAgg27
  z75 := Try.sizeOf27
  v75 := Try.zeroValue27
  t91 := Try.underlying50
  a91 := Try.isAgg50
  z91 := Try.sizeOf50
  v91 := Try.zeroValue50
  t93 := Try.underlying52
  a93 := Try.isAgg52
  z93 := Try.sizeOf52
  v93 := Try.zeroValue52
  t130 := Try.underlying55
  a130 := Try.isAgg55
  z130 := Try.sizeOf55
  v130 := Try.zeroValue55
  t131 := Try.underlying95
  a131 := Try.isAgg95
  z131 := Try.sizeOf95
  v131 := Try.zeroValue95
  g14 := by kernel_rfl
  t5 := Try.underlying5
  a5 := Try.isAgg5
  z5 := Try.sizeOf5
  v5 := Try.zeroValue5
  t80 := Try.underlying80
  a80 := Try.isAgg80
  z80 := Try.sizeOf80
  v80 := Try.zeroValue80
  i0 := by kernel_rfl
  i3 := by kernel_rfl
  i4 := by kernel_rfl
  i5 := by kernel_rfl
  i9 := by kernel_rfl
  i20 := by kernel_rfl
  i37 := by kernel_rfl
  i75 := by kernel_rfl
  i80 := by kernel_rfl
  i91 := by kernel_rfl
  i93 := by kernel_rfl
  i130 := by kernel_rfl
  i131 := by kernel_rfl
  m14 := by kernel_rfl }
def Try.lays183_ren : Go.Shelf.Ren := ⟨fun | 183 => 18 | n => n, fun | 130 => 55 | 37 => 22 | 0 => 0 | 93 => 52 | 3 => 3 | 5 => 5 | 91 => 50 | n => n, fun | n => n⟩
theorem Try.lays183 : Go.Proofs.LaysM.n183 Try.prog Try.lays183_ren := {
  mixed := by kernel_rfl
  f183 := Try.func18.trans (congrArg some (by kernel_rfl))
  t0 := Try.underlying0
  a0 := Try.isAgg0
  z0 := Try.sizeOf0
  v0 := Try.zeroValue0
  t3 := Try.underlying3
  a3 := Try.isAgg3
  z3 := Try.sizeOf3
  v3 := Try.zeroValue3
  t37 := Try.underlying22
  a37 := Try.isAgg22
  z37 := Try.sizeOf22
  v37 := Try.zeroValue22
  t93 := Try.underlying52
  a93 := Try.isAgg52
  z93 := Try.sizeOf52
  v93 := Try.zeroValue52
  t130 := Try.underlying55
  a130 := Try.isAgg55
  z130 := Try.sizeOf55
  v130 := Try.zeroValue55
  t5 := Try.underlying5
  a5 := Try.isAgg5
  z5 := Try.sizeOf5
  v5 := Try.zeroValue5
  t91 := Try.underlying50
  a91 := Try.isAgg50
  z91 := Try.sizeOf50
  v91 := Try.zeroValue50
  i0 := by kernel_rfl
  i3 := by kernel_rfl
  i5 := by kernel_rfl
  i37 := by kernel_rfl
  i91 := by kernel_rfl
  i93 := by kernel_rfl
  i130 := by kernel_rfl }

theorem Try.bufWriteString (B b : Nat) (bs : List Value) (s : ByteArray) (w : World) (h : Lib.IsBuffer 52 5 B b bs w) (hBw : B ≤ w.heap.size) (h1 : ∀ v ∈ bs, v.oneCell' = true) (hlim : bs.length + s.size ≤ 140737488355328) :
    Calls Try.prog 53 #[.pointer (some ⟨b, 0, none⟩), .string s] w fun e w' => e = .returned (.tuple #[.int .i64 s.size, .nilIface]) ∧ Lib.IsBuffer 52 5 B b (bs ++ Lib.byteCells s.data.toList) w' ∧ RowKit.Below B w w' ∧ Lib.OthersKept 5 (some b) w w' :=
  Any.Buffer_WriteString_kept Try.lays178 B b bs s w h hBw h1 hlim

theorem Try.bufBytes (B b : Nat) (bs : List Value) (w : World) (h : Lib.IsBuffer 52 5 B b bs w) :
    Calls Try.prog 18 #[.pointer (some ⟨b, 0, none⟩)] w fun e w' => ∃ v, e = .returned v ∧ w'.ownsRow B 5 1 v bs.length bs ∧ ∃ n, w' = w.drewN n :=
  Any.Buffer_Bytes Try.lays183 B b bs w h
end Go.Proofs
