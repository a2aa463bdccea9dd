/-
  'ZZWriteToBuffer'.
-/
import Derived.Test.Qxb6618498aWV
import Derived.Test.Qxb6618498aVR
namespace Go.Proofs.Qxb6618498a
open Go.RowKit Go.Shelf

/-- A slice of bytes that reads, as a string, as out, whatever cells are laid behind. -/
def ReadsAs (v : Value) (out : List UInt8) (W : World) : Prop :=
  (∃ p n c, v = .slice p n c) ∧ ∀ (c : Array Value) (t : TypeId), (convert 22 9 v).run Try.prog (W.alloc (.cells c t)) = .ok (.string ⟨out.toArray⟩) (W.alloc (.cells c t))

theorem reads_of_owns {B : Nat} {v : Value} {out : List UInt8} {W : World} (h : W.ownsRow B 5 1 v (Lib.byteCells out).length (Lib.byteCells out)) : ReadsAs v out W := by
  rcases h.2 with ⟨rfl, hn⟩ | ⟨g, cap, cur, rfl, _, hg, _, _, _, htk⟩
  · rw [Lib.byteCells_length] at hn
    obtain rfl : out = [] := List.eq_nil_of_length_eq_zero hn
    exact ⟨⟨_, _, _, rfl⟩, fun c t => Lib.run_convert_nil_bytes _ 22 9 5 0 Try.underlying22 Try.underlying5 Try.underlying9⟩
  · refine ⟨⟨_, _, _, rfl⟩, fun c t => ?_⟩
    rw [Nat.mul_one, Lib.byteCells_length] at htk
    have hg' : (W.alloc (.cells c t)).heap[g]? = some (.cells cur 5 (0, 0)) := keep_at hg
    have := run_convert_bytes_back (P := Try.prog) (W.alloc (.cells c t)) 22 9 5 ⟨g, 0, none⟩ cap out Try.underlying22 Try.underlying5 Try.underlying9 (Lib.bytes_of_row hg' htk)
    rw [Lib.byteCells_length]
    exact this

set_option maxHeartbeats 1000000 in
theorem toBuffer (nb : Nat) (f t : Nat) (out : List UInt8) (w : World) (hft : f ≤ t) (ht : t ≤ 1048576)
    (hg : ∀ V, Below w.heap.size w V → GivesAll nb (w.heap.size + 1) f t out V) :
    Calls Try.prog 14 #[.agg #[.pointer (some ⟨nb, 0, none⟩), .int .i64 f, .int .i64 t]] w fun e w' =>
      ∃ v, e = .returned (.tuple #[.int .i64 out.length, v, .nilIface]) ∧ ReadsAs v out w' ∧ Below w.heap.size w w' := by
  have HG : Hid (GivesAll nb (w.heap.size + 1) f t out ((w.alloc (.cells #[.pointer (some ⟨nb, 0, none⟩), .int .i64 f, .int .i64 t] 35)).alloc (.cells #[.slice none 0 0, .int .i64 0, .int .i8 0] 52))) :=
    hg _ (((Below.refl _ w).alloc (Nat.le_refl _) _).alloc (by simp) _)
  have HB : Hid (Lib.IsBuffer 52 5 (w.heap.size + 1) (w.heap.size + 1) (Lib.byteCells []) ((w.alloc (.cells #[.pointer (some ⟨nb, 0, none⟩), .int .i64 f, .int .i64 t] 35)).alloc (.cells #[.slice none 0 0, .int .i64 0, .int .i8 0] 52))) := by
    have := Lib.fresh_isBuffer 52 5 (w.alloc (.cells #[.pointer (some ⟨nb, 0, none⟩), .int .i64 f, .int .i64 t] 35))
    rw [World.size_alloc] at this
    exact this
  clear hg
  go_enter Try.func14, Try.ntmps14
  go_wp2_with fail
  refine (writeTo nb (w.heap.size + 1) f t out _ HB.out hft ht HG.out).mono ?_
  rintro e w1 ⟨rfl, hbuf, hbel⟩
  have HW : Hid (Lib.IsBuffer 52 5 (w.heap.size + 1) (w.heap.size + 1) (Lib.byteCells out) w1 ∧ Below w.heap.size w w1) :=
    ⟨hbuf, (((Below.refl _ w).alloc (Nat.le_refl _) _).alloc (by simp) _).trans (hbel.mono (by omega))⟩
  clear hbuf hbel HG HB
  go_wp2_with fail
  refine (Try.bufBytes (w.heap.size + 1) (w.heap.size + 1) (Lib.byteCells out) w1 HW.out.1).mono ?_
  rintro e w2 ⟨v, rfl, hown, n, hw2⟩
  have hrd := reads_of_owns hown
  have HR : Hid (ReadsAs v out w2 ∧ Below w.heap.size w w2) := by
    refine ⟨hrd, ?_⟩
    rw [hw2]
    exact ⟨HW.out.2.os, HW.out.2.tape, HW.out.2.output, HW.out.2.size, HW.out.2.block⟩
  obtain ⟨⟨p, ln, cp, hv⟩, _⟩ := hrd
  subst hv
  clear hown hw2 HW
  go_wp2_with fail
  go_ret3
  exact ⟨_, rfl, HR.out.1, HR.out.2⟩
end Go.Proofs.Qxb6618498a
