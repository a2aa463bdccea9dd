/-
  The walks that the law over 'summedBy' stands on.
-/
import Derived.Test.Qxb6618497aRows
import Derived.WalkKit
import Derived.WalkSpells
import Derived.WalkLawsBesides
import Derived.Deep.LoopGhost
import Derived.Deep.QuietTactic
import Derived.BigQuiet
import Derived.Laws.CopyOwn
import Derived.Deep.OwnRows
namespace Go.Proofs.Qxb6618497a
open Go.RowKit

/-- 'rows[l:h]': so many cells from l on (where there are any: an empty cut may lie at the row's head). -/
def Got (g1 l h : Nat) (e : Ending) : Prop := ∃ o c, e = .returned (.slice (some ⟨g1, o, none⟩) (h - l) c) ∧ (l < h → o = l)

set_option maxHeartbeats 400000 in
theorem summedBy (b g0 g1 n0 n1 j l h : Nat) (w : World) (hj : j + 1 < n0) (hn : n0 ≤ 131072) (hlh : l ≤ h) (hh : h ≤ n1) (_hn1 : n1 ≤ 131072)
    (c5 : w.cell? ⟨b, 5, none⟩ = some (.slice (some ⟨g0, 0, none⟩) n0 n0)) (c6 : w.cell? ⟨b, 6, none⟩ = some (.slice (some ⟨g1, 0, none⟩) n1 n1))
    (cl : w.cell? ⟨g0, j, none⟩ = some (.int .i32 l)) (ch : w.cell? ⟨g0, j + 1, none⟩ = some (.int .i32 h)) :
    Calls Try.prog 15 #[.pointer (some ⟨b, 0, none⟩), .int .i32 j] w fun e w' => Got g1 l h e ∧ ∃ n, w' = w.drewN n := by
  have i1 : (j : Int) < (n0 : Int) := by omega
  have i2 : (j : Int) + 1 < (n0 : Int) := by omega
  have i3 : (l : Int) ≤ (h : Int) := by omega
  have i4 : (h : Int) ≤ (n1 : Int) := by omega
  by_cases hz : n1 = l
  · subst hz
    go_enter Try.func15, Try.ntmps15
    go_wp2
    go_quiet (fail)
    go_wp2
    go_ret
    refine ⟨⟨0, 0, ?_, fun q => by omega⟩, nq, rfl⟩
    rw [show h - n1 = 0 by omega]
    rfl
  · go_enter Try.func15, Try.ntmps15
    go_wp2
    go_quiet (fail)
    go_wp2
    go_ret
    exact ⟨⟨_, _, rfl, fun q => rfl⟩, nq, rfl⟩

set_option maxHeartbeats 400000 in
theorem summedByNil (b g0 n0 j : Nat) (w : World) (hj : j + 1 < n0) (hn : n0 ≤ 131072)
    (c5 : w.cell? ⟨b, 5, none⟩ = some (.slice (some ⟨g0, 0, none⟩) n0 n0)) (c6 : w.cell? ⟨b, 6, none⟩ = some (.slice none 0 0))
    (cl : w.cell? ⟨g0, j, none⟩ = some (.int .i32 0)) (ch : w.cell? ⟨g0, j + 1, none⟩ = some (.int .i32 0)) :
    Calls Try.prog 15 #[.pointer (some ⟨b, 0, none⟩), .int .i32 j] w fun e w' => e = .returned (.slice none 0 0) ∧ ∃ n, w' = w.drewN n := by
  have i1 : (j : Int) < (n0 : Int) := by omega
  have i2 : (j : Int) + 1 < (n0 : Int) := by omega
  go_enter Try.func15, Try.ntmps15
  go_wp2
  go_quiet (fail)
  go_wp2
  go_ret
  exact ⟨rfl, nq, rfl⟩

theorem below_drewN' {B : Nat} {a w : World} (h : Below B a w) (n : Nat) : Below B a (w.drewN n) := ⟨h.os, h.tape, h.output, h.size, h.block⟩

set_option maxHeartbeats 400000 in
theorem zzSummed (g0 g1 n0 n1 j l h : Nat) (w : World) (hg0 : g0 < w.heap.size) (hj : j + 1 < n0) (hn : n0 ≤ 131072) (hlh : l ≤ h) (hh : h ≤ n1) (_hn1 : n1 ≤ 131072)
    (cl : w.cell? ⟨g0, j, none⟩ = some (.int .i32 l)) (ch : w.cell? ⟨g0, j + 1, none⟩ = some (.int .i32 h)) :
    Calls Try.prog 8 #[.slice (some ⟨g0, 0, none⟩) n0 n0, .slice (some ⟨g1, 0, none⟩) n1 n1, .int .i32 j] w fun e w' => Got g1 l h e ∧ Below w.heap.size w w' := by
  go_enter Try.func8, Try.ntmps8
  go_wp2_with fail
  refine (summedBy w.heap.size g0 g1 n0 n1 j l h _ hj hn hlh hh _hn1 (by go_simp) (by go_simp) (by rw [World.cell?_of_block (w := w) (Below.heap_alloc w _ _ hg0)]; exact cl) (by rw [World.cell?_of_block (w := w) (Below.heap_alloc w _ _ hg0)]; exact ch)).mono ?_
  rintro e w' ⟨⟨o, c, rfl, ho⟩, n, rfl⟩
  go_wp2
  go_ret
  exact ⟨⟨o, c, rfl, ho⟩, below_drewN' ((Below.refl _ _).alloc (Nat.le_refl _) _) n⟩

set_option maxHeartbeats 400000 in
theorem zzSummedNil (g0 n0 j : Nat) (w : World) (hg0 : g0 < w.heap.size) (hj : j + 1 < n0) (hn : n0 ≤ 131072)
    (cl : w.cell? ⟨g0, j, none⟩ = some (.int .i32 0)) (ch : w.cell? ⟨g0, j + 1, none⟩ = some (.int .i32 0)) :
    Calls Try.prog 8 #[.slice (some ⟨g0, 0, none⟩) n0 n0, .slice none 0 0, .int .i32 j] w fun e w' => e = .returned (.slice none 0 0) ∧ Below w.heap.size w w' := by
  go_enter Try.func8, Try.ntmps8
  go_wp2_with fail
  refine (summedByNil w.heap.size g0 n0 j _ hj hn (by go_simp) (by go_simp) (by rw [World.cell?_of_block (w := w) (Below.heap_alloc w _ _ hg0)]; exact cl) (by rw [World.cell?_of_block (w := w) (Below.heap_alloc w _ _ hg0)]; exact ch)).mono ?_
  rintro e w' ⟨rfl, n, rfl⟩
  go_wp2
  go_ret
  exact ⟨rfl, below_drewN' ((Below.refl _ _).alloc (Nat.le_refl _) _) n⟩

theorem ret_f {q : Prop} [Decidable q] (h : ¬ q) : Ending.returned (.bool false) = .returned (.bool (decide q)) := by rw [decide_eq_false h]
theorem ret_t {q : Prop} [Decidable q] (h : q) : Ending.returned (.bool true) = .returned (.bool (decide q)) := by rw [decide_eq_true h]

set_option maxHeartbeats 400000 in
theorem bytesTwo (a0 a1 : Option Addr) (n0 c0 n1 c1 : Nat) (w : World) (h0 : n0 ≤ maxLen) (h1 : n1 ≤ maxLen) :
    Calls Try.prog 7 #[.slice a0 n0 c0, .slice a1 n1 c1] w fun e w' => e = .returned (.bool (decide (n0 + n1 ≤ 1048576))) ∧ w' = w := by
  unfold maxLen at h0 h1
  go_enter Try.func7, Try.ntmps7
  go_wp2
  all_goals
    go_ret
    refine ⟨?_, rfl⟩
    first | exact ret_f (by omega) | exact ret_t (by omega)
end Go.Proofs.Qxb6618497a
