/-
  The shim over 'nextWhere', as one contract for every queue.
-/
import Derived.Test.Qxb6618497aNA
namespace Go.Proofs.Qxb6618497a
open Go.RowKit

set_option maxHeartbeats 1000000 in
theorem nextZero (q lb c : Nat) (a : Option Addr) (w : World) (hq : q < w.heap.size)
    (c0 : w.cell? ⟨q, 0, none⟩ = some (.slice a 0 c)) (hf : w.frozen? ⟨q, 0, none⟩ = false) :
    Calls Try.prog 16 #[.pointer (some ⟨q, 0, none⟩), .func (.func 17) #[] #[.pointer (some ⟨lb, 0, none⟩)]] w fun e w' =>
      e = .returned (.tuple #[.int .i32 0, .bool false]) ∧ w' = ((w.alloc (.cells #[.pointer (some ⟨q, 0, none⟩)] 28)).alloc (.cells #[.slice a 0 c] 22)).setCell ⟨q, 0, none⟩ (.slice a 0 c) := by
  have hmf : ∀ (fn : Fn) (first cap : Array Value) (w : World), (Instr.makeFunc fn first cap).run Try.prog w = .ok (.func fn first cap) w := fun _ _ _ _ => rfl
  go_enter_defers Try.func16, Try.ntmps16
  go_wp2_with fail
  go_loopg [] 0 (fun _ wr => wr = (w.alloc (.cells #[.pointer (some ⟨q, 0, none⟩)] 28)).alloc (.cells #[.slice a 0 c] 22))
  case atStart => rfl
  case round =>
    subst hrel
    go_wp2_with fail
    refine leaves_cons (f := 19) (args := #[.pointer (some ⟨w.heap.size + 1, 0, none⟩), .pointer (some ⟨w.heap.size, 0, none⟩)]) (by simp) (by simp [go_sem]) ?_
    refine (backWalk (w.heap.size + 1) w.heap.size q (.slice a 0 c) a 0 c _ ?_ ?_ ?_ ?_).mono ?_
    · go_simp
    · go_simp
    · go_simp
    · go_simp
    rintro e u' w'' ⟨rfl, rfl, rfl⟩
    simp [Leaves, settle, results, Try.results16, go_sem]

/-- The slice's n elements are Z. -/
def Elems (w : World) (a : Option Addr) (n : Nat) (Z : Nat → Int) : Prop := n = 0 ∨ ∃ b o, a = some ⟨b, o, none⟩ ∧ ∀ i, i < n → w.cell? ⟨b, o + i, none⟩ = some (.int .i32 (Z i))

/-- Behind 'nextWhere' on the variable at block q: the variable holds v; below it nothing has turned. -/
structure Popped (q : Nat) (v : Value) (w w' : World) : Prop where
  below : Below q w w'
  cell : w'.cell? ⟨q, 0, none⟩ = some v
  frozen : w'.frozen? ⟨q, 0, none⟩ = false

theorem block_lt {w : World} {p : Addr} {v : Value} (h : w.cell? p = some v) : p.block < w.heap.size := by
  rcases Nat.lt_or_ge p.block w.heap.size with h1 | h1
  · exact h1
  · have e : w.heap[p.block]? = none := Array.getElem?_eq_none h1
    simp [World.cell?, e] at h

theorem popped_of {q : Nat} {u v x y z : Value} {w : World} (hq : q < w.heap.size) (c0 : w.cell? ⟨q, 0, none⟩ = some u) (hf : w.frozen? ⟨q, 0, none⟩ = false) :
    Popped q v w ((((w.alloc (.cells #[x] 21)).alloc (.cells #[y] 28)).alloc (.cells #[z] 22)).setCell ⟨q, 0, none⟩ v) := by
  have hB : Below w.heap.size w (((w.alloc (.cells #[x] 21)).alloc (.cells #[y] 28)).alloc (.cells #[z] 22)) :=
    (((Below.refl _ w).alloc (Nat.le_refl _) _).alloc (by simp) _).alloc (by simp; omega) _
  refine ⟨(hB.mono (Nat.le_of_lt hq)).setCell (p := ⟨q, 0, none⟩) (Nat.le_refl q) v, ?_, ?_⟩
  · exact World.cell?_setCell_same _ _ _ ((hB.cell (p := ⟨q, 0, none⟩) hq).trans c0)
  · rw [World.frozen?_setCell]
    exact (hB.frozen (p := ⟨q, 0, none⟩) hq).trans hf

set_option maxHeartbeats 1000000 in
theorem zzNext (q n c : Nat) (a : Option Addr) (lim : Int) (Z : Nat → Int) (w : World) (hn : n ≤ 262144) (hnc : n ≤ c) (hq : q < w.heap.size)
    (c0 : w.cell? ⟨q, 0, none⟩ = some (.slice a n c)) (hf : w.frozen? ⟨q, 0, none⟩ = false) (hz : Elems w a n Z) :
    Calls Try.prog 10 #[.pointer (some ⟨q, 0, none⟩), .int .i32 lim] w fun e w' =>
      e = .returned (.tuple #[.int .i32 (nextVal Z lim n), .bool (nextOk Z lim n)]) ∧ Popped q (.slice a (nextLen Z lim n) c) w w' := by
  have hmf : ∀ (fn : Fn) (first cap : Array Value) (w : World), (Instr.makeFunc fn first cap).run Try.prog w = .ok (.func fn first cap) w := fun _ _ _ _ => rfl
  have HP : Hid (w.cell? ⟨q, 0, none⟩ = some (.slice a n c) ∧ w.frozen? ⟨q, 0, none⟩ = false) := ⟨c0, hf⟩
  rcases Nat.eq_zero_or_pos n with h0 | h0
  · subst h0
    have HN : Hid (nextVal Z lim 0 = 0 ∧ nextOk Z lim 0 = false ∧ nextLen Z lim 0 = 0) := next_none rfl
    clear hz
    go_enter Try.func10, Try.ntmps10
    go_wp2_with fail
    refine (nextZero q w.heap.size c a _ (by simp; omega) (by go_simp) (by go_simp)).mono ?_
    rintro e w' ⟨rfl, rfl⟩
    go_wp2_with fail
    go_ret2
    rw [HN.out.1, HN.out.2.1, HN.out.2.2]
    exact ⟨rfl, popped_of hq HP.out.1 HP.out.2⟩
  · obtain ⟨b, o, rfl, hy⟩ : ∃ b o, a = some ⟨b, o, none⟩ ∧ ∀ i, i < n → w.cell? ⟨b, o + i, none⟩ = some (.int .i32 (Z i)) := by
      rcases hz with hz | hz
      · omega
      · exact hz
    have hb : b < w.heap.size := block_lt (hy 0 h0)
    have HZ : Hid (∀ i, i < n → w.cell? ⟨b, o + i, none⟩ = some (.int .i32 (Z i))) := hy
    clear hy hz
    go_enter Try.func10, Try.ntmps10
    go_wp2_with fail
    refine (nextSome q w.heap.size b o n c lim Z _ hn hnc (by simp; omega) (by simp) (by simp; omega) (by go_simp) (by go_simp) (by go_simp) (fun i hi => by rw [World.cell?_of_block (w := w) (Below.heap_alloc w _ _ hb)]; exact HZ.out i hi)).mono ?_
    rintro e w' ⟨rfl, rfl⟩
    go_wp2_with fail
    go_ret2
    exact ⟨rfl, popped_of hq HP.out.1 HP.out.2⟩

set_option maxHeartbeats 400000 in
theorem bytesNext (a : Option Addr) (n c : Nat) (lim : Int) (w : World) (h0 : n ≤ maxLen) {r : Bool} (hr : decide (n ≤ 1048576) = r) :
    Calls Try.prog 9 #[.slice a n c, .int .i32 lim] w fun e w' => e = .returned (.bool r) ∧ w' = w := by
  unfold maxLen at h0
  subst hr
  go_enter Try.func9, Try.ntmps9
  go_wp2
  all_goals
    go_ret
    refine ⟨?_, rfl⟩
    first | (rw [decide_eq_false (p := n ≤ 1048576) (by omega)]; rfl) | (rw [decide_eq_true (p := n ≤ 1048576) (by omega)]; rfl)
end Go.Proofs.Qxb6618497a
