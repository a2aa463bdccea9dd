/-
  The walks of 'nextWhere', of the two closures, and of the shim.
-/
import Derived.Test.Qxb6618497aRows
import Derived.WalkKit
import Derived.WalkSpells
import Derived.WalkLawsBesides
import Derived.Deep.LoopGhost
import Derived.Deep.QuietTactic
import Derived.BigQuiet
import Derived.Defers
import Derived.Recover
namespace Go.Proofs.Qxb6618497a
open Go.RowKit

/-- The greatest index below n at which Z lies below lim. -/
def lastBelow (Z : Nat → Int) (lim : Int) : Nat → Option Nat
  | 0 => none
  | n + 1 => if Z n < lim then some n else lastBelow Z lim n

set_option maxHeartbeats 400000 in
theorem predWalk (r lim : Int) (lb : Nat) (w : World) (hl : w.cell? ⟨lb, 0, none⟩ = some (.int .i32 lim)) :
    Calls Try.prog 17 #[.int .i32 r, .pointer (some ⟨lb, 0, none⟩)] w fun e w' => e = .returned (.bool (decide (r < lim))) ∧ w' = w := by
  go_enter Try.func17, Try.ntmps17
  go_wp2
  go_ret
  exact ⟨rfl, rfl⟩

set_option maxHeartbeats 400000 in
theorem backWalk (p pp q : Nat) (v : Value) (a : Option Addr) (n c : Nat) (w : World) (h0 : w.cell? ⟨p, 0, none⟩ = some (.slice a n c)) (h1 : w.cell? ⟨pp, 0, none⟩ = some (.pointer (some ⟨q, 0, none⟩)))
    (h2 : w.cell? ⟨q, 0, none⟩ = some v) (hf : w.frozen? ⟨q, 0, none⟩ = false) :
    CallsD Try.prog 19 #[.pointer (some ⟨p, 0, none⟩), .pointer (some ⟨pp, 0, none⟩)] .returning w fun e u' w' =>
      u' = .returning ∧ (e = .returned (.tuple #[]) ∧ w' = w.setCell ⟨q, 0, none⟩ (.slice a n c)) := by
  go_enter_d Try.func19, Try.ntmps19
  go_wp2
  go_end0
  exact ⟨rfl, rfl⟩

/-- What 'nextWhere' hands out. -/
def nextVal (Z : Nat → Int) (lim : Int) (n : Nat) : Int := match lastBelow Z lim n with | some i => Z i | none => 0
def nextOk (Z : Nat → Int) (lim : Int) (n : Nat) : Bool := (lastBelow Z lim n).isSome
def nextLen (Z : Nat → Int) (lim : Int) (n : Nat) : Nat := (lastBelow Z lim n).getD 0

theorem next_hit {Z : Nat → Int} {lim : Int} {n k : Nat} (h : lastBelow Z lim n = lastBelow Z lim (k + 1)) (hk : Z k < lim) : nextVal Z lim n = Z k ∧ nextOk Z lim n = true ∧ nextLen Z lim n = k := by
  have e : lastBelow Z lim n = some k := by rw [h]; simp [lastBelow, hk]
  simp [nextVal, nextOk, nextLen, e]
theorem next_miss {Z : Nat → Int} {lim : Int} {n k : Nat} (h : lastBelow Z lim n = lastBelow Z lim (k + 1)) (hk : ¬ Z k < lim) : lastBelow Z lim n = lastBelow Z lim k := by
  rw [h]; simp [lastBelow, hk]
theorem next_none {Z : Nat → Int} {lim : Int} {n : Nat} (h : lastBelow Z lim n = lastBelow Z lim 0) : nextVal Z lim n = 0 ∧ nextOk Z lim n = false ∧ nextLen Z lim n = 0 := by
  have e : lastBelow Z lim n = none := by rw [h]; rfl
  simp [nextVal, nextOk, nextLen, e]

/-- The two variables that 'nextWhere' lays: the pointer, and what is left of the queue. -/
abbrev laid (w : World) (q b o k c : Nat) : World := (w.alloc (.cells #[.pointer (some ⟨q, 0, none⟩)] 28)).alloc (.cells #[.slice (some ⟨b, o, none⟩) k c] 22)

set_option maxHeartbeats 1000000 in
theorem nextSome (q lb b o n c : Nat) (lim : Int) (Z : Nat → Int) (w : World) (hn : n ≤ 262144) (hnc : n ≤ c) (hq : q < w.heap.size) (hlb : lb < w.heap.size) (hb : b < w.heap.size)
    (c0 : w.cell? ⟨q, 0, none⟩ = some (.slice (some ⟨b, o, none⟩) n c)) (hf : w.frozen? ⟨q, 0, none⟩ = false) (cl : w.cell? ⟨lb, 0, none⟩ = some (.int .i32 lim))
    (hz : ∀ i, i < n → w.cell? ⟨b, o + i, none⟩ = some (.int .i32 (Z i))) :
    Calls Try.prog 16 #[.pointer (some ⟨q, 0, none⟩), .func (.func 17) #[] #[.pointer (some ⟨lb, 0, none⟩)]] w fun e w' =>
      e = .returned (.tuple #[.int .i32 (nextVal Z lim n), .bool (nextOk Z lim n)]) ∧ w' = (laid w q b o (nextLen Z lim n) c).setCell ⟨q, 0, none⟩ (.slice (some ⟨b, o, none⟩) (nextLen Z lim n) c) := by
  have hmf : ∀ (fn : Fn) (first cap : Array Value) (w : World), (Instr.makeFunc fn first cap).run Try.prog w = .ok (.func fn first cap) w := fun _ _ _ _ => rfl
  have HZ : Hid (∀ i, i < n → w.cell? ⟨b, o + i, none⟩ = some (.int .i32 (Z i))) := hz
  clear hz
  go_enter_defers Try.func16, Try.ntmps16
  go_wp2_with fail
  go_loopg [] n (fun k wr => k ≤ n ∧ lastBelow Z lim n = lastBelow Z lim k ∧ wr = laid w q b o k c)
  case atStart => exact ⟨Nat.le_refl _, rfl, rfl⟩
  case round =>
    obtain ⟨hk, hlast, rfl⟩ := hrel
    have HL : Hid (lastBelow Z lim n = lastBelow Z lim gk) := hlast
    clear hlast
    cases gk with
    | zero =>
      have HN : Hid (nextVal Z lim n = 0 ∧ nextOk Z lim n = false ∧ nextLen Z lim n = 0) := next_none HL.out
      go_wp2_with fail
      refine leaves_cons (f := 19) (args := #[.pointer (some ⟨w.heap.size + 1, 0, none⟩), .pointer (some ⟨w.heap.size, 0, none⟩)]) (by simp) (by simp [go_sem]) ?_
      refine (backWalk (w.heap.size + 1) w.heap.size q (.slice (some ⟨b, o, none⟩) n c) (some ⟨b, o, none⟩) 0 c _ ?_ ?_ ?_ ?_).mono ?_
      · go_simp
      · go_simp
      · go_simp
      · go_simp
      rintro e u' w'' ⟨rfl, rfl, rfl⟩
      rw [HN.out.1, HN.out.2.1, HN.out.2.2]
      simp [Leaves, settle, results, Try.results16, go_sem]
    | succ k =>
      have d := HZ.out k (by omega)
      have hk' : (k : Int) + 1 ≤ 262144 := by omega
      have hkc : (k : Int) + 1 ≤ (c : Int) := by omega
      by_cases hlt : Z k < lim
      · have HN : Hid (nextVal Z lim n = Z k ∧ nextOk Z lim n = true ∧ nextLen Z lim n = k) := next_hit HL.out hlt
        go_wp2_with fail
        refine (predWalk (Z k) lim lb _ ?_).mono ?_
        · go_simp
        rintro e w' ⟨rfl, rfl⟩
        go_wp2_with fail
        refine leaves_cons (f := 19) (args := #[.pointer (some ⟨w.heap.size + 1, 0, none⟩), .pointer (some ⟨w.heap.size, 0, none⟩)]) (by simp) (by simp [go_sem]) ?_
        refine (backWalk (w.heap.size + 1) w.heap.size q (.slice (some ⟨b, o, none⟩) n c) (some ⟨b, o, none⟩) k c _ ?_ ?_ ?_ ?_).mono ?_
        · go_simp
        · go_simp
        · go_simp
        · go_simp
        rintro e u' w'' ⟨rfl, rfl, rfl⟩
        rw [HN.out.1, HN.out.2.1, HN.out.2.2]
        simp [Leaves, settle, results, Try.results16, go_sem]
      · have hd : decide (Z k < lim) = false := by simpa using hlt
        have HM : Hid (lastBelow Z lim n = lastBelow Z lim k) := next_miss HL.out hlt
        go_wp2_with fail
        refine (predWalk (Z k) lim lb _ ?_).mono ?_
        · go_simp
        rintro e w' ⟨rfl, rfl⟩
        go_wp2_with fail
        go_roundg k
        case measure => omega
        case rel => exact ⟨by omega, HM.out, rfl⟩
end Go.Proofs.Qxb6618497a
