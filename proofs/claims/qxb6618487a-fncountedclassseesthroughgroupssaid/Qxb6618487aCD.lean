/-
  The walk of 'countedClass' over a node whose one part is a chain.
-/
import Derived.Test.Qxb6618487aCC
namespace Go.Proofs.Qxb6618487a
open Go.RowKit

set_option maxHeartbeats 1000000 in
theorem counted_no (b : Nat) (op mn mx : Int) (w : World) (h : ¬ (op = 4 ∧ (2 ≤ mx ∨ (mx < 0 ∧ 2 ≤ mn))))
    (c0 : w.cell? ⟨b, 0, none⟩ = some (.int .i64 op)) (c3 : w.cell? ⟨b, 3, none⟩ = some (.int .i64 mn)) (c4 : w.cell? ⟨b, 4, none⟩ = some (.int .i64 mx)) :
    Calls Try.prog 43 #[.pointer (some ⟨b, 0, none⟩)] w fun e w' => e = .returned (.pointer none) ∧ w' = w := by
  by_cases h4 : op = 4
  · subst h4
    by_cases hx : mx < 0
    · have hm : mn < 2 := by omega
      have hx' : ¬ 0 ≤ mx := by omega
      clear h
      go_enter Try.func43, Try.ntmps43
      go_wp2
      go_ret
      exact ⟨rfl, rfl⟩
    · have hx' : 0 ≤ mx := by omega
      have hm : mx < 2 := by omega
      clear h
      go_enter Try.func43, Try.ntmps43
      go_wp2
      go_ret
      exact ⟨rfl, rfl⟩
  · have b4 : (op != 4) = true := by simpa using h4
    clear h
    go_enter Try.func43, Try.ntmps43
    go_wp2
    go_ret
    exact ⟨rfl, rfl⟩

/-- What the chain's leaf answers. -/
def ans (leaf : Int) (cl : Addr) : Option Addr := if leaf = 0 then some cl else none

set_option maxHeartbeats 1000000 in
theorem counted_yes (b s b' n : Nat) (mn mx leaf : Int) (cl : Addr) (w : World) (h : 2 ≤ mx ∨ (mx < 0 ∧ 2 ≤ mn)) (hl : ¬ leaf = 3)
    (c0 : w.cell? ⟨b, 0, none⟩ = some (.int .i64 4)) (c2 : w.cell? ⟨b, 2, none⟩ = some (.slice (some ⟨s, 0, none⟩) 1 1)) (c3 : w.cell? ⟨b, 3, none⟩ = some (.int .i64 mn)) (c4 : w.cell? ⟨b, 4, none⟩ = some (.int .i64 mx))
    (cs : w.cell? ⟨s, 0, none⟩ = some (.pointer (some ⟨b', 0, none⟩))) (hc : Chain w leaf cl n b') :
    Calls Try.prog 43 #[.pointer (some ⟨b, 0, none⟩)] w fun e w' => e = .returned (.pointer (ans leaf cl)) ∧ w' = w := by
  have b3 : (leaf == 3) = false := by simpa using hl
  rcases h with h | ⟨h, hm⟩
  · have hx : 0 ≤ mx := by omega
    have hx2 : ¬ mx < 2 := by omega
    have hx0 : ¬ mx < 0 := by omega
    have HC : Hid (Chain w leaf cl n b') := hc
    clear hc
    go_enter Try.func43, Try.ntmps43
    go_wp2
    clear cs c0 c2 c3 c4
    go_loopg [3] n (fun k p wr => ∃ q : Nat, p = .pointer (some ⟨q, 0, none⟩) ∧ wr = w ∧ Chain w leaf cl k q)
    case atStart => exact ⟨b', rfl, rfl, HC.out⟩
    case round =>
      obtain ⟨q, rfl, rfl, hch⟩ := hrel
      cases gk with
      | zero =>
        obtain ⟨d0, d1⟩ := hch
        by_cases hz : leaf = 0
        · subst hz
          have d2 := d1 rfl
          clear d1
          go_wp2
          go_ret
          exact ⟨rfl, rfl⟩
        · have bz : (leaf != 0) = true := by simpa using hz
          clear d1
          go_wp2
          go_ret
          exact ⟨by simp [ans, hz], rfl⟩
      | succ k =>
        obtain ⟨d0, s1, b1, d1, d2, d3⟩ := hch
        have HD : Hid (Chain wr leaf cl k b1) := d3
        clear d3
        go_wp2
        go_roundg k
        case measure => omega
        case rel => exact ⟨b1, rfl, rfl, HD.out⟩
  · have hx : ¬ 0 ≤ mx := by omega
    have hm2 : ¬ mn < 2 := by omega
    have HC : Hid (Chain w leaf cl n b') := hc
    clear hc
    go_enter Try.func43, Try.ntmps43
    go_wp2
    clear cs c0 c2 c3 c4
    go_loopg [3] n (fun k p wr => ∃ q : Nat, p = .pointer (some ⟨q, 0, none⟩) ∧ wr = w ∧ Chain w leaf cl k q)
    case atStart => exact ⟨b', rfl, rfl, HC.out⟩
    case round =>
      obtain ⟨q, rfl, rfl, hch⟩ := hrel
      cases gk with
      | zero =>
        obtain ⟨d0, d1⟩ := hch
        by_cases hz : leaf = 0
        · subst hz
          have d2 := d1 rfl
          clear d1
          go_wp2
          go_ret
          exact ⟨rfl, rfl⟩
        · have bz : (leaf != 0) = true := by simpa using hz
          clear d1
          go_wp2
          go_ret
          exact ⟨by simp [ans, hz], rfl⟩
      | succ k =>
        obtain ⟨d0, s1, b1, d1, d2, d3⟩ := hch
        have HD : Hid (Chain wr leaf cl k b1) := d3
        clear d3
        go_wp2
        go_roundg k
        case measure => omega
        case rel => exact ⟨b1, rfl, rfl, HD.out⟩

theorem zz_no (b : Nat) (op mn mx : Int) (w : World) (h : ¬ (op = 4 ∧ (2 ≤ mx ∨ (mx < 0 ∧ 2 ≤ mn))))
    (c0 : w.cell? ⟨b, 0, none⟩ = some (.int .i64 op)) (c3 : w.cell? ⟨b, 3, none⟩ = some (.int .i64 mn)) (c4 : w.cell? ⟨b, 4, none⟩ = some (.int .i64 mx)) :
    Calls Try.prog 31 #[.pointer (some ⟨b, 0, none⟩)] w fun e w' => e = .returned (.pointer none) ∧ w' = w := by
  go_enter Try.func31, Try.ntmps31
  go_wp2_with (go_at_call 43; refine (counted_no b op mn mx _ h c0 c3 c4).mono ?_; rintro e w' ⟨rfl, rfl⟩)
  go_ret
  exact ⟨rfl, rfl⟩

theorem zz_yes (b s b' n : Nat) (mn mx leaf : Int) (cl : Addr) (w : World) (h : 2 ≤ mx ∨ (mx < 0 ∧ 2 ≤ mn)) (hl : ¬ leaf = 3)
    (c0 : w.cell? ⟨b, 0, none⟩ = some (.int .i64 4)) (c2 : w.cell? ⟨b, 2, none⟩ = some (.slice (some ⟨s, 0, none⟩) 1 1)) (c3 : w.cell? ⟨b, 3, none⟩ = some (.int .i64 mn)) (c4 : w.cell? ⟨b, 4, none⟩ = some (.int .i64 mx))
    (cs : w.cell? ⟨s, 0, none⟩ = some (.pointer (some ⟨b', 0, none⟩))) (hc : Chain w leaf cl n b') :
    Calls Try.prog 31 #[.pointer (some ⟨b, 0, none⟩)] w fun e w' => e = .returned (.pointer (ans leaf cl)) ∧ w' = w := by
  have hy := counted_yes b s b' n mn mx leaf cl w h hl c0 c2 c3 c4 cs hc
  have HY : Hid (Calls Try.prog 43 #[.pointer (some ⟨b, 0, none⟩)] w fun e w' => e = .returned (.pointer (ans leaf cl)) ∧ w' = w) := hy
  clear hy c0 c2 c3 c4 cs hc h hl
  go_enter Try.func31, Try.ntmps31
  go_wp2_with (go_at_call 43; refine (HY.out).mono ?_; rintro e w' ⟨rfl, rfl⟩)
  go_ret
  exact ⟨rfl, rfl⟩

/-- What 'countedClass' answers. -/
def answer (op mn mx leaf : Int) (cl : Addr) : Option Addr := if op = 4 ∧ (2 ≤ mx ∨ (mx < 0 ∧ 2 ≤ mn)) then ans leaf cl else none

/-- 'ZZcountedClass' over a node whose one part is a chain, whatever the op and the bounds. -/
theorem zz_any (b s b' n : Nat) (op mn mx leaf : Int) (cl : Addr) (w : World) (hl : ¬ leaf = 3)
    (c0 : w.cell? ⟨b, 0, none⟩ = some (.int .i64 op)) (c2 : w.cell? ⟨b, 2, none⟩ = some (.slice (some ⟨s, 0, none⟩) 1 1)) (c3 : w.cell? ⟨b, 3, none⟩ = some (.int .i64 mn)) (c4 : w.cell? ⟨b, 4, none⟩ = some (.int .i64 mx))
    (cs : w.cell? ⟨s, 0, none⟩ = some (.pointer (some ⟨b', 0, none⟩))) (hc : Chain w leaf cl n b') :
    Calls Try.prog 31 #[.pointer (some ⟨b, 0, none⟩)] w fun e w' => e = .returned (.pointer (answer op mn mx leaf cl)) ∧ w' = w := by
  by_cases h : op = 4 ∧ (2 ≤ mx ∨ (mx < 0 ∧ 2 ≤ mn))
  · rw [answer, if_pos h]
    rw [h.1] at c0
    exact zz_yes b s b' n mn mx leaf cl w h.2 hl c0 c2 c3 c4 cs hc
  · rw [answer, if_neg h]
    exact zz_no b op mn mx w h c0 c3 c4
end Go.Proofs.Qxb6618487a
