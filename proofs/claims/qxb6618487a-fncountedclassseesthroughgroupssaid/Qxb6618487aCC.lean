/-
  The walks that the two laws over 'countedClass' share: the maker of a class, the maker of a node, the chain of groups, and 'countedClass' itself.
-/
import Derived.Test.Qxb6618487aRows
import Derived.WalkKit
import Derived.WalkSpells
import Derived.WalkLawsBesides
import Derived.Deep.LoopGhost
import Derived.Deep.QuietTactic
import Derived.BigQuiet
namespace Go.Proofs.Qxb6618487a
open Go.RowKit

set_option maxHeartbeats 400000 in
theorem newClass (w : World) : Calls Try.prog 28 #[] w fun e w' => e = .returned (.pointer (some ⟨w.heap.size, 0, none⟩)) ∧
    w.alloc (.cells #[.slice none 0 0, .slice none 0 0, .bool false, .pointer none, .int .i64 0] 69) = w' := by
  go_enter Try.func28, Try.ntmps28
  go_wp2
  go_ret
  exact ⟨rfl, rfl⟩

set_option maxHeartbeats 400000 in
theorem newNode (op mn mx gr : Int) (set : Option Addr) (sa : Option Addr) (sl sc : Nat) (w : World) :
    Calls Try.prog 29 #[.int .i64 op, .pointer set, .slice sa sl sc, .int .i64 mn, .int .i64 mx, .int .i64 gr] w fun e w' =>
      e = .returned (.pointer (some ⟨w.heap.size, 0, none⟩)) ∧ w.alloc (.cells #[.int .i64 op, .pointer set, .slice sa sl sc, .int .i64 mn, .int .i64 mx, .int .i64 gr] 72) = w' := by
  go_enter Try.func29, Try.ntmps29
  go_wp2
  go_ret
  exact ⟨rfl, rfl⟩

/-- A cell that holds something goes on holding it. -/
def Ext (w w' : World) : Prop := ∀ a v, w.cell? a = some v → w'.cell? a = some v
theorem Ext.refl (w : World) : Ext w w := fun _ _ h => h
theorem Ext.trans {a b c : World} (h : Ext a b) (k : Ext b c) : Ext a c := fun p v e => k p v (h p v e)
theorem Ext.alloc (w : World) (o : Obj) : Ext w (w.alloc o) := by
  intro a v h
  have hb : a.block < w.heap.size := by
    rcases Nat.lt_or_ge a.block w.heap.size with h1 | h1
    · exact h1
    · have e : w.heap[a.block]? = none := Array.getElem?_eq_none h1
      simp [World.cell?, e] at h
  rw [World.cell?_of_block (w := w) (Below.heap_alloc w o a.block hb)]
  exact h

/-- The chain of n groups, at block b, round a leaf of the given op; a character leaf holds the given class. -/
def Chain (w : World) (op : Int) (cl : Addr) : Nat → Nat → Prop
  | 0, b => w.cell? ⟨b, 0, none⟩ = some (.int .i64 op) ∧ (op = 0 → w.cell? ⟨b, 1, none⟩ = some (.pointer (some cl)))
  | n + 1, b => w.cell? ⟨b, 0, none⟩ = some (.int .i64 3) ∧ ∃ s b', w.cell? ⟨b, 2, none⟩ = some (.slice (some ⟨s, 0, none⟩) 1 1) ∧ w.cell? ⟨s, 0, none⟩ = some (.pointer (some ⟨b', 0, none⟩)) ∧ Chain w op cl n b'

theorem Chain.ext {w w' : World} (h : Ext w w') {op : Int} {cl : Addr} : ∀ {n b : Nat}, Chain w op cl n b → Chain w' op cl n b
  | 0, _, c => ⟨h _ _ c.1, fun e => h _ _ (c.2 e)⟩
  | _ + 1, _, ⟨c0, s, b', c1, c2, c3⟩ => ⟨h _ _ c0, s, b', h _ _ c1, h _ _ c2, Chain.ext h c3⟩

theorem Chain.step {w : World} {op : Int} {cl : Addr} {n b : Nat} (c : Chain w op cl n b) (t : TypeId) (x : Value) :
    Chain ((w.alloc (.cells #[.pointer (some ⟨b, 0, none⟩)] t)).alloc (.cells #[.int .i64 3, .pointer none, .slice (some ⟨w.heap.size, 0, none⟩) 1 1, .int .i64 0, .int .i64 0, x] 72)) op cl (n + 1) (w.heap.size + 1) := by
  refine ⟨?_, w.heap.size, b, ?_, ?_, Chain.ext ((Ext.alloc _ _).trans (Ext.alloc _ _)) c⟩
  · go_simp
  · go_simp
  · go_simp

set_option maxHeartbeats 1000000 in
theorem build0 (g : Nat)  (cl : Addr) (w : World) (hg : g ≤ 4096) :
    Calls Try.prog 30 #[.int .i64 g, .int .i64 0, .pointer (some cl)] w fun e w' => ∃ b, e = .returned (.pointer (some ⟨b, 0, none⟩)) ∧ Grown w w' ∧ Ext w w' ∧ Chain w' 0 cl g b := by
  go_enter Try.func30, Try.ntmps30
  go_wp2_with (first | (go_at_call 28; refine (newClass _).mono ?_; rintro e w' ⟨rfl, rfl⟩) | (go_at_call 29; refine (newNode _ _ _ _ _ _ _ _ _).mono ?_; rintro e w' ⟨rfl, rfl⟩))
  go_loopw [7, 9] (fun nd i wr => ∃ k b : Nat, k ≤ g ∧ i = .int .i64 k ∧ nd = .pointer (some ⟨b, 0, none⟩) ∧ Grown w wr ∧ Ext w wr ∧ Chain wr 0 cl k b) (fun _ i _ => g - (intOf i).toNat)
  case atStart =>
    refine ⟨0, _, Nat.zero_le _, rfl, rfl, (Grown.refl _).alloc _ _, Ext.alloc _ _, ?_, fun _ => ?_⟩
    · go_simp
    · go_simp
  case round =>
    obtain ⟨k, b, hk, rfl, rfl, hgr, hex, hch⟩ := hrel
    have HC : Hid (Grown w wr ∧ Ext w wr ∧ Chain wr 0 cl k b) := ⟨hgr, hex, hch⟩
    clear hgr hex hch
    by_cases hlt : k < g
    · go_wp2_with (first | (go_at_call 28; refine (newClass _).mono ?_; rintro e w' ⟨rfl, rfl⟩) | (go_at_call 29; refine (newNode _ _ _ _ _ _ _ _ _).mono ?_; rintro e w' ⟨rfl, rfl⟩))
      obtain ⟨hgr, hex, hch⟩ := HC.out
      go_roundw
      case rel => exact ⟨k + 1, _, by omega, by go_num, rfl, (hgr.alloc _ _).alloc _ _, (hex.trans (Ext.alloc _ _)).trans (Ext.alloc _ _), Chain.step hch _ _⟩
      case measure => simp [intOf]; omega
    · go_wp2
      go_ret
      obtain ⟨hgr, hex, hch⟩ := HC.out
      obtain rfl : k = g := by omega
      exact ⟨b, rfl, hgr, hex, hch⟩

set_option maxHeartbeats 1000000 in
theorem build1 (g : Nat)  (cl : Addr) (w : World) (hg : g ≤ 4096) :
    Calls Try.prog 30 #[.int .i64 g, .int .i64 1, .pointer (some cl)] w fun e w' => ∃ b, e = .returned (.pointer (some ⟨b, 0, none⟩)) ∧ Grown w w' ∧ Ext w w' ∧ Chain w' 1 cl g b := by
  go_enter Try.func30, Try.ntmps30
  go_wp2_with (first | (go_at_call 28; refine (newClass _).mono ?_; rintro e w' ⟨rfl, rfl⟩) | (go_at_call 29; refine (newNode _ _ _ _ _ _ _ _ _).mono ?_; rintro e w' ⟨rfl, rfl⟩))
  go_loopw [7, 9] (fun nd i wr => ∃ k b : Nat, k ≤ g ∧ i = .int .i64 k ∧ nd = .pointer (some ⟨b, 0, none⟩) ∧ Grown w wr ∧ Ext w wr ∧ Chain wr 1 cl k b) (fun _ i _ => g - (intOf i).toNat)
  case atStart =>
    refine ⟨0, _, Nat.zero_le _, rfl, rfl, ((((Grown.refl _).alloc _ _).alloc _ _).alloc _ _).alloc _ _, (((Ext.alloc _ _).trans (Ext.alloc _ _)).trans (Ext.alloc _ _)).trans (Ext.alloc _ _), ?_, fun h => absurd h (by decide)⟩
    go_simp
  case round =>
    obtain ⟨k, b, hk, rfl, rfl, hgr, hex, hch⟩ := hrel
    have HC : Hid (Grown w wr ∧ Ext w wr ∧ Chain wr 1 cl k b) := ⟨hgr, hex, hch⟩
    clear hgr hex hch
    by_cases hlt : k < g
    · go_wp2_with (first | (go_at_call 28; refine (newClass _).mono ?_; rintro e w' ⟨rfl, rfl⟩) | (go_at_call 29; refine (newNode _ _ _ _ _ _ _ _ _).mono ?_; rintro e w' ⟨rfl, rfl⟩))
      obtain ⟨hgr, hex, hch⟩ := HC.out
      go_roundw
      case rel => exact ⟨k + 1, _, by omega, by go_num, rfl, (hgr.alloc _ _).alloc _ _, (hex.trans (Ext.alloc _ _)).trans (Ext.alloc _ _), Chain.step hch _ _⟩
      case measure => simp [intOf]; omega
    · go_wp2
      go_ret
      obtain ⟨hgr, hex, hch⟩ := HC.out
      obtain rfl : k = g := by omega
      exact ⟨b, rfl, hgr, hex, hch⟩

set_option maxHeartbeats 1000000 in
theorem build2 (g : Nat)  (cl : Addr) (w : World) (hg : g ≤ 4096) :
    Calls Try.prog 30 #[.int .i64 g, .int .i64 2, .pointer (some cl)] w fun e w' => ∃ b, e = .returned (.pointer (some ⟨b, 0, none⟩)) ∧ Grown w w' ∧ Ext w w' ∧ Chain w' 2 cl g b := by
  go_enter Try.func30, Try.ntmps30
  go_wp2_with (first | (go_at_call 28; refine (newClass _).mono ?_; rintro e w' ⟨rfl, rfl⟩) | (go_at_call 29; refine (newNode _ _ _ _ _ _ _ _ _).mono ?_; rintro e w' ⟨rfl, rfl⟩))
  go_loopw [7, 9] (fun nd i wr => ∃ k b : Nat, k ≤ g ∧ i = .int .i64 k ∧ nd = .pointer (some ⟨b, 0, none⟩) ∧ Grown w wr ∧ Ext w wr ∧ Chain wr 2 cl k b) (fun _ i _ => g - (intOf i).toNat)
  case atStart =>
    refine ⟨0, _, Nat.zero_le _, rfl, rfl, ((((Grown.refl _).alloc _ _).alloc _ _).alloc _ _).alloc _ _, (((Ext.alloc _ _).trans (Ext.alloc _ _)).trans (Ext.alloc _ _)).trans (Ext.alloc _ _), ?_, fun h => absurd h (by decide)⟩
    go_simp
  case round =>
    obtain ⟨k, b, hk, rfl, rfl, hgr, hex, hch⟩ := hrel
    have HC : Hid (Grown w wr ∧ Ext w wr ∧ Chain wr 2 cl k b) := ⟨hgr, hex, hch⟩
    clear hgr hex hch
    by_cases hlt : k < g
    · go_wp2_with (first | (go_at_call 28; refine (newClass _).mono ?_; rintro e w' ⟨rfl, rfl⟩) | (go_at_call 29; refine (newNode _ _ _ _ _ _ _ _ _).mono ?_; rintro e w' ⟨rfl, rfl⟩))
      obtain ⟨hgr, hex, hch⟩ := HC.out
      go_roundw
      case rel => exact ⟨k + 1, _, by omega, by go_num, rfl, (hgr.alloc _ _).alloc _ _, (hex.trans (Ext.alloc _ _)).trans (Ext.alloc _ _), Chain.step hch _ _⟩
      case measure => simp [intOf]; omega
    · go_wp2
      go_ret
      obtain ⟨hgr, hex, hch⟩ := HC.out
      obtain rfl : k = g := by omega
      exact ⟨b, rfl, hgr, hex, hch⟩

set_option maxHeartbeats 1000000 in
theorem build4 (g : Nat)  (cl : Addr) (w : World) (hg : g ≤ 4096) :
    Calls Try.prog 30 #[.int .i64 g, .int .i64 4, .pointer (some cl)] w fun e w' => ∃ b, e = .returned (.pointer (some ⟨b, 0, none⟩)) ∧ Grown w w' ∧ Ext w w' ∧ Chain w' 4 cl g b := by
  go_enter Try.func30, Try.ntmps30
  go_wp2_with (first | (go_at_call 28; refine (newClass _).mono ?_; rintro e w' ⟨rfl, rfl⟩) | (go_at_call 29; refine (newNode _ _ _ _ _ _ _ _ _).mono ?_; rintro e w' ⟨rfl, rfl⟩))
  go_loopw [7, 9] (fun nd i wr => ∃ k b : Nat, k ≤ g ∧ i = .int .i64 k ∧ nd = .pointer (some ⟨b, 0, none⟩) ∧ Grown w wr ∧ Ext w wr ∧ Chain wr 4 cl k b) (fun _ i _ => g - (intOf i).toNat)
  case atStart =>
    refine ⟨0, _, Nat.zero_le _, rfl, rfl, ((((Grown.refl _).alloc _ _).alloc _ _).alloc _ _).alloc _ _, (((Ext.alloc _ _).trans (Ext.alloc _ _)).trans (Ext.alloc _ _)).trans (Ext.alloc _ _), ?_, fun h => absurd h (by decide)⟩
    go_simp
  case round =>
    obtain ⟨k, b, hk, rfl, rfl, hgr, hex, hch⟩ := hrel
    have HC : Hid (Grown w wr ∧ Ext w wr ∧ Chain wr 4 cl k b) := ⟨hgr, hex, hch⟩
    clear hgr hex hch
    by_cases hlt : k < g
    · go_wp2_with (first | (go_at_call 28; refine (newClass _).mono ?_; rintro e w' ⟨rfl, rfl⟩) | (go_at_call 29; refine (newNode _ _ _ _ _ _ _ _ _).mono ?_; rintro e w' ⟨rfl, rfl⟩))
      obtain ⟨hgr, hex, hch⟩ := HC.out
      go_roundw
      case rel => exact ⟨k + 1, _, by omega, by go_num, rfl, (hgr.alloc _ _).alloc _ _, (hex.trans (Ext.alloc _ _)).trans (Ext.alloc _ _), Chain.step hch _ _⟩
      case measure => simp [intOf]; omega
    · go_wp2
      go_ret
      obtain ⟨hgr, hex, hch⟩ := HC.out
      obtain rfl : k = g := by omega
      exact ⟨b, rfl, hgr, hex, hch⟩

set_option maxHeartbeats 1000000 in
theorem buildX (g : Nat) (op : Int) (h0 : ¬ op = 0) (h1 : ¬ op = 1) (h2 : ¬ op = 2) (h4 : ¬ op = 4) (cl : Addr) (w : World) (hg : g ≤ 4096) :
    Calls Try.prog 30 #[.int .i64 g, .int .i64 op, .pointer (some cl)] w fun e w' => ∃ b, e = .returned (.pointer (some ⟨b, 0, none⟩)) ∧ Grown w w' ∧ Ext w w' ∧ Chain w' op cl g b := by
  have b0 : (op == 0) = false := by simpa using h0
  have b1 : (op == 1) = false := by simpa using h1
  have b2 : (op == 2) = false := by simpa using h2
  have b4 : (op == 4) = false := by simpa using h4
  go_enter Try.func30, Try.ntmps30
  go_wp2_with (first | (go_at_call 28; refine (newClass _).mono ?_; rintro e w' ⟨rfl, rfl⟩) | (go_at_call 29; refine (newNode _ _ _ _ _ _ _ _ _).mono ?_; rintro e w' ⟨rfl, rfl⟩))
  go_loopw [7, 9] (fun nd i wr => ∃ k b : Nat, k ≤ g ∧ i = .int .i64 k ∧ nd = .pointer (some ⟨b, 0, none⟩) ∧ Grown w wr ∧ Ext w wr ∧ Chain wr op cl k b) (fun _ i _ => g - (intOf i).toNat)
  case atStart =>
    refine ⟨0, _, Nat.zero_le _, rfl, rfl, (Grown.refl _).alloc _ _, Ext.alloc _ _, ?_, fun h => absurd h h0⟩
    go_simp
  case round =>
    obtain ⟨k, b, hk, rfl, rfl, hgr, hex, hch⟩ := hrel
    have HC : Hid (Grown w wr ∧ Ext w wr ∧ Chain wr op cl k b) := ⟨hgr, hex, hch⟩
    clear hgr hex hch
    by_cases hlt : k < g
    · go_wp2_with (first | (go_at_call 28; refine (newClass _).mono ?_; rintro e w' ⟨rfl, rfl⟩) | (go_at_call 29; refine (newNode _ _ _ _ _ _ _ _ _).mono ?_; rintro e w' ⟨rfl, rfl⟩))
      obtain ⟨hgr, hex, hch⟩ := HC.out
      go_roundw
      case rel => exact ⟨k + 1, _, by omega, by go_num, rfl, (hgr.alloc _ _).alloc _ _, (hex.trans (Ext.alloc _ _)).trans (Ext.alloc _ _), Chain.step hch _ _⟩
      case measure => simp [intOf]; omega
    · go_wp2
      go_ret
      obtain ⟨hgr, hex, hch⟩ := HC.out
      obtain rfl : k = g := by omega
      exact ⟨b, rfl, hgr, hex, hch⟩

theorem build (g : Nat) (op : Int) (cl : Addr) (w : World) (hg : g ≤ 4096) :
    Calls Try.prog 30 #[.int .i64 g, .int .i64 op, .pointer (some cl)] w fun e w' => ∃ b, e = .returned (.pointer (some ⟨b, 0, none⟩)) ∧ Grown w w' ∧ Ext w w' ∧ Chain w' op cl g b := by
  by_cases h0 : op = 0
  · rw [h0]; exact build0 g cl w hg
  · by_cases h1 : op = 1
    · rw [h1]; exact build1 g cl w hg
    · by_cases h2 : op = 2
      · rw [h2]; exact build2 g cl w hg
      · by_cases h4 : op = 4
        · rw [h4]; exact build4 g cl w hg
        · exact buildX g op h0 h1 h2 h4 cl w hg
end Go.Proofs.Qxb6618487a
