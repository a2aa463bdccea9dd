/-
  The walk of the law 'FnCountedClassSeesThroughGroups'.
-/
import Derived.Test.Qxb6618487aCE
namespace Go.Proofs.Qxb6618487a
open Go.RowKit

theorem buildZ (op : Int) (cl : Addr) (w : World) :
    Calls Try.prog 30 #[.int .i64 0, .int .i64 op, .pointer (some cl)] w fun e w' => ∃ b, e = .returned (.pointer (some ⟨b, 0, none⟩)) ∧ Grown w w' ∧ Ext w w' ∧ Chain w' op cl 0 b :=
  build 0 op cl w (Nat.zero_le _)

/-- A node at block p, its op and bounds, its one part a chain. -/
def NodeAt (w : World) (p : Nat) (op mn mx leaf : Int) (cl : Addr) : Prop :=
  ∃ s b' n, w.cell? ⟨p, 0, none⟩ = some (.int .i64 op) ∧ w.cell? ⟨p, 2, none⟩ = some (.slice (some ⟨s, 0, none⟩) 1 1) ∧ w.cell? ⟨p, 3, none⟩ = some (.int .i64 mn) ∧ w.cell? ⟨p, 4, none⟩ = some (.int .i64 mx) ∧
    w.cell? ⟨s, 0, none⟩ = some (.pointer (some ⟨b', 0, none⟩)) ∧ Chain w leaf cl n b'

theorem NodeAt.ext {w w' : World} (h : Ext w w') {p : Nat} {op mn mx leaf : Int} {cl : Addr} : NodeAt w p op mn mx leaf cl → NodeAt w' p op mn mx leaf cl
  | ⟨s, b', n, c0, c2, c3, c4, cs, c⟩ => ⟨s, b', n, h _ _ c0, h _ _ c2, h _ _ c3, h _ _ c4, h _ _ cs, c.ext h⟩

theorem node_over {w1 : World} {b n : Nat} {op mn mx leaf : Int} {cl : Addr} (hc : Chain w1 leaf cl n b) : NodeAt (over w1 b op mn mx) (w1.heap.size + 1) op mn mx leaf cl :=
  ⟨w1.heap.size, b, n, by go_simp, by go_simp, by go_simp, by go_simp, by go_simp, hc.ext ((Ext.alloc _ _).trans (Ext.alloc _ _))⟩

theorem ext_over (w1 : World) (b : Nat) (op mn mx : Int) : Ext w1 (over w1 b op mn mx) := (Ext.alloc _ _).trans (Ext.alloc _ _)

theorem grown_over (w1 : World) (b : Nat) (op mn mx : Int) : Grown w1 (over w1 b op mn mx) := ((Grown.refl _).alloc _ _).alloc _ _

theorem zz_at {w : World} {p : Nat} {op mn mx leaf : Int} {cl : Addr} (hl : ¬ leaf = 3) (h : NodeAt w p op mn mx leaf cl) {A : Option Addr} (ha : answer op mn mx leaf cl = A) :
    Calls Try.prog 31 #[.pointer (some ⟨p, 0, none⟩)] w fun e w' => e = .returned (.pointer A) ∧ w' = w := by
  obtain ⟨s, b', n, c0, c2, c3, c4, cs, c⟩ := h
  rw [← ha]
  exact zz_any p s b' n op mn mx leaf cl w hl c0 c2 c3 c4 cs c

set_option maxHeartbeats 1000000 in
theorem sees_out (mn mx g leaf : Int) (w : World) (h : g < 0 ∨ 4096 < g ∨ leaf = 3) :
    Calls Try.prog 8 #[.int .i64 mn, .int .i64 mx, .int .i64 g, .int .i64 leaf] w fun e w' => e = .returned (.bool true) ∧ Grown w w' := by
  by_cases h0 : g < 0
  · clear h
    go_enter Try.func8, Try.ntmps8
    go_wp2
    go_ret
    exact ⟨rfl, Grown.refl _⟩
  · by_cases h1 : 4096 < g
    · clear h
      go_enter Try.func8, Try.ntmps8
      go_wp2
      go_ret
      exact ⟨rfl, Grown.refl _⟩
    · obtain rfl : leaf = 3 := by omega
      clear h
      go_enter Try.func8, Try.ntmps8
      go_wp2
      go_ret
      exact ⟨rfl, Grown.refl _⟩

set_option maxHeartbeats 1000000 in
theorem n1a (mn mx leaf : Int) (g : Nat) (w : World) (hg : g ≤ 4096) (hl : ¬ leaf = 3) (hz : ¬ leaf = 0) (hx : mx < 0) :
    Calls Try.prog 8 #[.int .i64 mn, .int .i64 mx, .int .i64 g, .int .i64 leaf] w fun e w' => e = .returned (.bool true) ∧ Grown w w' := by
  have HA : Hid (answer 4 mn mx leaf ⟨w.heap.size, 0, none⟩ = none) := by show answer _ _ _ _ _ = _; unfold answer ans; rw [if_neg hz, ite_self]
  have b3 : (leaf == 3) = false := by simpa using hl
  have b0 : (leaf == 0) = false := by simpa using hz
  have hx0 : ¬ 0 ≤ mx := by omega
  go_enter Try.func8, Try.ntmps8
  go_wp2_with fail
  refine (newClass _).mono ?_
  rintro e w' ⟨rfl, rfl⟩
  go_wp2_with fail
  refine (build _ _ _ _ hg).mono ?_
  rintro e w1 ⟨b, rfl, hgr, _, hch⟩
  have hgw := grown_trans ((Grown.refl w).alloc _ _) hgr
  clear hgr
  go_wp2_with fail
  refine (newNode _ _ _ _ _ _ _ _ _).mono ?_
  rintro e w' ⟨rfl, rfl⟩
  go_wp2_with fail
  refine (buildZ _ _ _).mono ?_
  rintro e w2 ⟨b2, rfl, hgr2, hex2, hch2⟩
  have hgw2 := grown_trans (grown_trans hgw (grown_over w1 b 4 mn mx)) hgr2
  have HN : Hid (NodeAt w2 (w1.heap.size + 1) 4 mn mx leaf ⟨w.heap.size, 0, none⟩) := (node_over hch).ext hex2
  clear hgr2 hgw hch hex2
  go_wp2_with fail
  refine (newNode _ _ _ _ _ _ _ _ _).mono ?_
  rintro e w' ⟨rfl, rfl⟩
  have HN1 : Hid (NodeAt (over w2 b2 4 mn mx) (w1.heap.size + 1) 4 mn mx leaf ⟨w.heap.size, 0, none⟩) := HN.out.ext (ext_over w2 b2 4 mn mx)
  have HN2 : Hid (NodeAt (over w2 b2 4 mn mx) (w2.heap.size + 1) 4 mn mx leaf ⟨w.heap.size, 0, none⟩) := node_over hch2
  have hgw3 := grown_trans hgw2 (grown_over w2 b2 4 mn mx)
  clear HN hch2 hgw2
  go_wp2_with fail
  refine (zz_at hl HN1.out HA.out).mono ?_
  rintro e w' ⟨rfl, rfl⟩
  go_wp2_with fail
  refine (zz_at hl HN2.out HA.out).mono ?_
  rintro e w' ⟨rfl, rfl⟩
  clear HN1 HN2
  go_wp2
  all_goals
    go_ret
    exact ⟨rfl, hgw3⟩

set_option maxHeartbeats 1000000 in
theorem n1b (mn mx leaf : Int) (g : Nat) (w : World) (hg : g ≤ 4096) (hl : ¬ leaf = 3) (hz : ¬ leaf = 0) (hx : ¬ mx < 9223372036854775807) :
    Calls Try.prog 8 #[.int .i64 mn, .int .i64 mx, .int .i64 g, .int .i64 leaf] w fun e w' => e = .returned (.bool true) ∧ Grown w w' := by
  have HA : Hid (answer 4 mn mx leaf ⟨w.heap.size, 0, none⟩ = none) := by show answer _ _ _ _ _ = _; unfold answer ans; rw [if_neg hz, ite_self]
  have b3 : (leaf == 3) = false := by simpa using hl
  have b0 : (leaf == 0) = false := by simpa using hz
  have hx0 : 0 ≤ mx := by omega
  go_enter Try.func8, Try.ntmps8
  go_wp2_with fail
  refine (newClass _).mono ?_
  rintro e w' ⟨rfl, rfl⟩
  go_wp2_with fail
  refine (build _ _ _ _ hg).mono ?_
  rintro e w1 ⟨b, rfl, hgr, _, hch⟩
  have hgw := grown_trans ((Grown.refl w).alloc _ _) hgr
  clear hgr
  go_wp2_with fail
  refine (newNode _ _ _ _ _ _ _ _ _).mono ?_
  rintro e w' ⟨rfl, rfl⟩
  go_wp2_with fail
  refine (buildZ _ _ _).mono ?_
  rintro e w2 ⟨b2, rfl, hgr2, hex2, hch2⟩
  have hgw2 := grown_trans (grown_trans hgw (grown_over w1 b 4 mn mx)) hgr2
  have HN : Hid (NodeAt w2 (w1.heap.size + 1) 4 mn mx leaf ⟨w.heap.size, 0, none⟩) := (node_over hch).ext hex2
  clear hgr2 hgw hch hex2
  go_wp2_with fail
  refine (newNode _ _ _ _ _ _ _ _ _).mono ?_
  rintro e w' ⟨rfl, rfl⟩
  have HN1 : Hid (NodeAt (over w2 b2 4 mn mx) (w1.heap.size + 1) 4 mn mx leaf ⟨w.heap.size, 0, none⟩) := HN.out.ext (ext_over w2 b2 4 mn mx)
  have HN2 : Hid (NodeAt (over w2 b2 4 mn mx) (w2.heap.size + 1) 4 mn mx leaf ⟨w.heap.size, 0, none⟩) := node_over hch2
  have hgw3 := grown_trans hgw2 (grown_over w2 b2 4 mn mx)
  clear HN hch2 hgw2
  go_wp2_with fail
  refine (zz_at hl HN1.out HA.out).mono ?_
  rintro e w' ⟨rfl, rfl⟩
  go_wp2_with fail
  refine (zz_at hl HN2.out HA.out).mono ?_
  rintro e w' ⟨rfl, rfl⟩
  clear HN1 HN2
  go_wp2
  all_goals
    go_ret
    exact ⟨rfl, hgw3⟩

set_option maxHeartbeats 1000000 in
theorem n1c (mn mx leaf : Int) (g : Nat) (w : World) (hg : g ≤ 4096) (hl : ¬ leaf = 3) (hz : ¬ leaf = 0) (hx : 0 ≤ mx) (hy : mx < 9223372036854775807) :
    Calls Try.prog 8 #[.int .i64 mn, .int .i64 mx, .int .i64 g, .int .i64 leaf] w fun e w' => e = .returned (.bool true) ∧ Grown w w' := by
  have HA : Hid (answer 4 mn mx leaf ⟨w.heap.size, 0, none⟩ = none) := by show answer _ _ _ _ _ = _; unfold answer ans; rw [if_neg hz, ite_self]
  have HR : Hid (answer 4 mn (mx + 1) leaf ⟨w.heap.size, 0, none⟩ = none) := by show answer _ _ _ _ _ = _; unfold answer ans; rw [if_neg hz, ite_self]
  have b3 : (leaf == 3) = false := by simpa using hl
  have b0 : (leaf == 0) = false := by simpa using hz
  go_enter Try.func8, Try.ntmps8
  go_wp2_with fail
  refine (newClass _).mono ?_
  rintro e w' ⟨rfl, rfl⟩
  go_wp2_with fail
  refine (build _ _ _ _ hg).mono ?_
  rintro e w1 ⟨b, rfl, hgr, _, hch⟩
  have hgw := grown_trans ((Grown.refl w).alloc _ _) hgr
  clear hgr
  go_wp2_with fail
  refine (newNode _ _ _ _ _ _ _ _ _).mono ?_
  rintro e w' ⟨rfl, rfl⟩
  go_wp2_with fail
  refine (buildZ _ _ _).mono ?_
  rintro e w2 ⟨b2, rfl, hgr2, hex2, hch2⟩
  have hgw2 := grown_trans (grown_trans hgw (grown_over w1 b 4 mn mx)) hgr2
  have HN : Hid (NodeAt w2 (w1.heap.size + 1) 4 mn mx leaf ⟨w.heap.size, 0, none⟩) := (node_over hch).ext hex2
  clear hgr2 hgw hch hex2
  go_wp2_with fail
  refine (newNode _ _ _ _ _ _ _ _ _).mono ?_
  rintro e w' ⟨rfl, rfl⟩
  have HN1 : Hid (NodeAt (over w2 b2 4 mn mx) (w1.heap.size + 1) 4 mn mx leaf ⟨w.heap.size, 0, none⟩) := HN.out.ext (ext_over w2 b2 4 mn mx)
  have HN2 : Hid (NodeAt (over w2 b2 4 mn mx) (w2.heap.size + 1) 4 mn mx leaf ⟨w.heap.size, 0, none⟩) := node_over hch2
  have hgw3 := grown_trans hgw2 (grown_over w2 b2 4 mn mx)
  clear HN hch2 hgw2
  go_wp2_with fail
  refine (zz_at hl HN1.out HA.out).mono ?_
  rintro e w' ⟨rfl, rfl⟩
  go_wp2_with fail
  refine (zz_at hl HN2.out HA.out).mono ?_
  rintro e w' ⟨rfl, rfl⟩
  clear HN1 HN2
  go_wp2_with fail
  refine (build _ _ _ _ hg).mono ?_
  rintro e w4 ⟨b4, rfl, hgr4, _, hch4⟩
  have hgw4 := grown_trans hgw3 hgr4
  clear hgr4 hgw3
  go_wp2_with fail
  refine (newNode _ _ _ _ _ _ _ _ _).mono ?_
  rintro e w' ⟨rfl, rfl⟩
  have HN4 : Hid (NodeAt (over w4 b4 4 mn (mx + 1)) (w4.heap.size + 1) 4 mn (mx + 1) leaf ⟨w.heap.size, 0, none⟩) := node_over hch4
  clear hch4
  go_wp2_with fail
  refine (zz_at hl HN4.out HR.out).mono ?_
  rintro e w' ⟨rfl, rfl⟩
  clear HN4
  go_wp2
  all_goals
    go_ret
    exact ⟨rfl, grown_trans hgw4 (grown_over w4 b4 4 mn (mx + 1))⟩

set_option maxHeartbeats 1000000 in
theorem n2a (mn mx : Int) (g : Nat) (w : World) (hg : g ≤ 4096) (hx : mx < 0) (hm : mn < 2) :
    Calls Try.prog 8 #[.int .i64 mn, .int .i64 mx, .int .i64 g, .int .i64 0] w fun e w' => e = .returned (.bool true) ∧ Grown w w' := by
  have HA : Hid (answer 4 mn mx 0 ⟨w.heap.size, 0, none⟩ = none) := by show answer _ _ _ _ _ = _; unfold answer ans; rw [if_neg (by omega)]
  have hx0 : ¬ 0 ≤ mx := by omega
  have hx2 : ¬ 2 ≤ mx := by omega
  go_enter Try.func8, Try.ntmps8
  go_wp2_with fail
  refine (newClass _).mono ?_
  rintro e w' ⟨rfl, rfl⟩
  go_wp2_with fail
  refine (build _ _ _ _ hg).mono ?_
  rintro e w1 ⟨b, rfl, hgr, _, hch⟩
  have hgw := grown_trans ((Grown.refl w).alloc _ _) hgr
  clear hgr
  go_wp2_with fail
  refine (newNode _ _ _ _ _ _ _ _ _).mono ?_
  rintro e w' ⟨rfl, rfl⟩
  go_wp2_with fail
  refine (buildZ _ _ _).mono ?_
  rintro e w2 ⟨b2, rfl, hgr2, hex2, hch2⟩
  have hgw2 := grown_trans (grown_trans hgw (grown_over w1 b 4 mn mx)) hgr2
  have HN : Hid (NodeAt w2 (w1.heap.size + 1) 4 mn mx 0 ⟨w.heap.size, 0, none⟩) := (node_over hch).ext hex2
  clear hgr2 hgw hch hex2
  go_wp2_with fail
  refine (newNode _ _ _ _ _ _ _ _ _).mono ?_
  rintro e w' ⟨rfl, rfl⟩
  have HN1 : Hid (NodeAt (over w2 b2 4 mn mx) (w1.heap.size + 1) 4 mn mx 0 ⟨w.heap.size, 0, none⟩) := HN.out.ext (ext_over w2 b2 4 mn mx)
  have HN2 : Hid (NodeAt (over w2 b2 4 mn mx) (w2.heap.size + 1) 4 mn mx 0 ⟨w.heap.size, 0, none⟩) := node_over hch2
  have hgw3 := grown_trans hgw2 (grown_over w2 b2 4 mn mx)
  clear HN hch2 hgw2
  go_wp2_with fail
  refine (zz_at (by decide) HN1.out HA.out).mono ?_
  rintro e w' ⟨rfl, rfl⟩
  go_wp2_with fail
  refine (zz_at (by decide) HN2.out HA.out).mono ?_
  rintro e w' ⟨rfl, rfl⟩
  clear HN1 HN2
  go_wp2
  all_goals
    go_ret
    exact ⟨rfl, hgw3⟩

set_option maxHeartbeats 1000000 in
theorem n2b (mn mx : Int) (g : Nat) (w : World) (hg : g ≤ 4096) (hx : 0 ≤ mx) (hm : mx < 2) :
    Calls Try.prog 8 #[.int .i64 mn, .int .i64 mx, .int .i64 g, .int .i64 0] w fun e w' => e = .returned (.bool true) ∧ Grown w w' := by
  have HA : Hid (answer 4 mn mx 0 ⟨w.heap.size, 0, none⟩ = none) := by show answer _ _ _ _ _ = _; unfold answer ans; rw [if_neg (by omega)]
  have hx2 : ¬ 2 ≤ mx := by omega
  have hy : mx < 9223372036854775807 := by omega
  go_enter Try.func8, Try.ntmps8
  go_wp2_with fail
  refine (newClass _).mono ?_
  rintro e w' ⟨rfl, rfl⟩
  go_wp2_with fail
  refine (build _ _ _ _ hg).mono ?_
  rintro e w1 ⟨b, rfl, hgr, _, hch⟩
  have hgw := grown_trans ((Grown.refl w).alloc _ _) hgr
  clear hgr
  go_wp2_with fail
  refine (newNode _ _ _ _ _ _ _ _ _).mono ?_
  rintro e w' ⟨rfl, rfl⟩
  go_wp2_with fail
  refine (buildZ _ _ _).mono ?_
  rintro e w2 ⟨b2, rfl, hgr2, hex2, hch2⟩
  have hgw2 := grown_trans (grown_trans hgw (grown_over w1 b 4 mn mx)) hgr2
  have HN : Hid (NodeAt w2 (w1.heap.size + 1) 4 mn mx 0 ⟨w.heap.size, 0, none⟩) := (node_over hch).ext hex2
  clear hgr2 hgw hch hex2
  go_wp2_with fail
  refine (newNode _ _ _ _ _ _ _ _ _).mono ?_
  rintro e w' ⟨rfl, rfl⟩
  have HN1 : Hid (NodeAt (over w2 b2 4 mn mx) (w1.heap.size + 1) 4 mn mx 0 ⟨w.heap.size, 0, none⟩) := HN.out.ext (ext_over w2 b2 4 mn mx)
  have HN2 : Hid (NodeAt (over w2 b2 4 mn mx) (w2.heap.size + 1) 4 mn mx 0 ⟨w.heap.size, 0, none⟩) := node_over hch2
  have hgw3 := grown_trans hgw2 (grown_over w2 b2 4 mn mx)
  clear HN hch2 hgw2
  go_wp2_with fail
  refine (zz_at (by decide) HN1.out HA.out).mono ?_
  rintro e w' ⟨rfl, rfl⟩
  go_wp2_with fail
  refine (zz_at (by decide) HN2.out HA.out).mono ?_
  rintro e w' ⟨rfl, rfl⟩
  clear HN1 HN2
  go_wp2_with fail
  refine (build _ _ _ _ hg).mono ?_
  rintro e w4 ⟨b4, rfl, hgr4, _, hch4⟩
  have hgw4 := grown_trans hgw3 hgr4
  clear hgr4 hgw3
  go_wp2_with fail
  refine (newNode _ _ _ _ _ _ _ _ _).mono ?_
  rintro e w' ⟨rfl, rfl⟩
  have HN4 : Hid (NodeAt (over w4 b4 4 mn (mx + 1)) (w4.heap.size + 1) 4 mn (mx + 1) 0 ⟨w.heap.size, 0, none⟩) := node_over hch4
  clear hch4
  go_wp2_with fail
  refine (zz_at (by decide) HN4.out rfl).mono ?_
  rintro e w' ⟨rfl, rfl⟩
  clear HN4
  go_wp2
  all_goals
    go_ret
    exact ⟨rfl, grown_trans hgw4 (grown_over w4 b4 4 mn (mx + 1))⟩

set_option maxHeartbeats 1000000 in
theorem s1a (mn mx : Int) (g : Nat) (w : World) (hg : g ≤ 4096) (hx : ¬ mx < 9223372036854775807) :
    Calls Try.prog 8 #[.int .i64 mn, .int .i64 mx, .int .i64 g, .int .i64 0] w fun e w' => e = .returned (.bool true) ∧ Grown w w' := by
  have HA : Hid (answer 4 mn mx 0 ⟨w.heap.size, 0, none⟩ = (some ⟨w.heap.size, 0, none⟩)) := by show answer _ _ _ _ _ = _; unfold answer ans; rw [if_pos (by omega), if_pos rfl]
  have hsame := eqlSame
  have hx0 : 0 ≤ mx := by omega
  have hx2 : 2 ≤ mx := by omega
  go_enter Try.func8, Try.ntmps8
  go_wp2_with fail
  refine (newClass _).mono ?_
  rintro e w' ⟨rfl, rfl⟩
  go_wp2_with fail
  refine (build _ _ _ _ hg).mono ?_
  rintro e w1 ⟨b, rfl, hgr, _, hch⟩
  have hgw := grown_trans ((Grown.refl w).alloc _ _) hgr
  clear hgr
  go_wp2_with fail
  refine (newNode _ _ _ _ _ _ _ _ _).mono ?_
  rintro e w' ⟨rfl, rfl⟩
  go_wp2_with fail
  refine (buildZ _ _ _).mono ?_
  rintro e w2 ⟨b2, rfl, hgr2, hex2, hch2⟩
  have hgw2 := grown_trans (grown_trans hgw (grown_over w1 b 4 mn mx)) hgr2
  have HN : Hid (NodeAt w2 (w1.heap.size + 1) 4 mn mx 0 ⟨w.heap.size, 0, none⟩) := (node_over hch).ext hex2
  clear hgr2 hgw hch hex2
  go_wp2_with fail
  refine (newNode _ _ _ _ _ _ _ _ _).mono ?_
  rintro e w' ⟨rfl, rfl⟩
  have HN1 : Hid (NodeAt (over w2 b2 4 mn mx) (w1.heap.size + 1) 4 mn mx 0 ⟨w.heap.size, 0, none⟩) := HN.out.ext (ext_over w2 b2 4 mn mx)
  have HN2 : Hid (NodeAt (over w2 b2 4 mn mx) (w2.heap.size + 1) 4 mn mx 0 ⟨w.heap.size, 0, none⟩) := node_over hch2
  have hgw3 := grown_trans hgw2 (grown_over w2 b2 4 mn mx)
  clear HN hch2 hgw2
  go_wp2_with fail
  refine (zz_at (by decide) HN1.out HA.out).mono ?_
  rintro e w' ⟨rfl, rfl⟩
  go_wp2_with fail
  refine (zz_at (by decide) HN2.out HA.out).mono ?_
  rintro e w' ⟨rfl, rfl⟩
  clear HN1 HN2
  go_wp2
  all_goals
    go_ret
    exact ⟨rfl, hgw3⟩

set_option maxHeartbeats 1000000 in
theorem s1b (mn mx : Int) (g : Nat) (w : World) (hg : g ≤ 4096) (hx : 2 ≤ mx) (hy : mx < 9223372036854775807) :
    Calls Try.prog 8 #[.int .i64 mn, .int .i64 mx, .int .i64 g, .int .i64 0] w fun e w' => e = .returned (.bool true) ∧ Grown w w' := by
  have HA : Hid (answer 4 mn mx 0 ⟨w.heap.size, 0, none⟩ = (some ⟨w.heap.size, 0, none⟩)) := by show answer _ _ _ _ _ = _; unfold answer ans; rw [if_pos (by omega), if_pos rfl]
  have HR : Hid (answer 4 mn (mx + 1) 0 ⟨w.heap.size, 0, none⟩ = (some ⟨w.heap.size, 0, none⟩)) := by show answer _ _ _ _ _ = _; unfold answer ans; rw [if_pos (by omega), if_pos rfl]
  have hsame := eqlSame
  have hx0 : 0 ≤ mx := by omega
  go_enter Try.func8, Try.ntmps8
  go_wp2_with fail
  refine (newClass _).mono ?_
  rintro e w' ⟨rfl, rfl⟩
  go_wp2_with fail
  refine (build _ _ _ _ hg).mono ?_
  rintro e w1 ⟨b, rfl, hgr, _, hch⟩
  have hgw := grown_trans ((Grown.refl w).alloc _ _) hgr
  clear hgr
  go_wp2_with fail
  refine (newNode _ _ _ _ _ _ _ _ _).mono ?_
  rintro e w' ⟨rfl, rfl⟩
  go_wp2_with fail
  refine (buildZ _ _ _).mono ?_
  rintro e w2 ⟨b2, rfl, hgr2, hex2, hch2⟩
  have hgw2 := grown_trans (grown_trans hgw (grown_over w1 b 4 mn mx)) hgr2
  have HN : Hid (NodeAt w2 (w1.heap.size + 1) 4 mn mx 0 ⟨w.heap.size, 0, none⟩) := (node_over hch).ext hex2
  clear hgr2 hgw hch hex2
  go_wp2_with fail
  refine (newNode _ _ _ _ _ _ _ _ _).mono ?_
  rintro e w' ⟨rfl, rfl⟩
  have HN1 : Hid (NodeAt (over w2 b2 4 mn mx) (w1.heap.size + 1) 4 mn mx 0 ⟨w.heap.size, 0, none⟩) := HN.out.ext (ext_over w2 b2 4 mn mx)
  have HN2 : Hid (NodeAt (over w2 b2 4 mn mx) (w2.heap.size + 1) 4 mn mx 0 ⟨w.heap.size, 0, none⟩) := node_over hch2
  have hgw3 := grown_trans hgw2 (grown_over w2 b2 4 mn mx)
  clear HN hch2 hgw2
  go_wp2_with fail
  refine (zz_at (by decide) HN1.out HA.out).mono ?_
  rintro e w' ⟨rfl, rfl⟩
  go_wp2_with fail
  refine (zz_at (by decide) HN2.out HA.out).mono ?_
  rintro e w' ⟨rfl, rfl⟩
  clear HN1 HN2
  go_wp2_with fail
  refine (build _ _ _ _ hg).mono ?_
  rintro e w4 ⟨b4, rfl, hgr4, _, hch4⟩
  have hgw4 := grown_trans hgw3 hgr4
  clear hgr4 hgw3
  go_wp2_with fail
  refine (newNode _ _ _ _ _ _ _ _ _).mono ?_
  rintro e w' ⟨rfl, rfl⟩
  have HN4 : Hid (NodeAt (over w4 b4 4 mn (mx + 1)) (w4.heap.size + 1) 4 mn (mx + 1) 0 ⟨w.heap.size, 0, none⟩) := node_over hch4
  clear hch4
  go_wp2_with fail
  refine (zz_at (by decide) HN4.out HR.out).mono ?_
  rintro e w' ⟨rfl, rfl⟩
  clear HN4
  go_wp2
  all_goals
    go_ret
    exact ⟨rfl, grown_trans hgw4 (grown_over w4 b4 4 mn (mx + 1))⟩

set_option maxHeartbeats 1000000 in
theorem s2 (mn mx : Int) (g : Nat) (w : World) (hg : g ≤ 4096) (hx : mx < 0) (hm : 2 ≤ mn) :
    Calls Try.prog 8 #[.int .i64 mn, .int .i64 mx, .int .i64 g, .int .i64 0] w fun e w' => e = .returned (.bool true) ∧ Grown w w' := by
  have HA : Hid (answer 4 mn mx 0 ⟨w.heap.size, 0, none⟩ = (some ⟨w.heap.size, 0, none⟩)) := by show answer _ _ _ _ _ = _; unfold answer ans; rw [if_pos (by omega), if_pos rfl]
  have hsame := eqlSame
  have hx0 : ¬ 0 ≤ mx := by omega
  have hx2 : ¬ 2 ≤ mx := by omega
  go_enter Try.func8, Try.ntmps8
  go_wp2_with fail
  refine (newClass _).mono ?_
  rintro e w' ⟨rfl, rfl⟩
  go_wp2_with fail
  refine (build _ _ _ _ hg).mono ?_
  rintro e w1 ⟨b, rfl, hgr, _, hch⟩
  have hgw := grown_trans ((Grown.refl w).alloc _ _) hgr
  clear hgr
  go_wp2_with fail
  refine (newNode _ _ _ _ _ _ _ _ _).mono ?_
  rintro e w' ⟨rfl, rfl⟩
  go_wp2_with fail
  refine (buildZ _ _ _).mono ?_
  rintro e w2 ⟨b2, rfl, hgr2, hex2, hch2⟩
  have hgw2 := grown_trans (grown_trans hgw (grown_over w1 b 4 mn mx)) hgr2
  have HN : Hid (NodeAt w2 (w1.heap.size + 1) 4 mn mx 0 ⟨w.heap.size, 0, none⟩) := (node_over hch).ext hex2
  clear hgr2 hgw hch hex2
  go_wp2_with fail
  refine (newNode _ _ _ _ _ _ _ _ _).mono ?_
  rintro e w' ⟨rfl, rfl⟩
  have HN1 : Hid (NodeAt (over w2 b2 4 mn mx) (w1.heap.size + 1) 4 mn mx 0 ⟨w.heap.size, 0, none⟩) := HN.out.ext (ext_over w2 b2 4 mn mx)
  have HN2 : Hid (NodeAt (over w2 b2 4 mn mx) (w2.heap.size + 1) 4 mn mx 0 ⟨w.heap.size, 0, none⟩) := node_over hch2
  have hgw3 := grown_trans hgw2 (grown_over w2 b2 4 mn mx)
  clear HN hch2 hgw2
  go_wp2_with fail
  refine (zz_at (by decide) HN1.out HA.out).mono ?_
  rintro e w' ⟨rfl, rfl⟩
  go_wp2_with fail
  refine (zz_at (by decide) HN2.out HA.out).mono ?_
  rintro e w' ⟨rfl, rfl⟩
  clear HN1 HN2
  go_wp2
  all_goals
    go_ret
    exact ⟨rfl, hgw3⟩

theorem sees_all (mn mx g leaf : Int) (w : World) :
    Calls Try.prog 8 #[.int .i64 mn, .int .i64 mx, .int .i64 g, .int .i64 leaf] w fun e w' => e = .returned (.bool true) ∧ Grown w w' := by
  by_cases ho : g < 0 ∨ 4096 < g ∨ leaf = 3
  · exact sees_out mn mx g leaf w ho
  · obtain ⟨n, rfl⟩ : ∃ n : Nat, g = n := ⟨g.toNat, by omega⟩
    have hl : ¬ leaf = 3 := fun e => ho (Or.inr (Or.inr e))
    have hn : n ≤ 4096 := by omega
    by_cases hz : leaf = 0
    · subst hz
      by_cases hx : mx < 0
      · by_cases hm : mn < 2
        · exact n2a mn mx n w hn hx hm
        · exact s2 mn mx n w hn hx (by omega)
      · by_cases h2 : mx < 2
        · exact n2b mn mx n w hn (by omega) h2
        · by_cases hy : mx < 9223372036854775807
          · exact s1b mn mx n w hn (by omega) hy
          · exact s1a mn mx n w hn hy
    · by_cases hx : mx < 0
      · exact n1a mn mx leaf n w hn hl hz hx
      · by_cases hy : mx < 9223372036854775807
        · exact n1c mn mx leaf n w hn hl hz (by omega) hy
        · exact n1b mn mx leaf n w hn hl hz hy
end Go.Proofs.Qxb6618487a
