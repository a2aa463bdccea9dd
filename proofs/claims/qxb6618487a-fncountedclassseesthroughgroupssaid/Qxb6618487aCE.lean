/-
  The walk of the law 'FnCountedClassExact'.
-/
import Derived.Test.Qxb6618487aCD
import Derived.LaidEqlPtr
namespace Go.Proofs.Qxb6618487a
open Go.RowKit

set_option maxHeartbeats 1000000 in
theorem exact_out (op mn mx g leaf : Int) (w : World) (h : g < 0 ∨ 4096 < g ∨ leaf = 3) :
    Calls Try.prog 7 #[.int .i64 op, .int .i64 mn, .int .i64 mx, .int .i64 g, .int .i64 leaf] w fun e w' => e = .returned (.bool true) ∧ Grown w w' := by
  by_cases h0 : g < 0
  · clear h
    go_enter Try.func7, Try.ntmps7
    go_wp2
    go_ret
    exact ⟨rfl, Grown.refl _⟩
  · by_cases h1 : 4096 < g
    · clear h
      go_enter Try.func7, Try.ntmps7
      go_wp2
      go_ret
      exact ⟨rfl, Grown.refl _⟩
    · obtain rfl : leaf = 3 := by omega
      clear h
      go_enter Try.func7, Try.ntmps7
      go_wp2
      go_ret
      exact ⟨rfl, Grown.refl _⟩

theorem grown_trans {a b c : World} (h : Grown a b) (k : Grown b c) : Grown a c :=
  ⟨World.keptBut_trans h.1 k.1, fun x => (k.2.1 x).trans (h.2.1 x), Nat.le_trans h.2.2 k.2.2⟩

/-- The world behind a node made over the chain at block b. -/
abbrev over (w1 : World) (b : Nat) (op mn mx : Int) : World :=
  (w1.alloc (.cells #[.pointer (some ⟨b, 0, none⟩)] 48)).alloc (.cells #[.int .i64 op, .pointer none, .slice (some ⟨w1.heap.size, 0, none⟩) 1 1, .int .i64 mn, .int .i64 mx, .int .i64 0] 72)

theorem zz_over (w1 : World) (b n : Nat) (op mn mx leaf : Int) (cl : Addr) (hl : ¬ leaf = 3) (hc : Chain w1 leaf cl n b) :
    Calls Try.prog 31 #[.pointer (some ⟨w1.heap.size + 1, 0, none⟩)] (over w1 b op mn mx) fun e w' => e = .returned (.pointer (answer op mn mx leaf cl)) ∧ w' = over w1 b op mn mx :=
  zz_any (w1.heap.size + 1) w1.heap.size b n op mn mx leaf cl (over w1 b op mn mx) hl (by go_simp) (by go_simp) (by go_simp) (by go_simp) (by go_simp)
    (hc.ext ((Ext.alloc _ _).trans (Ext.alloc _ _)))

theorem eqlSame (w : World) (a : Addr) : (binOp .eql 46 (.pointer (some a)) (.pointer (some a))).run Try.prog w = .ok (.bool true) w := by
  obtain ⟨j, hj⟩ : ∃ j, Try.prog.info? 69 = some j := Option.isSome_iff_exists.mp (by kernel_rfl)
  exact run_eql_ptr_same w a Try.underlying46 hj

set_option maxHeartbeats 1000000 in
theorem exact_a (op mn mx leaf : Int) (g : Nat) (w : World) (hg : g ≤ 4096) (hl : ¬ leaf = 3) (h : ¬ op = 4) :
    Calls Try.prog 7 #[.int .i64 op, .int .i64 mn, .int .i64 mx, .int .i64 g, .int .i64 leaf] w fun e w' => e = .returned (.bool true) ∧ Grown w w' := by
  have b3 : (leaf == 3) = false := by simpa using hl
  have b4 : (op == 4) = false := by simpa using h
  go_enter Try.func7, Try.ntmps7
  go_wp2_with fail
  refine (newClass _).mono ?_
  rintro e w' ⟨rfl, rfl⟩
  go_wp2_with fail
  refine (build _ _ _ _ hg).mono ?_
  rintro e w1 ⟨b, rfl, hgr, _, hch⟩
  have hgw := grown_trans ((Grown.refl w).alloc _ _) hgr
  clear hgr
  go_wp2_with fail
  refine (newNode _ _ _ _ _ _ _ _ _).mono ?_
  rintro e w' ⟨rfl, rfl⟩
  go_wp2_with fail
  refine (zz_over w1 b g op mn mx leaf ⟨w.heap.size, 0, none⟩ hl hch).mono ?_
  rintro e w' ⟨rfl, rfl⟩
  have ea : answer op mn mx leaf ⟨w.heap.size, 0, none⟩ = none := if_neg (fun q => h q.1)
  rw [ea]
  go_wp2
  all_goals
    go_ret
    exact ⟨rfl, (hgw.alloc _ _).alloc _ _⟩

set_option maxHeartbeats 1000000 in
theorem exact_b (mn mx leaf : Int) (g : Nat) (w : World) (hg : g ≤ 4096) (hl : ¬ leaf = 3) (h1 : mx < 2) (h2 : ¬ (mx < 0 ∧ 2 ≤ mn)) :
    Calls Try.prog 7 #[.int .i64 4, .int .i64 mn, .int .i64 mx, .int .i64 g, .int .i64 leaf] w fun e w' => e = .returned (.bool true) ∧ Grown w w' := by
  have b3 : (leaf == 3) = false := by simpa using hl
  go_enter Try.func7, Try.ntmps7
  go_wp2_with fail
  refine (newClass _).mono ?_
  rintro e w' ⟨rfl, rfl⟩
  go_wp2_with fail
  refine (build _ _ _ _ hg).mono ?_
  rintro e w1 ⟨b, rfl, hgr, _, hch⟩
  have hgw := grown_trans ((Grown.refl w).alloc _ _) hgr
  clear hgr
  go_wp2_with fail
  refine (newNode _ _ _ _ _ _ _ _ _).mono ?_
  rintro e w' ⟨rfl, rfl⟩
  go_wp2_with fail
  refine (zz_over w1 b g 4 mn mx leaf ⟨w.heap.size, 0, none⟩ hl hch).mono ?_
  rintro e w' ⟨rfl, rfl⟩
  have ea : answer 4 mn mx leaf ⟨w.heap.size, 0, none⟩ = none := if_neg (fun q => by omega)
  rw [ea]
  go_wp2
  all_goals
    go_ret
    exact ⟨rfl, (hgw.alloc _ _).alloc _ _⟩

set_option maxHeartbeats 1000000 in
theorem exact_c1 (mn mx : Int) (g : Nat) (w : World) (hg : g ≤ 4096) (h : 2 ≤ mx) :
    Calls Try.prog 7 #[.int .i64 4, .int .i64 mn, .int .i64 mx, .int .i64 g, .int .i64 0] w fun e w' => e = .returned (.bool true) ∧ Grown w w' := by
  have hsame := eqlSame
  go_enter Try.func7, Try.ntmps7
  go_wp2_with fail
  refine (newClass _).mono ?_
  rintro e w' ⟨rfl, rfl⟩
  go_wp2_with fail
  refine (build _ _ _ _ hg).mono ?_
  rintro e w1 ⟨b, rfl, hgr, _, hch⟩
  have hgw := grown_trans ((Grown.refl w).alloc _ _) hgr
  clear hgr
  go_wp2_with fail
  refine (newNode _ _ _ _ _ _ _ _ _).mono ?_
  rintro e w' ⟨rfl, rfl⟩
  go_wp2_with fail
  refine (zz_over w1 b g 4 mn mx 0 ⟨w.heap.size, 0, none⟩ (by decide) hch).mono ?_
  rintro e w' ⟨rfl, rfl⟩
  have ea : answer 4 mn mx 0 ⟨w.heap.size, 0, none⟩ = some ⟨w.heap.size, 0, none⟩ := if_pos ⟨rfl, Or.inl h⟩
  rw [ea]
  go_wp2
  all_goals
    go_ret
    exact ⟨rfl, (hgw.alloc _ _).alloc _ _⟩

set_option maxHeartbeats 1000000 in
theorem exact_c2 (mn mx : Int) (g : Nat) (w : World) (hg : g ≤ 4096) (h : mx < 0) (hm : 2 ≤ mn) :
    Calls Try.prog 7 #[.int .i64 4, .int .i64 mn, .int .i64 mx, .int .i64 g, .int .i64 0] w fun e w' => e = .returned (.bool true) ∧ Grown w w' := by
  have hm2 : ¬ 2 ≤ mx := by omega
  have hsame := eqlSame
  go_enter Try.func7, Try.ntmps7
  go_wp2_with fail
  refine (newClass _).mono ?_
  rintro e w' ⟨rfl, rfl⟩
  go_wp2_with fail
  refine (build _ _ _ _ hg).mono ?_
  rintro e w1 ⟨b, rfl, hgr, _, hch⟩
  have hgw := grown_trans ((Grown.refl w).alloc _ _) hgr
  clear hgr
  go_wp2_with fail
  refine (newNode _ _ _ _ _ _ _ _ _).mono ?_
  rintro e w' ⟨rfl, rfl⟩
  go_wp2_with fail
  refine (zz_over w1 b g 4 mn mx 0 ⟨w.heap.size, 0, none⟩ (by decide) hch).mono ?_
  rintro e w' ⟨rfl, rfl⟩
  have ea : answer 4 mn mx 0 ⟨w.heap.size, 0, none⟩ = some ⟨w.heap.size, 0, none⟩ := if_pos ⟨rfl, Or.inr ⟨h, hm⟩⟩
  rw [ea]
  go_wp2
  all_goals
    go_ret
    exact ⟨rfl, (hgw.alloc _ _).alloc _ _⟩

set_option maxHeartbeats 1000000 in
theorem exact_d (mn mx leaf : Int) (g : Nat) (w : World) (hg : g ≤ 4096) (hl : ¬ leaf = 3) (hz : ¬ leaf = 0) :
    Calls Try.prog 7 #[.int .i64 4, .int .i64 mn, .int .i64 mx, .int .i64 g, .int .i64 leaf] w fun e w' => e = .returned (.bool true) ∧ Grown w w' := by
  have b3 : (leaf == 3) = false := by simpa using hl
  have b0 : (leaf == 0) = false := by simpa using hz
  go_enter Try.func7, Try.ntmps7
  go_wp2_with fail
  refine (newClass _).mono ?_
  rintro e w' ⟨rfl, rfl⟩
  go_wp2_with fail
  refine (build _ _ _ _ hg).mono ?_
  rintro e w1 ⟨b, rfl, hgr, _, hch⟩
  have hgw := grown_trans ((Grown.refl w).alloc _ _) hgr
  clear hgr
  go_wp2_with fail
  refine (newNode _ _ _ _ _ _ _ _ _).mono ?_
  rintro e w' ⟨rfl, rfl⟩
  go_wp2_with fail
  refine (zz_over w1 b g 4 mn mx leaf ⟨w.heap.size, 0, none⟩ hl hch).mono ?_
  rintro e w' ⟨rfl, rfl⟩
  have ea : answer 4 mn mx leaf ⟨w.heap.size, 0, none⟩ = none := by unfold answer ans; simp [hz]
  rw [ea]
  go_wp2
  all_goals
    go_ret
    exact ⟨rfl, (hgw.alloc _ _).alloc _ _⟩

theorem exact_all (op mn mx g leaf : Int) (w : World) :
    Calls Try.prog 7 #[.int .i64 op, .int .i64 mn, .int .i64 mx, .int .i64 g, .int .i64 leaf] w fun e w' => e = .returned (.bool true) ∧ Grown w w' := by
  by_cases ho : g < 0 ∨ 4096 < g ∨ leaf = 3
  · exact exact_out op mn mx g leaf w ho
  · obtain ⟨n, rfl⟩ : ∃ n : Nat, g = n := ⟨g.toNat, by omega⟩
    have hl : ¬ leaf = 3 := fun e => ho (Or.inr (Or.inr e))
    have hn : n ≤ 4096 := by omega
    by_cases h4 : op = 4
    · subst h4
      by_cases hz : leaf = 0
      · subst hz
        by_cases h : 2 ≤ mx ∨ (mx < 0 ∧ 2 ≤ mn)
        · rcases h with h | ⟨h, hm⟩
          · exact exact_c1 mn mx n w hn h
          · exact exact_c2 mn mx n w hn h hm
        · exact exact_b mn mx 0 n w hn (by decide) (by omega) (by omega)
      · exact exact_d mn mx leaf n w hn hl hz
    · exact exact_a op mn mx leaf n w hn hl h4
end Go.Proofs.Qxb6618487a
