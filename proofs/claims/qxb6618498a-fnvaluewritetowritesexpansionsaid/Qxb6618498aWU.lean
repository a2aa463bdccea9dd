/-
  The walk of 'WriteTo' into a bytes.Buffer.
-/
import Derived.Test.Qxb6618498aWT
namespace Go.Proofs.Qxb6618498a
open Go.RowKit Go.Shelf
attribute [local go_sem] Oper.semAt_some

theorem cell_heap {V : World} {k : Nat} {v : Value} {t : TypeId} (h : V.heap[k]? = some (.cells #[v] t (0, 0))) : V.cell? ⟨k, 0, none⟩ = some v := by
  simp [World.cell?, h]
theorem frozen_heap {V : World} {k : Nat} {v : Value} {t : TypeId} (h : V.heap[k]? = some (.cells #[v] t (0, 0))) : V.frozen? ⟨k, 0, none⟩ = false := by
  simp [World.frozen?, h]

/-- The value's pieces, given to whatever keeps true what lies below b. -/
def GivesAll (nb b : Nat) (f t : Nat) (out : List UInt8) (w : World) : Prop :=
  ∀ (l : Nat) (J : List UInt8 → World → Prop), Abides J → Yields l 4194304 J → (∀ q V, J q V → Below b w V) → ∀ n V, J [] V →
    CallsIn Fence.wide n Try.prog 22 #[.pointer (some ⟨nb, 0, none⟩), .int .i64 f, .int .i64 ((t : Int) - (f : Int)), .func (.yield l) #[] #[]] V fun e V' => e = .returned (.bool true) ∧ J out V'

theorem new_at {V : World} {o : Obj} {k : Nat} (h : V.heap.size = k) : (V.alloc o).heap[k]? = some o := by rw [← h]; exact World.alloc_heap_new V o
theorem keep_at {V : World} {o x : Obj} {k : Nat} (h : V.heap[k]? = some x) : (V.alloc o).heap[k]? = some x := (Below.heap_alloc _ _ _ (heap_lt h)).trans h

theorem tag_other {V : World} {k : Nat} {v : Value} {t : TypeId} (h : V.heap[k]? = some (.cells #[v] t (0, 0))) (h52 : t ≠ 52) (h5 : t ≠ 5) (u : Value) :
    ∀ (j : Nat) (c : Array Value) (fz : Nat × Nat), V.heap[j]? = some (Obj.cells c 52 fz) ∨ V.heap[j]? = some (Obj.cells c 5 fz) → (V.setCell ⟨k, 0, none⟩ u).heap[j]? = V.heap[j]? := by
  intro j c fz hj
  refine Below.heap_setCell _ _ _ _ ?_
  rintro rfl
  rw [h] at hj
  rcases hj with hj | hj
  · cases hj; exact h52 rfl
  · cases hj; exact h5 rfl

theorem set_heap {V : World} {k : Nat} {v : Value} {t : TypeId} (h : V.heap[k]? = some (.cells #[v] t (0, 0))) (u : Value) : (V.setCell ⟨k, 0, none⟩ u).heap[k]? = some (.cells #[u] t (0, 0)) := by
  simp [World.setCell, Array.getElem?_modify, h]

/-- Behind the two results' stores. -/
theorem St.stored {w : World} {b : Nat} {r : Loop} {q : List UInt8} {V : World} (h : St w b r q V) (hbw : b < w.heap.size) :
    ∃ V7, (V.setCell ⟨w.heap.size + 1 + 1, 0, none⟩ (.int .i64 q.length)).setCell ⟨w.heap.size + 1 + 1 + 1, 0, none⟩ .nilIface = V7 ∧ V7.heap[w.heap.size + 1 + 1 + 1 + 1 + 1]? = some (.deferred (some [])) ∧
      V7.heap[w.heap.size + 1 + 1]? = some (.cells #[.int .i64 q.length] 2 (0, 0)) ∧ V7.heap[w.heap.size + 1 + 1 + 1]? = some (.cells #[.nilIface] 27 (0, 0)) ∧ Lib.IsBuffer 52 5 b b (Lib.byteCells q) V7 ∧ Below b w V7 := by
  have a2 : (V.setCell ⟨w.heap.size + 1 + 1, 0, none⟩ (.int .i64 q.length)).heap[w.heap.size + 1 + 1 + 1]? = some (.cells #[.nilIface] 27 (0, 0)) := (Below.heap_setCell _ _ _ _ (show (w.heap.size + 1 + 1 + 1 : Nat) ≠ w.heap.size + 1 + 1 by omega)).trans h.r2
  refine ⟨_, rfl, ?_, ?_, set_heap a2 _, isBuffer_blocks (isBuffer_blocks h.buf (tag_other h.r1 (by decide) (by decide) _)) (tag_other a2 (by decide) (by decide) _), ?_⟩
  · exact (Below.heap_setCell _ _ _ _ (show (w.heap.size + 1 + 1 + 1 + 1 + 1 : Nat) ≠ w.heap.size + 1 + 1 + 1 by omega)).trans ((Below.heap_setCell _ _ _ _ (show (w.heap.size + 1 + 1 + 1 + 1 + 1 : Nat) ≠ w.heap.size + 1 + 1 by omega)).trans h.dfr)
  · exact (Below.heap_setCell _ _ _ _ (show (w.heap.size + 1 + 1 : Nat) ≠ w.heap.size + 1 + 1 + 1 by omega)).trans (set_heap h.r1 _)
  · exact (h.bel.setCell (p := ⟨w.heap.size + 1 + 1, 0, none⟩) (show b ≤ w.heap.size + 1 + 1 by omega) _).setCell (p := ⟨w.heap.size + 1 + 1 + 1, 0, none⟩) (show b ≤ w.heap.size + 1 + 1 + 1 by omega) _

set_option maxRecDepth 100000 in
set_option maxHeartbeats 2000000 in
theorem writeTo (nb b : Nat) (f t : Nat) (out : List UInt8) (w : World) (hbuf : Lib.IsBuffer 52 5 b b (Lib.byteCells []) w) (hft : f ≤ t) (ht : t ≤ 1048576) (hgive : GivesAll nb b f t out w) :
    Calls Try.prog 17 #[.agg #[.pointer (some ⟨nb, 0, none⟩), .int .i64 f, .int .i64 t], .iface 55 (.pointer (some ⟨b, 0, none⟩))] w fun e w' =>
      e = .returned (.tuple #[.int .i64 out.length, .nilIface]) ∧ Lib.IsBuffer 52 5 b b (Lib.byteCells out) w' ∧ Below b w w' := by
  have hbw : b < w.heap.size := hbuf.lt
  have HB : Hid (Lib.IsBuffer 52 5 b b (Lib.byteCells []) w ∧ GivesAll nb b f t out w) := ⟨hbuf, hgive⟩
  clear hbuf hgive
  refine (callsIn_wide (n := 3)).1 ?_
  refine callsIn_of_wp_marks Try.func17 rfl trivial ?_ rfl
  simp only [Try.ntmps17, List.size_toArray, List.length_cons, List.length_nil, Nat.reduceAdd, Nat.reduceSub, Array.replicate_succ, Array.replicate_zero, List.push_toArray, List.append_toArray, List.nil_append, List.cons_append]
  gi_wp2
  refine wpIn_rangeMethod (gf := 20) (recv := .agg #[.pointer (some ⟨nb, 0, none⟩), .int .i64 f, .int .i64 t]) rfl (enters_of Try.func20 (by kernel_rfl) rfl) ?_
  intro fn r hr
  simp only [World.size_alloc]
  have hst : St w b r [] ((((((((w.alloc (.cells #[.pointer (some ⟨nb, 0, none⟩), .int .i64 f, .int .i64 t] 35)).alloc (.cells #[.iface 55 (.pointer (some ⟨b, 0, none⟩))] 59)).alloc (.cells #[.int .i64 0] 2)).alloc (.cells #[.nilIface] 27)).alloc (.cells #[.int .i64 0] 2)).alloc (.deferred (some []))).alloc (.loop r))) := by
    have s0 : Lib.IsBuffer 52 5 b b (Lib.byteCells []) w := HB.out.1
    refine ⟨?_, ?_, ((((((s0.alloc _).alloc _).alloc _).alloc _).alloc _).alloc _).alloc _, ?_, ?_, ?_, ?_, ?_⟩
    · exact new_at (by simp only [World.size_alloc])
    · exact keep_at (new_at (by simp only [World.size_alloc]))
    · exact ((((((((Below.refl b w).alloc (by omega) _).alloc (by simp; omega) _).alloc (by simp; omega) _).alloc (by simp; omega) _).alloc (by simp; omega) _).alloc (by simp; omega) _).alloc (by simp; omega) _)
    · exact keep_at (keep_at (keep_at (keep_at (keep_at (new_at (by simp only [World.size_alloc]))))))
    · exact keep_at (keep_at (keep_at (keep_at (new_at (by simp only [World.size_alloc])))))
    · exact keep_at (keep_at (keep_at (new_at (by simp only [World.size_alloc]))))
    · exact keep_at (keep_at (new_at (by simp only [World.size_alloc])))
  have hy : Yields (w.heap.size + 1 + 1 + 1 + 1 + 1 + 1) 4194304 (St w b r) := by
    intro m q V x hJ hlen
    have hyr := run_yield (P := Try.prog) (args := #[.string x]) hJ.loop (by rw [hr]; rfl)
    rw [hr] at hyr
    dsimp only at hyr
    refine ⟨_, _, _, _, hyr, roundIn_of_wpIn trivial ?_⟩
    have HJ : Hid (St w b r q V) := hJ
    have HR : Hid (r = _) := hr
    have hst2 := hJ.turn (by omega) { r with state := .busy }
    have c1 := cell_heap hst2.wi
    have c4 := cell_heap hst2.wr
    have f4 := frozen_heap hst2.wr
    have HS2 : Hid (St w b { r with state := .busy } q (V.putObj (w.heap.size + 1 + 1 + 1 + 1 + 1 + 1) (.loop { r with state := .busy }))) := hst2
    have hbr := run_beginRound (P := Try.prog) hJ.loop (by rw [hr])
    have HBR : Hid ((Instr.beginRound (w.heap.size + 1 + 1 + 1 + 1 + 1 + 1)).run Try.prog V = .ok () (V.putObj (w.heap.size + 1 + 1 + 1 + 1 + 1 + 1) (.loop { r with state := .busy }))) := hbr
    obtain ⟨V2, hV2⟩ : ∃ V2, V.putObj (w.heap.size + 1 + 1 + 1 + 1 + 1 + 1) (.loop { r with state := .busy }) = V2 := ⟨_, rfl⟩
    rw [hV2] at HS2 HBR c1 c4 f4
    clear hV2 hbr hst2 hyr hJ hst hr
    gi_wp2
    refine ⟨V2, HBR.out, ?_⟩
    gi_wp2_with fail
    refine ⟨trivial, noDepth _, ?_⟩
    refine (CallsIn.inRound _ (callsIn_wide.2 (ioWrite b b (Lib.byteCells q) x V2 HS2.out.buf (Nat.le_of_lt HS2.out.buf.lt) (Lib.byteCells_one _) (by rw [Lib.byteCells_length]; omega)))).mono ?_
    rintro e V3 ⟨rfl, hi, hb3, hk3⟩
    have hw3 := hk3 _ _ HS2.out.wr (by simp; omega) (by intro c fz e; cases e)
    have g4 := cell_heap hw3
    have k4 := frozen_heap hw3
    have HV : Hid (St w b { r with state := .busy } (q ++ x.data.toList) (V3.setCell ⟨w.heap.size + 1 + 1 + 1 + 1, 0, none⟩ (.int .i64 ((q.length : Int) + (x.size : Int))))) := by
      have := HS2.out.wrote hi hb3 hk3 hbw
      rw [← Lib.size_eq] at this
      exact this
    have hq1 : (q.length : Int) ≤ 4194304 := by omega
    have hx1 : (x.size : Int) ≤ 4194304 := by omega
    clear hw3 hi hb3 hk3 c1 c4 f4
    gi_wp2
    have her := run_endRound (P := Try.prog) none HV.out.loop
    refine ⟨_, _, her, rfl, ?_⟩
    have er : ({ ({ r with state := .busy } : Loop) with state := if (none : Option Code).isNone then .ready else .done, pending := none } : Loop) = r := by
      rw [HR.out]; rfl
    rw [er]
    exact HV.out.turn (by omega) r
  refine (piecesWalk _ _ nb f t (St w b r) out _ (St.abides w b r) hft ht hst (HB.out.2 _ _ (St.abides w b r) hy (fun q V h => h.bel))).mono ?_
  rintro e W' ⟨⟨v, rfl⟩, hst'⟩
  have h6 := hst'.turn (by omega) { r with state := .exhausted, pending := none }
  have HS : Hid (St w b { r with state := .exhausted, pending := none } out (W'.putObj (w.heap.size + 1 + 1 + 1 + 1 + 1 + 1) (.loop { r with state := .exhausted, pending := none }))) := h6
  refine ⟨⟨v, rfl⟩, hst'.loop, ?_⟩
  have c4 := cell_heap h6.wr
  have c1 := cell_heap h6.r1
  have f1 := frozen_heap h6.r1
  have c2 := cell_heap h6.r2
  have f2 := frozen_heap h6.r2
  obtain ⟨V6, hV6⟩ : ∃ V6, W'.putObj (w.heap.size + 1 + 1 + 1 + 1 + 1 + 1) (.loop { r with state := .exhausted, pending := none }) = V6 := ⟨_, rfl⟩
  rw [hV6] at HS c4 c1 f1 c2 f2 ⊢
  clear hV6 h6 hst' hy hst hr
  gi_wp2
  obtain ⟨V7, hV7, k5, k1, k2, hbuf, hbel⟩ := HS.out.stored hbw
  rw [hV7]
  refine ⟨by simp, .inl ⟨_, _, rfl, run_takeDeferred k5, ?_⟩⟩
  have p1 : (V7.putObj (w.heap.size + 1 + 1 + 1 + 1 + 1) (.deferred none)).cell? ⟨w.heap.size + 1 + 1, 0, none⟩ = some (.int .i64 out.length) := cell_heap ((World.putObj_heap_other (by omega)).trans k1)
  have p2 : (V7.putObj (w.heap.size + 1 + 1 + 1 + 1 + 1) (.deferred none)).cell? ⟨w.heap.size + 1 + 1 + 1, 0, none⟩ = some .nilIface := cell_heap ((World.putObj_heap_other (by omega)).trans k2)
  have hbuf8 : Lib.IsBuffer 52 5 b b (Lib.byteCells out) (V7.putObj (w.heap.size + 1 + 1 + 1 + 1 + 1) (.deferred none)) := by
    refine isBuffer_blocks hbuf ?_
    intro j c fz hj
    refine World.putObj_heap_other ?_
    rintro rfl
    rw [k5] at hj
    rcases hj with hj | hj <;> cases hj
  have hbel8 : Below b w (V7.putObj (w.heap.size + 1 + 1 + 1 + 1 + 1) (.deferred none)) := hbel.grown (grownBy_putObj' V7 _ _) (Nat.le_of_lt hbuf.lt) (fun k e => by cases e; omega)
  exact ⟨.tuple #[.int .i64 out.length, .nilIface], by simp [results, Try.results17, go_sem, p1, p2], rfl, hbuf8, hbel8⟩
end Go.Proofs.Qxb6618498a
