/-
  The walk of 'WriteTo' into a bytes.Buffer: the range over the value's pieces.
-/
import Derived.Test.Qxb6618498aEB
import Derived.Test.Qxb6618498aWS
import Derived.Lib.BufferKept
namespace Go.Proofs.Qxb6618498a
open Go.RowKit Go.Shelf
attribute [local go_sem] Oper.semAt_some

/-- A range over A METHOD VALUE (the receiver is bound ahead of yield), whose rounds all go on: the record is laid, the method is called, the record is ready again. -/
theorem wpIn_rangeMethod {P : Program} {n : Nat} {g : Operand} {ps : Array Tmp} {assign body : Code} {Q : Exit → Act → World → Prop} {a : Act} {w : World} {gf : Nat} {recv : Value}
    (hg : a.eval g = .func (.func gf) #[recv] #[]) (eg : ∀ args w, (callFunc gf args).run P w = .ok (.enter gf args) w)
    (h : ∀ fn, ∀ r : Loop, r = { state := .ready, pending := none, fn := fn, tmps := a.tmps, params := ps, assign := assign, body := body, defers := w.heap.size } →
      CallsIn Fence.wide (n - 1) P gf #[recv, .func (.yield (w.heap.size + 1)) #[] #[]] ((w.alloc (.deferred (some []))).alloc (.loop r)) fun e W' => (∃ v, e = .returned v) ∧
        W'.heap[w.heap.size + 1]? = some (.loop r) ∧ Q .normal { a with defers := { target := .collected w.heap.size, args := #[] } :: a.defers } (W'.putObj (w.heap.size + 1) (.loop { r with state := .exhausted, pending := none }))) :
    (Code.rangeFunc g ps assign body).wpIn Fence.wide n P Q a w := by
  refine wpIn_rangeFunc ?_
  intro fn _
  obtain ⟨r, hr⟩ : ∃ r : Loop, r = { state := .ready, pending := none, fn := fn, tmps := a.tmps, params := ps, assign := assign, body := body, defers := w.heap.size } := ⟨_, rfl⟩
  have hc := h fn r hr
  have hen := run_enterLoop_outer (P := P) (w := w) fn a.tmps ps assign body
  rw [← hr] at hen
  obtain ⟨W1, hW1⟩ : ∃ W1, (w.alloc (.deferred (some []))).alloc (.loop r) = W1 := ⟨_, rfl⟩
  rw [hW1] at hc hen
  refine ⟨w.heap.size + 1, [{ target := .collected w.heap.size, args := #[] }], W1, { target := .fn (.func gf) #[], args := #[recv, .func (.yield (w.heap.size + 1)) #[] #[]] }, W1, gf,
    #[recv, .func (.yield (w.heap.size + 1)) #[] #[]], W1, hen, ?_, fun _ _ => trivial, ?_, noDepth _, ?_⟩
  · simp only [resolve, hg]
    simp [go_sem]
  · simp [invoke, go_sem, eg]
  · refine hc.mono ?_
    rintro e W' ⟨⟨v, rfl⟩, hl, hq⟩
    have he := run_endLoop (P := P) hl (by rw [hr]; simp)
    have hp : r.pending = none := by rw [hr]
    rw [hp] at he
    exact ⟨none, _, he, hq⟩

/-- A buffer stays a buffer while its own block and the rows of bytes stand. -/
theorem isBuffer_blocks {B b : Nat} {bs : List Value} {V V' : World} (h : Lib.IsBuffer 52 5 B b bs V) (hk : ∀ (k : Nat) (c : Array Value) (fz : Nat × Nat), V.heap[k]? = some (Obj.cells c 52 fz) ∨ V.heap[k]? = some (Obj.cells c 5 fz) → V'.heap[k]? = V.heap[k]?) : Lib.IsBuffer 52 5 B b bs V' := by
  obtain ⟨hB, v, lr, hb, ho, hne⟩ := h
  refine ⟨hB, v, lr, (hk b _ _ (Or.inl hb)).trans hb, ⟨ho.1, ?_⟩, hne⟩
  rcases ho.2 with hn | ⟨g, cap, cur, hv, hbg, hg, rest⟩
  · exact .inl hn
  · exact .inr ⟨g, cap, cur, hv, hbg, (hk g _ _ (Or.inr hg)).trans hg, rest⟩

/-- What the rounds of 'WriteTo' keep true: q is what has been written. -/
structure St (w : World) (b : Nat) (r : Loop) (q : List UInt8) (V : World) : Prop where
  loop : V.heap[w.heap.size + 1 + 1 + 1 + 1 + 1 + 1]? = some (.loop r)
  dfr : V.heap[w.heap.size + 1 + 1 + 1 + 1 + 1]? = some (.deferred (some []))
  buf : Lib.IsBuffer 52 5 b b (Lib.byteCells q) V
  bel : Below b w V
  wi : V.heap[w.heap.size + 1]? = some (.cells #[.iface 55 (.pointer (some ⟨b, 0, none⟩))] 59 (0, 0))
  r1 : V.heap[w.heap.size + 1 + 1]? = some (.cells #[.int .i64 0] 2 (0, 0))
  r2 : V.heap[w.heap.size + 1 + 1 + 1]? = some (.cells #[.nilIface] 27 (0, 0))
  wr : V.heap[w.heap.size + 1 + 1 + 1 + 1]? = some (.cells #[.int .i64 q.length] 2 (0, 0))

theorem heap_lt {V : World} {k : Nat} {o : Obj} (h : V.heap[k]? = some o) : k < V.heap.size := (Array.getElem?_eq_some_iff.1 h).1

theorem St.alloc {w : World} {b : Nat} {r : Loop} {q : List UInt8} {V : World} (h : St w b r q V) (o : Obj) : St w b r q (V.alloc o) :=
  ⟨(Below.heap_alloc _ _ _ (heap_lt h.loop)).trans h.loop, (Below.heap_alloc _ _ _ (heap_lt h.dfr)).trans h.dfr, h.buf.alloc o, h.bel.alloc (Nat.le_of_lt h.buf.lt) o,
    (Below.heap_alloc _ _ _ (heap_lt h.wi)).trans h.wi, (Below.heap_alloc _ _ _ (heap_lt h.r1)).trans h.r1, (Below.heap_alloc _ _ _ (heap_lt h.r2)).trans h.r2, (Below.heap_alloc _ _ _ (heap_lt h.wr)).trans h.wr⟩

theorem St.abides (w : World) (b : Nat) (r : Loop) : Abides (St w b r) :=
  ⟨fun _ _ c t h => h.alloc (.cells c t), fun _ _ h => ⟨h.loop, h.dfr, h.buf, h.bel.drew, h.wi, h.r1, h.r2, h.wr⟩⟩

/-- The record turned: all else stands. -/
theorem St.turn {w : World} {b : Nat} {r : Loop} {q : List UInt8} {V : World} (h : St w b r q V) (hb : b ≤ w.heap.size) (r' : Loop) : St w b r' q (V.putObj (w.heap.size + 1 + 1 + 1 + 1 + 1 + 1) (.loop r')) := by
  have lt := heap_lt h.loop
  refine ⟨World.putObj_heap_same lt, (World.putObj_heap_other (by omega)).trans h.dfr, isBuffer_blocks h.buf ?_, ?_, (World.putObj_heap_other (by omega)).trans h.wi, (World.putObj_heap_other (by omega)).trans h.r1, (World.putObj_heap_other (by omega)).trans h.r2, (World.putObj_heap_other (by omega)).trans h.wr⟩
  · intro k c fz hk
    refine World.putObj_heap_other ?_
    rintro rfl
    rw [h.loop] at hk
    rcases hk with hk | hk <;> cases hk
  · exact h.bel.grown (grownBy_putObj' V _ _) (Nat.le_of_lt h.buf.lt) (fun k e => by cases e; omega)

/-- A piece written: the buffer and the count. -/
theorem St.wrote {w : World} {b : Nat} {r : Loop} {q : List UInt8} {V V' : World} {x : List UInt8} (h : St w b r q V) (hi : Lib.IsBuffer 52 5 b b (Lib.byteCells q ++ Lib.byteCells x) V') (hbel : Below b V V') (hk : Lib.OthersKept 5 (some b) V V')
    (hbw : b < w.heap.size) : St w b r (q ++ x) (V'.setCell ⟨w.heap.size + 1 + 1 + 1 + 1, 0, none⟩ (.int .i64 ((q.length : Int) + (x.length : Int)))) := by
  have hl := hk _ _ h.loop (by simp; omega) (by intro c fz e; cases e)
  have hd := hk _ _ h.dfr (by simp; omega) (by intro c fz e; cases e)
  have hwi := hk _ _ h.wi (by simp; omega) (by intro c fz e; cases e)
  have h1 := hk _ _ h.r1 (by simp; omega) (by intro c fz e; cases e)
  have h2 := hk _ _ h.r2 (by simp; omega) (by intro c fz e; cases e)
  have hw := hk _ _ h.wr (by simp; omega) (by intro c fz e; cases e)
  refine ⟨(Below.heap_setCell _ _ _ _ (show (w.heap.size + 1 + 1 + 1 + 1 + 1 + 1 : Nat) ≠ w.heap.size + 1 + 1 + 1 + 1 by omega)).trans hl, (Below.heap_setCell _ _ _ _ (show (w.heap.size + 1 + 1 + 1 + 1 + 1 : Nat) ≠ w.heap.size + 1 + 1 + 1 + 1 by omega)).trans hd, isBuffer_blocks (by rw [Lib.byteCells_append]; exact hi) ?_, (h.bel.trans hbel).setCell (p := ⟨w.heap.size + 1 + 1 + 1 + 1, 0, none⟩) (show b ≤ w.heap.size + 1 + 1 + 1 + 1 by omega) _,
    (Below.heap_setCell _ _ _ _ (show (w.heap.size + 1 : Nat) ≠ w.heap.size + 1 + 1 + 1 + 1 by omega)).trans hwi, (Below.heap_setCell _ _ _ _ (show (w.heap.size + 1 + 1 : Nat) ≠ w.heap.size + 1 + 1 + 1 + 1 by omega)).trans h1, (Below.heap_setCell _ _ _ _ (show (w.heap.size + 1 + 1 + 1 : Nat) ≠ w.heap.size + 1 + 1 + 1 + 1 by omega)).trans h2, ?_⟩
  · intro k c fz hk'
    refine Below.heap_setCell _ _ _ _ ?_
    rintro rfl
    rw [hw] at hk'
    rcases hk' with hk' | hk' <;> cases hk'
  · simp [World.setCell, Array.getElem?_modify, hw]
end Go.Proofs.Qxb6618498a
