/-
  The makers of values, and their lengths.
-/
import Derived.Test.Qxb6618498aRows
import Derived.WalkKit
import Derived.WalkSpells
import Derived.WalkLawsBesides
import Derived.Deep.LoopGhost
import Derived.Deep.QuietTactic
import Derived.BigQuiet
import Derived.BigRegion
import Derived.Deep.RegionWith
namespace Go.Proofs.Qxb6618498a
open Go.RowKit

set_option maxHeartbeats 400000 in
theorem lenWalk (n : Option Addr) (f t : Int) (w : World) (h0 : 0 ≤ f) (h1 : f ≤ t) (h2 : t ≤ 4611686018427387904) :
    Calls Try.prog 15 #[.agg #[.pointer n, .int .i64 f, .int .i64 t]] w fun e w' => e = .returned (.int .i64 (t - f)) ∧ w.alloc (.cells #[.pointer n, .int .i64 f, .int .i64 t] 35) = w' := by
  go_enter Try.func15, Try.ntmps15
  go_wp2
  go_ret
  exact ⟨rfl, rfl⟩

/-- A family of three. -/
def pick3 {α : Type} (x y z : α) : Nat → α
  | 0 => x
  | 1 => y
  | _ => z

/-- A node at block nb, its three parts at block pb: texts, references and their bounds. -/
structure NodeIs (W : World) (nb pb : Nat) (T : Nat → ByteArray) (R : Nat → Option Addr) (F U : Nat → Int) : Prop where
  sl : W.cell? ⟨nb, 0, none⟩ = some (.slice (some ⟨pb, 0, none⟩) 3 3)
  qu : W.cell? ⟨nb, 2, none⟩ = some (.int .u8 0)
  wd : W.cell? ⟨nb, 3, none⟩ = some (.bool false)
  text : ∀ i, i < 3 → W.cell? ⟨pb, 4 * i, none⟩ = some (.string (T i))
  ref : ∀ i, i < 3 → W.cell? ⟨pb, 4 * i + 1, none⟩ = some (.pointer (R i))
  fr : ∀ i, i < 3 → W.cell? ⟨pb, 4 * i + 2, none⟩ = some (.int .i64 (F i))
  upto : ∀ i, i < 3 → W.cell? ⟨pb, 4 * i + 3, none⟩ = some (.int .i64 (U i))

/-- A cell that holds something goes on holding it. -/
def Ext (w w' : World) : Prop := ∀ a v, w.cell? a = some v → w'.cell? a = some v

theorem block_lt {w : World} {p : Addr} {v : Value} (h : w.cell? p = some v) : p.block < w.heap.size := by
  rcases Nat.lt_or_ge p.block w.heap.size with h1 | h1
  · exact h1
  · have e : w.heap[p.block]? = none := Array.getElem?_eq_none h1
    simp [World.cell?, e] at h

theorem NodeIs.ext {W W' : World} {nb pb : Nat} {T : Nat → ByteArray} {R : Nat → Option Addr} {F U : Nat → Int} (h : NodeIs W nb pb T R F U) (k : Ext W W') : NodeIs W' nb pb T R F U :=
  ⟨k _ _ h.sl, k _ _ h.qu, k _ _ h.wd, fun i hi => k _ _ (h.text i hi), fun i hi => k _ _ (h.ref i hi), fun i hi => k _ _ (h.fr i hi), fun i hi => k _ _ (h.upto i hi)⟩

theorem ext_below {W W' : World} (h : Below W.heap.size W W') : Ext W W' := fun a _ e => (h.cell (p := a) (block_lt e)).trans e

/-- The world behind 'ZZNewTextValue'. -/
abbrev textWorld (w : World) (a b c : ByteArray) (f t : Int) : World :=
  ((w.alloc (.cells #[.pointer (some ⟨w.heap.size + 1 + 1, 0, none⟩), .int .i64 f, .int .i64 t] 35)).alloc
    (.cells #[.string a, .pointer none, .int .i64 0, .int .i64 0, .string b, .pointer none, .int .i64 0, .int .i64 0, .string c, .pointer none, .int .i64 0, .int .i64 0] 45)).alloc
    (.cells #[.slice (some ⟨w.heap.size + 1, 0, none⟩) 3 3, .int .i64 (a.size + b.size + c.size), .int .u8 0, .bool false] 48)

theorem text_node (w : World) (a b c : ByteArray) (f t : Int) : NodeIs (textWorld w a b c f t) (w.heap.size + 1 + 1) (w.heap.size + 1) (pick3 a b c) (fun _ => none) (fun _ => 0) (fun _ => 0) := by
  refine ⟨by go_simp, by go_simp, by go_simp, ?_, ?_, ?_, ?_⟩ <;>
  · intro i hi
    match i, hi with
    | 0, _ => go_simp; try rfl
    | 1, _ => go_simp; try rfl
    | 2, _ => go_simp; try rfl

set_option maxHeartbeats 400000 in
theorem newText (a b c : ByteArray) (f t : Int) (w : World) (ha : a.size ≤ 262144) (hb : b.size ≤ 262144) (hc : c.size ≤ 262144) :
    Calls Try.prog 13 #[.string a, .string b, .string c, .int .i64 f, .int .i64 t] w fun e w' =>
      e = .returned (.agg #[.pointer (some ⟨w.heap.size + 1 + 1, 0, none⟩), .int .i64 f, .int .i64 t]) ∧ textWorld w a b c f t = w' := by
  go_enter Try.func13, Try.ntmps13
  go_wp2
  exact bodyPost_ret (v := .agg #[.pointer (some ⟨w.heap.size + 1 + 1, 0, none⟩), .int .i64 f, .int .i64 t]) (by simp [results, Try.results13, go_sem]) rfl ⟨rfl, rfl⟩

/-- The two worlds that 'ZZNewRefValue' may leave, by the order that is drawn. -/
abbrev refWorld1 (w : World) (a d : ByteArray) (n : Option Addr) (rf rt f t x : Int) : World :=
  ((((w.alloc (.cells #[.pointer n, .int .i64 rf, .int .i64 rt] 35)).alloc
    (.cells #[.pointer (some ⟨w.heap.size + 1 + 1 + 1 + 1, 0, none⟩), .int .i64 f, .int .i64 t] 35)).alloc
    (.cells #[.string a, .pointer none, .int .i64 0, .int .i64 0, .string ⟨#[]⟩, .pointer n, .int .i64 rf, .int .i64 rt, .string d, .pointer none, .int .i64 0, .int .i64 0] 45)).alloc
    (.cells #[.pointer n, .int .i64 rf, .int .i64 rt] 35)).alloc
    (.cells #[.slice (some ⟨w.heap.size + 1 + 1, 0, none⟩) 3 3, .int .i64 x, .int .u8 0, .bool false] 48)
abbrev refWorld2 (w : World) (a d : ByteArray) (n : Option Addr) (rf rt f t x : Int) : World :=
  ((((w.alloc (.cells #[.pointer n, .int .i64 rf, .int .i64 rt] 35)).alloc
    (.cells #[.pointer (some ⟨w.heap.size + 1 + 1 + 1 + 1, 0, none⟩), .int .i64 f, .int .i64 t] 35)).alloc
    (.cells #[.pointer n, .int .i64 rf, .int .i64 rt] 35)).alloc
    (.cells #[.string a, .pointer none, .int .i64 0, .int .i64 0, .string ⟨#[]⟩, .pointer n, .int .i64 rf, .int .i64 rt, .string d, .pointer none, .int .i64 0, .int .i64 0] 45)).alloc
    (.cells #[.slice (some ⟨w.heap.size + 1 + 1 + 1, 0, none⟩) 3 3, .int .i64 x, .int .u8 0, .bool false] 48)

/-- What 'ZZNewRefValue' leaves. -/
def RefMade (w : World) (a d : ByteArray) (n : Option Addr) (rf rt : Int) (w' : World) : Prop :=
  Below w.heap.size w w' ∧ ∃ pb, NodeIs w' (w.heap.size + 1 + 1 + 1 + 1) pb (pick3 a ⟨#[]⟩ d) (pick3 none n none) (pick3 0 rf 0) (pick3 0 rt 0)

theorem ref_made1 (w : World) (a d : ByteArray) (n : Option Addr) (rf rt f t x : Int) : RefMade w a d n rf rt (refWorld1 w a d n rf rt f t x).drew := by
  refine ⟨((((((Below.refl _ w).alloc (Nat.le_refl _) _).alloc (by simp) _).alloc (by simp; omega) _).alloc (by simp; omega) _).alloc (by simp; omega) _).drew, w.heap.size + 1 + 1, ?_⟩
  refine ⟨by go_simp, by go_simp, by go_simp, ?_, ?_, ?_, ?_⟩ <;>
  · intro i hi
    match i, hi with
    | 0, _ => go_simp; try rfl
    | 1, _ => go_simp; try rfl
    | 2, _ => go_simp; try rfl
theorem ref_made2 (w : World) (a d : ByteArray) (n : Option Addr) (rf rt f t x : Int) : RefMade w a d n rf rt (refWorld2 w a d n rf rt f t x).drew := by
  refine ⟨((((((Below.refl _ w).alloc (Nat.le_refl _) _).alloc (by simp) _).alloc (by simp; omega) _).alloc (by simp; omega) _).alloc (by simp; omega) _).drew, w.heap.size + 1 + 1 + 1, ?_⟩
  refine ⟨by go_simp, by go_simp, by go_simp, ?_, ?_, ?_, ?_⟩ <;>
  · intro i hi
    match i, hi with
    | 0, _ => go_simp; try rfl
    | 1, _ => go_simp; try rfl
    | 2, _ => go_simp; try rfl
end Go.Proofs.Qxb6618498a
