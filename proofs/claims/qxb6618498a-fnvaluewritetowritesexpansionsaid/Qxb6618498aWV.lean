/-
  The expansion of a value of one reference; 'ZZWriteToBuffer'.
-/
import Derived.Test.Qxb6618498aWU
import Derived.Lib.BufferRead
namespace Go.Proofs.Qxb6618498a
open Go.RowKit Go.Shelf

/-- The bytes of the inner value. -/
def innerB (b c : List UInt8) (rf rt : Nat) : List UInt8 := ((b ++ c).drop rf).take (rt - rf)
/-- The bytes of the whole. -/
def wholeB (a d b c : List UInt8) (rf rt f t : Nat) : List UInt8 := ((a ++ innerB b c rf rt ++ d).drop f).take (t - f)

theorem node_below {w V : World} {nb pb b : Nat} {T : Nat → ByteArray} {R : Nat → Option Addr} {F U : Nat → Int} (h : NodeIs w nb pb T R F U) (hn : nb < b) (hp : pb < b) (k : Below b w V) : NodeIs V nb pb T R F U :=
  ⟨(k.cell (p := ⟨nb, 0, none⟩) hn).trans h.sl, (k.cell (p := ⟨nb, 2, none⟩) hn).trans h.qu, (k.cell (p := ⟨nb, 3, none⟩) hn).trans h.wd, fun i hi => (k.cell (p := ⟨pb, 4 * i, none⟩) hp).trans (h.text i hi), fun i hi => (k.cell (p := ⟨pb, 4 * i + 1, none⟩) hp).trans (h.ref i hi),
    fun i hi => (k.cell (p := ⟨pb, 4 * i + 2, none⟩) hp).trans (h.fr i hi), fun i hi => (k.cell (p := ⟨pb, 4 * i + 3, none⟩) hp).trans (h.upto i hi)⟩

theorem inner_rest (b c : List UInt8) (rf rt s tk : Nat) (h : s + tk ≤ (innerB b c rf rt).length) (hrt : rt ≤ b.length + c.length) (hr : rf ≤ rt) :
    restOf (pick3 b c []) 0 (rf + s) tk = ((innerB b c rf rt).drop s).take tk := by
  have hl : (innerB b c rf rt).length = rt - rf := by
    simp [innerB]; omega
  rw [hl] at h
  unfold restOf innerB
  have e : tailB (pick3 b c []) 0 = b ++ c := by simp [tailB, pick3]
  rw [e, List.drop_take, List.take_take, List.drop_drop, Nat.min_eq_left (by omega)]

theorem gives_all (ob opb ib ipb bk : Nat) (a d b c : ByteArray) (rf rt f t : Nat) (w : World)
    (hin : NodeIs w ib ipb (pick3 b c ⟨#[]⟩) (fun _ => none) (fun _ => 0) (fun _ => 0)) (hi1 : ib < bk) (hi2 : ipb < bk)
    (hout : NodeIs w ob opb (pick3 a ⟨#[]⟩ d) (pick3 none (some ⟨ib, 0, none⟩) none) (pick3 0 (rf : Int) 0) (pick3 0 (rt : Int) 0)) (ho1 : ob < bk) (ho2 : opb < bk)
    (ha : a.size ≤ 262144) (hb : b.size ≤ 262144) (hc : c.size ≤ 262144) (hd : d.size ≤ 262144) (hr : rf ≤ rt) (hrt : rt ≤ b.size + c.size) (hft : f ≤ t)
    (ht : t ≤ (a.data.toList ++ innerB b.data.toList c.data.toList rf rt ++ d.data.toList).length) :
    GivesAll ob bk f t (wholeB a.data.toList d.data.toList b.data.toList c.data.toList rf rt f t) w := by
  intro l J hA hY hbel n V hJ
  have sa : a.data.toList.length = a.size := (Lib.size_eq a).symm
  have sb : b.data.toList.length = b.size := (Lib.size_eq b).symm
  have sc : c.data.toList.length = c.size := (Lib.size_eq c).symm
  have sd : d.data.toList.length = d.size := (Lib.size_eq d).symm
  have li : (innerB b.data.toList c.data.toList rf rt).length = rt - rf := by simp [innerB]; omega
  -- the inner node
  have hinner : ∀ n q V (s tk : Nat), J q V → s + tk ≤ (innerB b.data.toList c.data.toList rf rt).length → q.length + tk ≤ 4194304 →
      CallsIn Fence.wide n Try.prog 22 #[.pointer (some ⟨ib, 0, none⟩), .int .i64 ((rf : Int) + (s : Int)), .int .i64 (tk : Int), .func (.yield l) #[] #[]] V fun e V' => e = .returned (.bool true) ∧ J (q ++ ((innerB b.data.toList c.data.toList rf rt).drop s).take tk) V' := by
    intro n q V s tk hq hs hM
    rw [← inner_rest b.data.toList c.data.toList rf rt s tk hs (by omega) hr]
    have e : (rf : Int) + (s : Int) = ((rf + s : Nat) : Int) := by omega
    rw [e]
    refine eachWalk n l 4194304 ib ipb (pick3 b c ⟨#[]⟩) (fun _ => none) (fun _ => 0) (fun _ => 0) (pick3 b.data.toList c.data.toList []) (rf + s) tk J q V hA hY ?_ (fun q V h => node_below hin hi1 hi2 (hbel q V h)) hq ?_ ?_ hM
    · intro i hi
      match i, hi with
      | 0, _ => exact Or.inl ⟨rfl, rfl, show b.size ≤ 1048576 by omega⟩
      | 1, _ => exact Or.inl ⟨rfl, rfl, show c.size ≤ 1048576 by omega⟩
      | 2, _ => exact Or.inl ⟨rfl, rfl, show (⟨#[]⟩ : ByteArray).size ≤ 1048576 by decide⟩
    · simp [tailB, pick3]; omega
    · simp [tailB, pick3]; omega
  -- the outer one
  have et : tailB (pick3 a.data.toList (innerB b.data.toList c.data.toList rf rt) d.data.toList) 0 = a.data.toList ++ innerB b.data.toList c.data.toList rf rt ++ d.data.toList := by simp [tailB, pick3]
  have eo : wholeB a.data.toList d.data.toList b.data.toList c.data.toList rf rt f t = restOf (pick3 a.data.toList (innerB b.data.toList c.data.toList rf rt) d.data.toList) 0 f (t - f) := by
    unfold wholeB restOf; rw [et]
  have e2 : (t : Int) - (f : Int) = ((t - f : Nat) : Int) := by omega
  rw [eo, e2]
  have lw : (a.data.toList ++ innerB b.data.toList c.data.toList rf rt ++ d.data.toList).length = a.size + (rt - rf) + d.size := by
    rw [List.length_append, List.length_append, sa, sd, li]
  have hE := eachWalk n l 4194304 ob opb (pick3 a ⟨#[]⟩ d) (pick3 none (some ⟨ib, 0, none⟩) none) (pick3 0 (rf : Int) 0) (pick3 0 (rt : Int) 0) (pick3 a.data.toList (innerB b.data.toList c.data.toList rf rt) d.data.toList) f (t - f) J [] V hA hY ?_
    (fun q V h => node_below hout ho1 ho2 (hbel q V h)) hJ (by rw [et]; omega) (by rw [et, lw]; omega) (by simp; omega)
  · exact hE
  · intro i hi
    match i, hi with
    | 0, _ => exact Or.inl ⟨rfl, rfl, show a.size ≤ 1048576 by omega⟩
    | 1, _ => exact Or.inr ⟨_, rfl, show (0 : Int) ≤ (rf : Int) by omega, show (rt : Int) = (rf : Int) + ((innerB b.data.toList c.data.toList rf rt).length : Int) by rw [li]; omega, show (rt : Int) ≤ 1048576 by omega, hinner⟩
    | 2, _ => exact Or.inl ⟨rfl, rfl, show d.size ≤ 1048576 by omega⟩
end Go.Proofs.Qxb6618498a
