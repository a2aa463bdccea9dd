/-
  The plain law under the two laws over 'overlaps': lists of bytes, no Go in sight.
-/
import Derived.Test.Qxb6618487aRows
namespace Go.Proofs.Qxb6618487a

/-- The data called n is the data called s or lies below it. -/
def wl (n s : List UInt8) : Bool := s.isEmpty || (n == s || (s ++ [46]).isPrefixOf n)
/-- The dot-separated names of a are the leading ones of b's. -/
def sp (a b : List UInt8) : Bool := a == b || (a ++ [46]).isPrefixOf b

theorem sp_iff (a b : List UInt8) : sp a b = true ↔ (a = b ∨ ∃ t, b = a ++ 46 :: t) := by
  unfold sp
  rw [Bool.or_eq_true, beq_iff_eq, List.isPrefixOf_iff_prefix]
  constructor
  · rintro (h | ⟨t, h⟩)
    · exact Or.inl h
    · exact Or.inr ⟨t, by rw [← h]; simp⟩
  · rintro (h | ⟨t, h⟩)
    · exact Or.inl h
    · exact Or.inr ⟨t, by rw [h]; simp⟩

theorem wl_iff (n s : List UInt8) : wl n s = true ↔ (s = [] ∨ n = s ∨ ∃ t, n = s ++ 46 :: t) := by
  unfold wl
  rw [Bool.or_eq_true, Bool.or_eq_true, beq_iff_eq, List.isPrefixOf_iff_prefix, List.isEmpty_iff]
  constructor
  · rintro (h | h | ⟨t, h⟩)
    · exact Or.inl h
    · exact Or.inr (Or.inl h)
    · exact Or.inr (Or.inr ⟨t, by rw [← h]; simp⟩)
  · rintro (h | h | ⟨t, h⟩)
    · exact Or.inl h
    · exact Or.inr (Or.inl h)
    · exact Or.inr (Or.inr ⟨t, by rw [h]; simp⟩)

theorem wl_ext (n e : List UInt8) : wl (n ++ 46 :: e) n = true := (wl_iff _ _).2 (Or.inr (Or.inr ⟨e, rfl⟩))
theorem wl_nil (n : List UInt8) : wl n [] = true := (wl_iff _ _).2 (Or.inl rfl)
theorem wl_self (n : List UInt8) : wl n n = true := (wl_iff _ _).2 (Or.inr (Or.inl rfl))

theorem wl_sp {a b : List UInt8} (h : a ≠ []) : wl b a = sp a b := by
  rw [Bool.eq_iff_iff, wl_iff, sp_iff]
  constructor
  · rintro (e | e | e)
    · exact absurd e h
    · exact Or.inl e.symm
    · exact Or.inr e
  · rintro (e | e)
    · exact Or.inr (Or.inl e.symm)
    · exact Or.inr (Or.inr e)

theorem sp_common (p x y : List UInt8) : sp (p ++ 46 :: x) (p ++ 46 :: y) = sp x y := by
  rw [Bool.eq_iff_iff, sp_iff, sp_iff]
  simp

theorem wl_common (p : List UInt8) {x y : List UInt8} (hy : y ≠ []) : wl (p ++ 46 :: x) (p ++ 46 :: y) = wl x y := by
  rw [wl_sp (by simp), wl_sp hy, sp_common]

/-- Without a dot in it. -/
def nodot (u : List UInt8) : Prop := ∀ c ∈ u, c ≠ 46
/-- At an end, or at a dot. -/
def atdot (r : List UInt8) : Prop := r = [] ∨ ∃ t, r = 46 :: t

theorem seg_eq : ∀ {u v X Y : List UInt8}, nodot u → nodot v → atdot X → atdot Y → u ++ X = v ++ Y → u = v
  | [], [], _, _, _, _, _, _, _ => rfl
  | [], c :: v, X, Y, _, hv, hX, _, h => by
    rcases hX with rfl | ⟨t, rfl⟩
    · simp at h
    · simp only [List.nil_append, List.cons_append, List.cons.injEq] at h
      exact absurd h.1.symm (hv c (List.mem_cons_self ..))
  | c :: u, [], X, Y, hu, _, _, hY, h => by
    rcases hY with rfl | ⟨t, rfl⟩
    · simp at h
    · simp only [List.nil_append, List.cons_append, List.cons.injEq] at h
      exact absurd h.1 (hu c (List.mem_cons_self ..))
  | c :: u, d :: v, X, Y, hu, hv, hX, hY, h => by
    simp only [List.cons_append, List.cons.injEq] at h
    rw [h.1, seg_eq (fun x hx => hu x (List.mem_cons_of_mem _ hx)) (fun x hx => hv x (List.mem_cons_of_mem _ hx)) hX hY h.2]

theorem sp_ne {u v X Y : List UInt8} (hu : nodot u) (hv : nodot v) (hX : atdot X) (hY : atdot Y) (h : u ≠ v) : sp (u ++ X) (v ++ Y) = false := by
  rw [← Bool.not_eq_true, sp_iff]
  rintro (e | ⟨t, e⟩)
  · exact h (seg_eq hu hv hX hY e)
  · rw [List.append_assoc] at e
    refine h (seg_eq hu hv ?_ hY e.symm)
    rcases hX with rfl | ⟨t', rfl⟩
    · exact Or.inr ⟨t, rfl⟩
    · exact Or.inr ⟨_, rfl⟩

theorem sp_end {u Y : List UInt8} (hY : atdot Y) : sp u (u ++ Y) = true := by
  rw [sp_iff]
  rcases hY with rfl | ⟨t, rfl⟩
  · exact Or.inl (by simp)
  · exact Or.inr ⟨t, rfl⟩

theorem sp_long (u r : List UInt8) : sp (u ++ 46 :: r) u = false := by
  rw [← Bool.not_eq_true, sp_iff]
  rintro (e | ⟨t, e⟩)
  · have := congrArg List.length e; simp at this
  · have := congrArg List.length e; simp at this

end Go.Proofs.Qxb6618487a
