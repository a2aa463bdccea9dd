/-
  The walks that the two laws over 'overlaps' share.
-/
import Derived.Test.Qxb6618487aOP
import Derived.WalkKit
import Derived.WalkSpells
import Derived.WalkLawsBesides
import Derived.Deep.QuietTactic
import Derived.BigQuiet
import Derived.Lib.Strings
import Derived.Lib.IndexBytes
namespace Go.Proofs.Qxb6618487a
open Go.RowKit

/-- strings.HasPrefix, over the two strings. -/
def pre (s p : ByteArray) : Bool := decide (p.size ≤ s.size) && ((s.extract 0 p.size).toList == p.toList)

set_option maxHeartbeats 400000 in
theorem litePrefix (s p : ByteArray) (w : World) :
    Calls Try.prog 47 #[.string s, .string p] w fun e w' => e = .returned (.bool (pre s p)) ∧ w' = w := by
  by_cases h : p.size ≤ s.size
  · go_enter Try.func47, Try.ntmps47
    go_wp2
    go_ret
    exact ⟨by simp [pre, h], rfl⟩
  · go_enter Try.func47, Try.ntmps47
    go_wp2
    go_ret
    exact ⟨by simp [pre, h], rfl⟩

set_option maxHeartbeats 400000 in
theorem hasPrefix (s p : ByteArray) (w : World) :
    Calls Try.prog 46 #[.string s, .string p] w fun e w' => e = .returned (.bool (pre s p)) ∧ w' = w := by
  go_enter Try.func46, Try.ntmps46
  go_wp2_with (go_at_call 47; refine (litePrefix s p _).mono ?_; rintro e w' ⟨rfl, rfl⟩)
  go_ret
  exact ⟨rfl, rfl⟩

/-- The Go function 'within', over its two strings. -/
def wth (n s : ByteArray) : Bool := wl n.data.toList s.data.toList

theorem bytes_ext {a b : ByteArray} (h : a.data.toList = b.data.toList) : a = b := by
  rw [← Lib.mk_data a, ← Lib.mk_data b, h]

theorem pre_iff (n s : ByteArray) : pre n s = true ↔ ∃ t, n.data.toList = s.data.toList ++ t := by
  unfold pre
  rw [Lib.hasPrefix_raw, Lib.hasPrefix, List.isPrefixOf_iff_prefix]
  constructor
  · rintro ⟨t, h⟩; exact ⟨t, h.symm⟩
  · rintro ⟨t, h⟩; exact ⟨t, h.symm⟩

/-- 'name' is not 'set', and begins with it: there is a byte behind. -/
theorem pre_next (n s : ByteArray) (h1 : (n.toList == s.toList) = false) (h : pre n s = true) : s.size < n.size := by
  obtain ⟨t, ht⟩ := (pre_iff n s).1 h
  have e1 := congrArg List.length ht
  rw [List.length_append, ← Lib.size_eq, ← Lib.size_eq] at e1
  rcases Nat.lt_or_ge s.size n.size with q | q
  · exact q
  · have : t = [] := List.eq_nil_of_length_eq_zero (by omega)
    subst this
    rw [List.append_nil] at ht
    rw [Lib.toList_data, Lib.toList_data, ht] at h1
    simp at h1

theorem wth_empty {n s : ByteArray} (h0 : s.toList.isEmpty = true) : wth n s = true := by
  rw [Lib.toList_data, List.isEmpty_iff] at h0
  unfold wth
  rw [h0]
  exact wl_nil _

theorem wth_same {n s : ByteArray} (h1 : (n.toList == s.toList) = true) : wth n s = true := by
  rw [Lib.toList_data, Lib.toList_data, beq_iff_eq] at h1
  unfold wth
  rw [h1]
  exact wl_self _

theorem wth_no {n s : ByteArray} (h0 : s.toList.isEmpty = false) (h1 : (n.toList == s.toList) = false) (h : pre n s = false) : wth n s = false := by
  rw [Lib.toList_data] at h0
  rw [Lib.toList_data, Lib.toList_data] at h1
  unfold wth
  rw [← Bool.not_eq_true, wl_iff]
  rintro (e | e | ⟨t, e⟩)
  · rw [e] at h0; simp at h0
  · rw [e] at h1; simp at h1
  · rw [(pre_iff n s).2 ⟨_, e⟩] at h; cases h

theorem wth_dot {n s : ByteArray} (h0 : s.toList.isEmpty = false) (h1 : (n.toList == s.toList) = false) (h : pre n s = true) (hlt : s.size < n.size) :
    ((n[s.size].toNat : Int) == 46) = wth n s := by
  rw [Lib.toList_data] at h0
  rw [Lib.toList_data, Lib.toList_data] at h1
  obtain ⟨t, ht⟩ := (pre_iff n s).1 h
  have hg := Lib.data_getElem? n s.size hlt
  generalize n[s.size] = c0 at hg ⊢
  rw [ht, List.getElem?_append_right (by rw [Lib.size_eq]; exact Nat.le_refl _), show s.size - s.data.toList.length = 0 by rw [Lib.size_eq]; exact Nat.sub_self _] at hg
  unfold wth
  rw [Bool.eq_iff_iff, wl_iff, beq_iff_eq]
  constructor
  · intro e
    cases t with
    | nil => simp at hg
    | cons c t =>
      simp only [List.getElem?_cons_zero, Option.some.injEq] at hg
      refine Or.inr (Or.inr ⟨t, ?_⟩)
      have : c = 46 := by rw [hg]; apply UInt8.toNat_inj.1; exact Int.ofNat.inj e
      rw [ht, this]
  · rintro (e | e | ⟨t', e⟩)
    · rw [e] at h0; simp at h0
    · rw [e] at h1; simp at h1
    · rw [ht] at e
      have := List.append_cancel_left e
      subst this
      simp only [List.getElem?_cons_zero, Option.some.injEq] at hg
      rw [← hg]
      rfl

set_option maxHeartbeats 400000 in
theorem withinWalk (n s : ByteArray) (w : World) :
    Calls Try.prog 45 #[.string n, .string s] w fun e w' => e = .returned (.bool (wth n s)) ∧ w' = w := by
  by_cases h0 : s.toList.isEmpty = true
  · have HW : Hid (wth n s = true) := wth_empty h0
    go_enter Try.func45, Try.ntmps45
    go_wp2_with fail
    go_ret
    rw [HW.out]
    exact ⟨rfl, rfl⟩
  · have h0' : s.toList.isEmpty = false := by simpa using h0
    by_cases h1 : (n.toList == s.toList) = true
    · have HW : Hid (wth n s = true) := wth_same h1
      go_enter Try.func45, Try.ntmps45
      go_wp2_with fail
      go_ret
      rw [HW.out]
      exact ⟨rfl, rfl⟩
    · have h1' : (n.toList == s.toList) = false := by simpa using h1
      by_cases hp : pre n s = true
      · have hlt := pre_next n s h1' hp
        have HW : Hid (((n[s.size].toNat : Int) == 46) = wth n s) := wth_dot h0' h1' hp hlt
        go_enter Try.func45, Try.ntmps45
        go_wp2_with (go_at_call 46; refine (hasPrefix n s _).mono ?_; rintro e w' ⟨rfl, rfl⟩; rw [hp])
        go_ret
        rw [← HW.out]
        exact ⟨rfl, rfl⟩
      · have hp' : pre n s = false := by simpa using hp
        have HW : Hid (wth n s = false) := wth_no h0' h1' hp'
        go_enter Try.func45, Try.ntmps45
        go_wp2_with (go_at_call 46; refine (hasPrefix n s _).mono ?_; rintro e w' ⟨rfl, rfl⟩; rw [hp'])
        go_ret
        rw [HW.out]
        exact ⟨rfl, rfl⟩

set_option maxHeartbeats 400000 in
theorem newRef (s p : ByteArray) (w : World) :
    Calls Try.prog 24 #[.string s, .string p] w fun e w' => e = .returned (.agg #[.string s, .string p]) ∧ w.alloc (.cells #[.string s, .string p] 41) = w' := by
  go_enter Try.func24, Try.ntmps24
  go_wp2
  exact bodyPost_ret (v := .agg #[.string s, .string p]) (by simp [results, Try.results24, go_sem]) rfl ⟨rfl, rfl⟩
end Go.Proofs.Qxb6618487a
