/-
  The walk of the law 'FnValueWriteToWritesExpansion', its inputs in range.
-/
import Derived.Test.Qxb6618498aWY
namespace Go.Proofs.Qxb6618498a
open Go.RowKit

set_option maxHeartbeats 1000000 in
theorem law_trim (a b c d : ByteArray) (rf rt : Nat) (z u : Int) (w : World) (ha : a.size ≤ 262144) (hb : b.size ≤ 262144) (hc : c.size ≤ 262144) (hd : d.size ≤ 262144)
    (hr : rf ≤ rt) (hrt : rt ≤ b.size + c.size) (h : ¬ (0 ≤ z ∧ z ≤ u ∧ u ≤ (a.size : Int) + ((rt - rf : Nat) : Int) + (d.size : Int))) :
    Calls Try.prog 4 #[.string a, .string b, .string c, .string d, .int .i64 rf, .int .i64 rt, .int .i64 z, .int .i64 u] w fun e w' => e = .returned (.bool true) ∧ Below w.heap.size w w' := by
  have HB : Hid (decide (a.size + b.size + c.size + d.size ≤ 1048576) = true) := decide_eq_true (by omega)
  have HH : Hid (¬ (0 ≤ z ∧ z ≤ u ∧ u ≤ (a.size : Int) + ((rt - rf : Nat) : Int) + (d.size : Int))) := h
  clear h
  have i1 : ¬ (rf : Int) < 0 := by omega
  have i2 : (rf : Int) ≤ (rt : Int) := by omega
  have i3 : (rt : Int) ≤ (b.size : Int) + (c.size : Int) := by omega
  go_enter Try.func4, Try.ntmps4
  go_wp2_with fail
  refine (bytes8_is a b c d rf rt z u w (by unfold maxLen; omega) (by unfold maxLen; omega) (by unfold maxLen; omega) (by unfold maxLen; omega) HB.out).mono ?_
  rintro e wx ⟨rfl, hwx⟩
  subst wx
  go_wp2_with fail
  all_goals first | (go_ret; exact ⟨rfl, Below.refl _ _⟩) | (exfalso; have := HH.out; omega)

theorem size_whole (a d b c : ByteArray) (rf rt : Nat) (hr : rf ≤ rt) (hrt : rt ≤ b.size + c.size) :
    (a.data.toList ++ innerB b.data.toList c.data.toList rf rt ++ d.data.toList).length = a.size + (rt - rf) + d.size := by
  have li : (innerB b.data.toList c.data.toList rf rt).length = rt - rf := by
    simp only [innerB, List.length_take, List.length_drop, List.length_append]
    rw [← Lib.size_eq, ← Lib.size_eq]
    omega
  rw [List.length_append, List.length_append, li, ← Lib.size_eq, ← Lib.size_eq]

theorem text_is (a d b c : ByteArray) (rf rt f t : Nat) : ((a ++ (b ++ c).extract rf rt ++ d).extract f t).data.toList = wholeB a.data.toList d.data.toList b.data.toList c.data.toList rf rt f t := by
  rw [Lib.extract_data]
  have e : (a ++ (b ++ c).extract rf rt ++ d).data.toList = a.data.toList ++ innerB b.data.toList c.data.toList rf rt ++ d.data.toList := by
    have e1 : ((b ++ c).extract rf rt).data.toList = innerB b.data.toList c.data.toList rf rt := by
      rw [Lib.extract_data]; simp [innerB]
    simp only [ByteArray.data_append, Array.toList_append, e1]
  rw [e]
  rfl

theorem whole_length (a d b c : ByteArray) (rf rt f t : Nat) (hr : rf ≤ rt) (hrt : rt ≤ b.size + c.size) (hft : f ≤ t) (ht : t ≤ a.size + (rt - rf) + d.size) :
    (wholeB a.data.toList d.data.toList b.data.toList c.data.toList rf rt f t).length = t - f := by
  unfold wholeB
  rw [List.length_take, List.length_drop, size_whole a d b c rf rt hr hrt]
  omega

/-- The value that the law makes expands to the law's text. -/
theorem law_gives (a b c d : ByteArray) (rf rt f t : Nat) (w w1 : World) (ha : a.size ≤ 262144) (hb : b.size ≤ 262144) (hc : c.size ≤ 262144) (hd : d.size ≤ 262144)
    (hr : rf ≤ rt) (hrt : rt ≤ b.size + c.size) (hft : f ≤ t) (ht : t ≤ a.size + (rt - rf) + d.size) (x : Array Value) (ty : TypeId)
    (hmade : RefMade (textWorld w b c ⟨#[]⟩ rf rt) a d (some ⟨w.heap.size + 1 + 1, 0, none⟩) rf rt w1) :
    ∀ V, Below (w1.alloc (.cells x ty)).heap.size (w1.alloc (.cells x ty)) V → GivesAll (w.heap.size + 1 + 1 + 1 + 1 + 1 + 1 + 1) ((w1.alloc (.cells x ty)).heap.size + 1) f t (wholeB a.data.toList d.data.toList b.data.toList c.data.toList rf rt f t) V := by
  intro V hV
  obtain ⟨hbel, pb, hout⟩ := hmade
  have hsz : (textWorld w b c ⟨#[]⟩ rf rt).heap.size = w.heap.size + 1 + 1 + 1 := by simp only [textWorld, World.size_alloc]
  rw [hsz] at hout
  have hin := (text_node w b c ⟨#[]⟩ rf rt).ext (ext_below hbel)
  have hx : Below w1.heap.size w1 (w1.alloc (.cells x ty)) := (Below.refl _ _).alloc (Nat.le_refl _) _
  have hin2 := (hin.ext (ext_below hx)).ext (ext_below hV)
  have hout2 := (hout.ext (ext_below hx)).ext (ext_below hV)
  have q1 := block_lt (hin.ext (ext_below hx)).sl
  have q2 := block_lt ((hin.ext (ext_below hx)).text 0 (by omega))
  have q3 := block_lt (hout.ext (ext_below hx)).sl
  have q4 := block_lt ((hout.ext (ext_below hx)).text 0 (by omega))
  exact gives_all _ pb _ _ _ a d b c rf rt f t V hin2 (Nat.lt_succ_of_lt q1) (Nat.lt_succ_of_lt q2) hout2 (Nat.lt_succ_of_lt q3) (Nat.lt_succ_of_lt q4) ha hb hc hd hr hrt hft (by rw [size_whole a d b c rf rt hr hrt]; exact ht)

set_option maxHeartbeats 1000000 in
theorem law_in (a b c d : ByteArray) (rf rt f t : Nat) (w : World) (ha : a.size ≤ 262144) (hb : b.size ≤ 262144) (hc : c.size ≤ 262144) (hd : d.size ≤ 262144)
    (hr : rf ≤ rt) (hrt : rt ≤ b.size + c.size) (hft : f ≤ t) (ht : t ≤ a.size + (rt - rf) + d.size) :
    Calls Try.prog 4 #[.string a, .string b, .string c, .string d, .int .i64 rf, .int .i64 rt, .int .i64 f, .int .i64 t] w fun e w' => e = .returned (.bool true) ∧ Below w.heap.size w w' := by
  have HB : Hid (decide (a.size + b.size + c.size + d.size ≤ 1048576) = true) := decide_eq_true (by omega)
  have i1 : ¬ (rf : Int) < 0 := by omega
  have i2 : (rf : Int) ≤ (rt : Int) := by omega
  have i3 : (rt : Int) ≤ (b.size : Int) + (c.size : Int) := by omega
  have i4 : ¬ (f : Int) < 0 := by omega
  have i5 : (f : Int) ≤ (t : Int) := by omega
  have i6 : (t : Int) ≤ (a.size : Int) + ((rt - rf : Nat) : Int) + (d.size : Int) := by omega
  go_enter Try.func4, Try.ntmps4
  go_wp2_with fail
  refine (bytes8_is a b c d rf rt f t w (by unfold maxLen; omega) (by unfold maxLen; omega) (by unfold maxLen; omega) (by unfold maxLen; omega) HB.out).mono ?_
  rintro e wx ⟨rfl, hwx⟩
  subst wx
  go_wp2_with fail
  refine (newText b c ⟨#[]⟩ rf rt w hb hc (by decide)).mono ?_
  rintro e w' ⟨rfl, rfl⟩
  go_wp2_with fail
  refine (newRef a d _ rf rt f t _ (by omega) (by omega) (by omega)).mono ?_
  rintro e w1 ⟨rfl, hmade⟩
  have HG : Hid _ := law_gives a b c d rf rt f t w w1 ha hb hc hd hr hrt hft ht #[.pointer (some ⟨w.heap.size + 1 + 1 + 1 + 1 + 1 + 1 + 1, 0, none⟩), .int .i64 f, .int .i64 t] 35 hmade
  have hb1 : Below w.heap.size w w1 := by
    have hsz : (textWorld w b c ⟨#[]⟩ rf rt).heap.size = w.heap.size + 1 + 1 + 1 := by simp only [textWorld, World.size_alloc]
    have hq : Below w.heap.size w (textWorld w b c ⟨#[]⟩ rf rt) := (((Below.refl _ w).alloc (Nat.le_refl _) _).alloc (by simp) _).alloc (by simp; omega) _
    exact hq.trans (hmade.1.mono (by rw [hsz]; omega))
  clear hmade
  obtain ⟨out, hout⟩ : ∃ out, wholeB a.data.toList d.data.toList b.data.toList c.data.toList rf rt f t = out := ⟨_, rfl⟩
  have HT : Hid (((a ++ (b ++ c).extract rf rt ++ d).extract f t).data.toList = out ∧ out.length = t - f) :=
    ⟨(text_is a d b c rf rt f t).trans hout, by rw [← hout]; exact whole_length a d b c rf rt f t hr hrt hft ht⟩
  rw [hout] at HG
  clear hout
  go_wp2_with fail
  refine (toBuffer (w.heap.size + 1 + 1 + 1 + 1 + 1 + 1 + 1) f t out _ hft (by omega) HG.out).mono ?_
  rintro e w3 ⟨v, rfl, ⟨⟨p, ln, cp, rfl⟩, hcv⟩, hbel⟩
  have hlt : w1.heap.size < (w1.alloc (.cells #[.pointer (some ⟨w.heap.size + 1 + 1 + 1 + 1 + 1 + 1 + 1, 0, none⟩), .int .i64 f, .int .i64 t] 35)).heap.size := by simp
  have g0 : w3.cell? ⟨w1.heap.size, 0, none⟩ = some (.pointer (some ⟨w.heap.size + 1 + 1 + 1 + 1 + 1 + 1 + 1, 0, none⟩)) := (hbel.cell (p := ⟨w1.heap.size, 0, none⟩) hlt).trans (by go_simp)
  have g1 : w3.cell? ⟨w1.heap.size, 1, none⟩ = some (.int .i64 f) := (hbel.cell (p := ⟨w1.heap.size, 1, none⟩) hlt).trans (by go_simp)
  have g2 : w3.cell? ⟨w1.heap.size, 2, none⟩ = some (.int .i64 t) := (hbel.cell (p := ⟨w1.heap.size, 2, none⟩) hlt).trans (by go_simp)
  have hcv2 := hcv #[.pointer (some ⟨w.heap.size + 1 + 1 + 1 + 1 + 1 + 1 + 1, 0, none⟩), .int .i64 f, .int .i64 t] 35
  have HE : Hid (Below w.heap.size w w3) := (hb1.alloc hb1.size _).trans (hbel.mono (by have := hb1.size; simp; omega))
  clear hcv hbel hb1 HG hlt
  rw [HT.out.2]
  have hstr : (out == ((a ++ (b ++ c).extract rf rt ++ d).extract f t).toList) = true := by
    rw [Lib.toList_data, HT.out.1, beq_iff_eq]
  go_wp2_with fail
  refine (lenWalk _ f t w3 (by omega) (by omega) (by omega)).mono ?_
  rintro e w4 ⟨rfl, rfl⟩
  rw [show (t : Int) - (f : Int) = ((t - f : Nat) : Int) by omega]
  go_wp2_with fail
  go_ret
  exact ⟨rfl, HE.out.alloc HE.out.size _⟩

theorem law_all (a b c d : ByteArray) (x y z u : Int) (w : World) (ha : a.size ≤ maxLen) (hb : b.size ≤ maxLen) (hc : c.size ≤ maxLen) (hd : d.size ≤ maxLen) :
    Calls Try.prog 4 #[.string a, .string b, .string c, .string d, .int .i64 x, .int .i64 y, .int .i64 z, .int .i64 u] w fun e w' => e = .returned (.bool true) ∧ Below w.heap.size w w' := by
  by_cases hs : a.size ≤ 262144 ∧ b.size ≤ 262144 ∧ c.size ≤ 262144 ∧ d.size ≤ 262144
  · obtain ⟨s0, s1, s2, s3⟩ := hs
    by_cases hr : 0 ≤ x ∧ x ≤ y ∧ y ≤ b.size + c.size
    · obtain ⟨rf, rfl⟩ : ∃ rf : Nat, x = rf := ⟨x.toNat, by omega⟩
      obtain ⟨rt, rfl⟩ : ∃ rt : Nat, y = rt := ⟨y.toNat, by omega⟩
      by_cases ht : 0 ≤ z ∧ z ≤ u ∧ u ≤ (a.size : Int) + ((rt - rf : Nat) : Int) + (d.size : Int)
      · obtain ⟨f, rfl⟩ : ∃ f : Nat, z = f := ⟨z.toNat, by omega⟩
        obtain ⟨t, rfl⟩ : ∃ t : Nat, u = t := ⟨u.toNat, by omega⟩
        exact law_in a b c d rf rt f t w s0 s1 s2 s3 (by omega) (by omega) (by omega) (by omega)
      · exact law_trim a b c d rf rt z u w s0 s1 s2 s3 (by omega) (by omega) ht
    · exact law_ref a b c d x y z u w s0 s1 s2 s3 hr
  · exact law_out a b c d x y z u w ha hb hc hd hs
end Go.Proofs.Qxb6618498a
