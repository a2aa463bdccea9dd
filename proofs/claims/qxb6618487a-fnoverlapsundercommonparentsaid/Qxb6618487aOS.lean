/-
  The walk of 'segPrefix'.
-/
import Derived.Test.Qxb6618487aOB
namespace Go.Proofs.Qxb6618487a
open Go.RowKit

/-- From p to k of the string a there is no dot. -/
structure Seg (a : ByteArray) (p k : Nat) : Prop where
  le : p ≤ k
  top : k ≤ a.size
  nd : nodot ((a.data.toList.drop p).take (k - p))

theorem Seg.start {a : ByteArray} {p : Nat} (h : p ≤ a.size) : Seg a p p := ⟨Nat.le_refl _, h, by rw [Nat.sub_self]; intro c hc; simp at hc⟩

theorem drop_at (a : ByteArray) (k : Nat) (h : k < a.size) : a.data.toList.drop k = a[k] :: a.data.toList.drop (k + 1) := by
  rw [List.drop_eq_getElem_cons (by rw [← Lib.size_eq]; exact h)]
  rfl

theorem split_at (l : List UInt8) {p k : Nat} (h : p ≤ k) : l.drop p = (l.drop p).take (k - p) ++ l.drop k := by
  have e : l.drop k = (l.drop p).drop (k - p) := by rw [List.drop_drop]; congr 1; omega
  rw [e, List.take_append_drop]

theorem Seg.next {a : ByteArray} {p k : Nat} (s : Seg a p k) (h : k < a.size) (hd : (a[k].toNat : Int) ≠ 46) : Seg a p (k + 1) := by
  refine ⟨Nat.le_succ_of_le s.le, h, ?_⟩
  have hl := s.le
  have hz : k - p < (a.data.toList.drop p).length := by rw [List.length_drop, ← Lib.size_eq]; omega
  have e : k + 1 - p = (k - p) + 1 := by omega
  rw [e, List.take_succ_eq_append_getElem hz]
  intro c hc
  rcases List.mem_append.1 hc with h1 | h1
  · exact s.nd c h1
  · rw [List.mem_singleton] at h1
    have e2 : c = a[k] := by
      rw [h1, List.getElem_drop]
      have e4 : p + (k - p) = k := by omega
      show a.data.toList[p + (k - p)]'(by rw [← Lib.size_eq]; omega) = a.data.toList[k]'(by rw [← Lib.size_eq]; omega)
      simp only [e4]
    rw [e2]
    intro e3
    rw [e3] at hd
    exact hd rfl

theorem atdot_end (a : ByteArray) : atdot (a.data.toList.drop a.size) := Or.inl (by rw [Lib.size_eq]; exact List.drop_length)
theorem eq46 {c : UInt8} (h : (c.toNat : Int) = 46) : c = 46 := by apply UInt8.toNat_inj.1; exact Int.ofNat.inj h
theorem atdot_dot (a : ByteArray) (k : Nat) (h : k < a.size) (hd : (a[k].toNat : Int) = 46) : a.data.toList.drop k = 46 :: a.data.toList.drop (k + 1) := by
  rw [drop_at a k h, eq46 hd]

/-- A segment that ends at the string's end or at a dot. -/
def Ends (a : ByteArray) (k : Nat) : Prop := k = a.size ∨ ∃ h : k < a.size, (a[k].toNat : Int) = 46
theorem Ends.atdot {a : ByteArray} {k : Nat} (h : Ends a k) : atdot (a.data.toList.drop k) := by
  rcases h with rfl | ⟨h, hd⟩
  · exact atdot_end a
  · exact Or.inr ⟨_, atdot_dot a k h hd⟩

section
variable {a b : ByteArray} {p k q m : Nat}

theorem r_part (s : Seg a p k) (t : Seg b q m) (hk : Ends a k) (hm : Ends b m) (h : ((a.extract p k).toList != (b.extract q m).toList) = true) :
    sp (a.data.toList.drop p) (b.data.toList.drop q) = false := by
  rw [split_at a.data.toList s.le, split_at b.data.toList t.le]
  refine sp_ne s.nd t.nd hk.atdot hm.atdot ?_
  rw [Lib.extract_toList, Lib.extract_toList] at h
  simpa using h

theorem r_same (s : Seg a p k) (t : Seg b q m) (h : ((a.extract p k).toList != (b.extract q m).toList) = false) :
    sp (a.data.toList.drop p) (b.data.toList.drop q) = sp ((b.data.toList.drop q).take (m - q) ++ a.data.toList.drop k) ((b.data.toList.drop q).take (m - q) ++ b.data.toList.drop m) := by
  rw [Lib.extract_toList, Lib.extract_toList] at h
  have e : (a.data.toList.drop p).take (k - p) = (b.data.toList.drop q).take (m - q) := by simpa using h
  rw [← e, ← split_at a.data.toList s.le, e, ← split_at b.data.toList t.le]

theorem r_end (s : Seg a p k) (t : Seg b q m) (hk : k = a.size) (hm : Ends b m) (h : ((a.extract p k).toList != (b.extract q m).toList) = false) :
    sp (a.data.toList.drop p) (b.data.toList.drop q) = true := by
  rw [r_same s t h, hk, Lib.size_eq a, List.drop_length, List.append_nil]
  exact sp_end hm.atdot

theorem r_long (s : Seg a p k) (t : Seg b q m) (hk : k < a.size) (hd : (a[k].toNat : Int) = 46) (hm : m = b.size) (h : ((a.extract p k).toList != (b.extract q m).toList) = false) :
    sp (a.data.toList.drop p) (b.data.toList.drop q) = false := by
  rw [r_same s t h, atdot_dot a k hk hd, hm, Lib.size_eq b, List.drop_length, List.append_nil]
  exact sp_long _ _

theorem r_on (s : Seg a p k) (t : Seg b q m) (hk : k < a.size) (hd : (a[k].toNat : Int) = 46) (hm : m < b.size) (he : (b[m].toNat : Int) = 46) (h : ((a.extract p k).toList != (b.extract q m).toList) = false) :
    sp (a.data.toList.drop p) (b.data.toList.drop q) = sp (a.data.toList.drop (k + 1)) (b.data.toList.drop (m + 1)) := by
  rw [r_same s t h, atdot_dot a k hk hd, atdot_dot b m hm he]
  exact sp_common _ _ _
end

/-- The Go function 'segPrefix', over its two strings. -/
def seg (a b : ByteArray) : Bool := sp a.data.toList b.data.toList

set_option maxHeartbeats 1000000 in
theorem segWalk (a b : ByteArray) (w : World) (ha : a.size ≤ maxLen) (hb : b.size ≤ maxLen) :
    Calls Try.prog 27 #[.string a, .string b] w fun e w' => e = .returned (.bool (seg a b)) ∧ ∃ n, w' = w.drewN n := by
  unfold maxLen at ha hb
  go_enter Try.func27, Try.ntmps27
  go_wp2
  go_loopw [5, 6] (fun i j wr => ∃ p q n : Nat, p ≤ a.size ∧ q ≤ b.size ∧ i = .int .i64 p ∧ j = .int .i64 q ∧ wr = w.drewN n ∧ seg a b = sp (a.data.toList.drop p) (b.data.toList.drop q)) (fun i _ _ => a.size + 1 - (intOf i).toNat)
  case atStart => exact ⟨0, 0, 0, Nat.zero_le _, Nat.zero_le _, rfl, rfl, rfl, rfl⟩
  case round =>
    obtain ⟨p, q, n, hp, hq, rfl, rfl, rfl, hs⟩ := hrel
    have HS : Hid (seg a b = sp (a.data.toList.drop p) (b.data.toList.drop q)) := hs
    clear hs
    go_wp2
    go_loop [7] (fun e => ∃ k : Nat, e = .int .i64 k ∧ Seg a p k) (fun e => a.size - (intOf e).toNat)
    case atStart => exact ⟨p, rfl, Seg.start hp⟩
    case round =>
      obtain ⟨k, rfl, sk⟩ := hrel
      have hk := sk.top
      have hpk := sk.le
      by_cases hlt : k < a.size
      · by_cases hd : ((a[k].toNat : Int) != 46) = true
        · go_wp2
          go_round
          case rel => exact ⟨k + 1, by go_num, sk.next hlt (by simpa using hd)⟩
          case measure => simp [intOf]; omega
        · have hd' : ((a[k].toNat : Int) != 46) = false := by simpa using hd
          go_wp2
          go_loop [8] (fun e => ∃ m : Nat, e = .int .i64 m ∧ Seg b q m) (fun e => b.size - (intOf e).toNat)
          case atStart => exact ⟨q, rfl, Seg.start hq⟩
          case round =>
            obtain ⟨m, rfl, sm⟩ := hrel
            have hm := sm.top
            have hqm := sm.le
            by_cases hlm : m < b.size
            · by_cases he : ((b[m].toNat : Int) != 46) = true
              · go_wp2
                go_round
                case rel => exact ⟨m + 1, by go_num, sm.next hlm (by simpa using he)⟩
                case measure => simp [intOf]; omega
              · have he' : ((b[m].toNat : Int) != 46) = false := by simpa using he
                go_wp2
                have i1 : (p : Int) ≤ (k : Int) := by omega
                have i2 : (k : Int) ≤ (a.size : Int) := by omega
                have i3 : (q : Int) ≤ (m : Int) := by omega
                have i4 : (m : Int) ≤ (b.size : Int) := by omega
                have HG : Hid (Seg a p k ∧ Seg b q m) := ⟨sk, sm⟩
                have HDA : Hid ((a[k].toNat : Int) = 46) := by show _ = _; simpa using hd
                have HDB : Hid ((b[m].toNat : Int) = 46) := by show _ = _; simpa using he
                clear sk sm
                by_cases hc : ((a.extract p k).toList != (b.extract q m).toList) = true
                · have HR : Hid (sp (a.data.toList.drop p) (b.data.toList.drop q) = false) := r_part HG.out.1 HG.out.2 (Or.inr ⟨hlt, HDA.out⟩) (Or.inr ⟨hlm, HDB.out⟩) hc
                  have hcb : ((a.extract p k).toList == (b.extract q m).toList) = false := by simpa [bne] using hc
                  go_quiet (fail)
                  go_wp2
                  go_ret
                  refine ⟨?_, n + nq, ?_⟩
                  · rw [HS.out, HR.out]; rfl
                  · first | rfl | exact World.drewN_drewN ..
                · have hc' : ((a.extract p k).toList != (b.extract q m).toList) = false := by simpa using hc
                  have hcb : ((a.extract p k).toList == (b.extract q m).toList) = true := by simpa [bne] using hc
                  have HR : Hid (sp (a.data.toList.drop p) (b.data.toList.drop q) = sp (a.data.toList.drop (k + 1)) (b.data.toList.drop (m + 1))) := r_on HG.out.1 HG.out.2 hlt HDA.out hlm HDB.out hc'
                  have bz : ((k : Int) == (a.size : Int)) = false := by rw [beq_eq_false_iff_ne]; omega
                  have bm : ((m : Int) == (b.size : Int)) = false := by rw [beq_eq_false_iff_ne]; omega
                  go_quiet (fail)
                  go_wp2
                  go_roundw
                  case rel => exact ⟨k + 1, m + 1, n + nq, by omega, by omega, by go_num, by go_num, rfl, HS.out.trans HR.out⟩
                  case measure => simp [intOf]; omega
            · go_wp2
              have i1 : (p : Int) ≤ (k : Int) := by omega
              have i2 : (k : Int) ≤ (a.size : Int) := by omega
              have i3 : (q : Int) ≤ (m : Int) := by omega
              have i4 : (m : Int) ≤ (b.size : Int) := by omega
              have HG : Hid (Seg a p k ∧ Seg b q m) := ⟨sk, sm⟩
              have HDA : Hid ((a[k].toNat : Int) = 46) := by show _ = _; simpa using hd
              clear sk sm
              by_cases hc : ((a.extract p k).toList != (b.extract q m).toList) = true
              · have HR : Hid (sp (a.data.toList.drop p) (b.data.toList.drop q) = false) := r_part HG.out.1 HG.out.2 (Or.inr ⟨hlt, HDA.out⟩) (Or.inl (by omega)) hc
                have hcb : ((a.extract p k).toList == (b.extract q m).toList) = false := by simpa [bne] using hc
                go_quiet (fail)
                go_wp2
                go_ret
                refine ⟨?_, n + nq, ?_⟩
                · rw [HS.out, HR.out]; rfl
                · first | rfl | exact World.drewN_drewN ..
              · have hc' : ((a.extract p k).toList != (b.extract q m).toList) = false := by simpa using hc
                have hcb : ((a.extract p k).toList == (b.extract q m).toList) = true := by simpa [bne] using hc
                have HR : Hid (sp (a.data.toList.drop p) (b.data.toList.drop q) = false) := r_long HG.out.1 HG.out.2 hlt HDA.out (by omega) hc'
                have bz : ((k : Int) == (a.size : Int)) = false := by rw [beq_eq_false_iff_ne]; omega
                have bm : ((m : Int) == (b.size : Int)) = true := by rw [beq_iff_eq]; omega
                go_quiet (fail)
                go_wp2
                go_ret
                refine ⟨?_, n + nq, ?_⟩
                · rw [HS.out, HR.out]; rfl
                · first | rfl | exact World.drewN_drewN ..
      · go_wp2
        go_loop [8] (fun e => ∃ m : Nat, e = .int .i64 m ∧ Seg b q m) (fun e => b.size - (intOf e).toNat)
        case atStart => exact ⟨q, rfl, Seg.start hq⟩
        case round =>
          obtain ⟨m, rfl, sm⟩ := hrel
          have hm := sm.top
          have hqm := sm.le
          by_cases hlm : m < b.size
          · by_cases he : ((b[m].toNat : Int) != 46) = true
            · go_wp2
              go_round
              case rel => exact ⟨m + 1, by go_num, sm.next hlm (by simpa using he)⟩
              case measure => simp [intOf]; omega
            · have he' : ((b[m].toNat : Int) != 46) = false := by simpa using he
              go_wp2
              have i1 : (p : Int) ≤ (k : Int) := by omega
              have i2 : (k : Int) ≤ (a.size : Int) := by omega
              have i3 : (q : Int) ≤ (m : Int) := by omega
              have i4 : (m : Int) ≤ (b.size : Int) := by omega
              have HG : Hid (Seg a p k ∧ Seg b q m) := ⟨sk, sm⟩
              have HDB : Hid ((b[m].toNat : Int) = 46) := by show _ = _; simpa using he
              clear sk sm
              by_cases hc : ((a.extract p k).toList != (b.extract q m).toList) = true
              · have HR : Hid (sp (a.data.toList.drop p) (b.data.toList.drop q) = false) := r_part HG.out.1 HG.out.2 (Or.inl (by omega)) (Or.inr ⟨hlm, HDB.out⟩) hc
                have hcb : ((a.extract p k).toList == (b.extract q m).toList) = false := by simpa [bne] using hc
                go_quiet (fail)
                go_wp2
                go_ret
                refine ⟨?_, n + nq, ?_⟩
                · rw [HS.out, HR.out]; rfl
                · first | rfl | exact World.drewN_drewN ..
              · have hc' : ((a.extract p k).toList != (b.extract q m).toList) = false := by simpa using hc
                have hcb : ((a.extract p k).toList == (b.extract q m).toList) = true := by simpa [bne] using hc
                have HR : Hid (sp (a.data.toList.drop p) (b.data.toList.drop q) = true) := r_end HG.out.1 HG.out.2 (by omega) (Or.inr ⟨hlm, HDB.out⟩) hc'
                have bz : ((k : Int) == (a.size : Int)) = true := by rw [beq_iff_eq]; omega
                go_quiet (fail)
                go_wp2
                go_ret
                refine ⟨?_, n + nq, ?_⟩
                · rw [HS.out, HR.out]; rfl
                · first | rfl | exact World.drewN_drewN ..
          · go_wp2
            have i1 : (p : Int) ≤ (k : Int) := by omega
            have i2 : (k : Int) ≤ (a.size : Int) := by omega
            have i3 : (q : Int) ≤ (m : Int) := by omega
            have i4 : (m : Int) ≤ (b.size : Int) := by omega
            have HG : Hid (Seg a p k ∧ Seg b q m) := ⟨sk, sm⟩
            clear sk sm
            by_cases hc : ((a.extract p k).toList != (b.extract q m).toList) = true
            · have HR : Hid (sp (a.data.toList.drop p) (b.data.toList.drop q) = false) := r_part HG.out.1 HG.out.2 (Or.inl (by omega)) (Or.inl (by omega)) hc
              have hcb : ((a.extract p k).toList == (b.extract q m).toList) = false := by simpa [bne] using hc
              go_quiet (fail)
              go_wp2
              go_ret
              refine ⟨?_, n + nq, ?_⟩
              · rw [HS.out, HR.out]; rfl
              · first | rfl | exact World.drewN_drewN ..
            · have hc' : ((a.extract p k).toList != (b.extract q m).toList) = false := by simpa using hc
              have hcb : ((a.extract p k).toList == (b.extract q m).toList) = true := by simpa [bne] using hc
              have HR : Hid (sp (a.data.toList.drop p) (b.data.toList.drop q) = true) := r_end HG.out.1 HG.out.2 (by omega) (Or.inl (by omega)) hc'
              have bz : ((k : Int) == (a.size : Int)) = true := by rw [beq_iff_eq]; omega
              go_quiet (fail)
              go_wp2
              go_ret
              refine ⟨?_, n + nq, ?_⟩
              · rw [HS.out, HR.out]; rfl
              · first | rfl | exact World.drewN_drewN ..
end Go.Proofs.Qxb6618487a
