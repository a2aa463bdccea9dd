/-
  The length of a part; the walk of 'each', over whatever the rounds keep true.
-/
import Derived.RangeFuncNested
import Derived.RangeFuncBound
import Derived.RangeFuncCalls
import Derived.RangeFuncLeaves
import Derived.Shelf.Abstract
import Derived.Shelf.RegionOpen
import Derived.OwnWalkIn
import Derived.TacticsInMore
import Derived.LoopNIn
import Derived.LoopIn
import Derived.Test.Qxb6618498aPL
import Derived.Lib.Strings
namespace Go.Proofs.Qxb6618498a
open Go.RowKit Go.Shelf
attribute [local go_sem] Oper.semAt_some

set_option maxHeartbeats 400000 in
theorem partText (t : ByteArray) (f u : Int) (w : World) :
    Calls Try.prog 25 #[.agg #[.string t, .pointer none, .int .i64 f, .int .i64 u]] w fun e w' =>
      e = .returned (.int .i64 t.size) ∧ w.alloc (.cells #[.string t, .pointer none, .int .i64 f, .int .i64 u] 45) = w' := by
  go_enter Try.func25, Try.ntmps25
  go_wp2_with fail
  go_ret
  exact ⟨rfl, rfl⟩

set_option maxHeartbeats 400000 in
theorem partRef (t : ByteArray) (a : Addr) (f u : Int) (w : World) (h0 : 0 ≤ f) (h1 : f ≤ u) (h2 : u ≤ 4611686018427387904) :
    Calls Try.prog 25 #[.agg #[.string t, .pointer (some a), .int .i64 f, .int .i64 u]] w fun e w' =>
      e = .returned (.int .i64 (u - f)) ∧ (w.alloc (.cells #[.string t, .pointer (some a), .int .i64 f, .int .i64 u] 45)).alloc (.cells #[.pointer (some a), .int .i64 f, .int .i64 u] 35) = w' := by
  go_enter Try.func25, Try.ntmps25
  go_wp2_with fail
  refine (lenWalk _ _ _ _ h0 h1 h2).mono ?_
  rintro e w' ⟨rfl, rfl⟩
  go_wp2_with fail
  go_ret
  exact ⟨rfl, rfl⟩

theorem noDepth (k : Nat) : Fence.wide.depth.isSome = true → 1 ≤ k := fun h => by cases h

/-- What the rounds keep true: it abides new blocks of cells and draws. -/
structure Abides (J : List UInt8 → World → Prop) : Prop where
  alloc : ∀ q V c t, J q V → J q (V.alloc (.cells c t))
  drew : ∀ q V, J q V → J q V.drew

/-- A round at whatever string: yield takes it, and says 'more'. -/
def Yields (l : Nat) (M : Nat) (J : List UInt8 → World → Prop) : Prop :=
  ∀ m q V (x : ByteArray), J q V → q.length + x.size ≤ M → YieldAt Fence.wide m Try.prog l #[.string x] V fun e V' => e = .returned (.bool true) ∧ J (q ++ x.data.toList) V'

/-- Part k gives the bytes b: they are its text; or its reference gives them. -/
def Gives (l M : Nat) (J : List UInt8 → World → Prop) (t : ByteArray) (r : Option Addr) (f u : Int) (b : List UInt8) : Prop :=
  (r = none ∧ b = t.data.toList ∧ t.size ≤ 1048576) ∨
  ∃ ad, r = some ad ∧ 0 ≤ f ∧ u = f + (b.length : Int) ∧ u ≤ 1048576 ∧ ∀ n q V (s tk : Nat), J q V → s + tk ≤ b.length → q.length + tk ≤ M →
    CallsIn Fence.wide n Try.prog 22 #[.pointer (some ad), .int .i64 (f + (s : Int)), .int .i64 (tk : Int), .func (.yield l) #[] #[]] V fun e V' => e = .returned (.bool true) ∧ J (q ++ (b.drop s).take tk) V'

set_option maxHeartbeats 2000000 in
theorem eachWalk (n l M nb pb : Nat) (T : Nat → ByteArray) (R : Nat → Option Addr) (F U : Nat → Int) (tb : Nat → List UInt8) (skip limit : Nat) (J : List UInt8 → World → Prop) (pre : List UInt8) (W : World)
    (hA : Abides J) (hY : Yields l M J) (hG : ∀ i, i < 3 → Gives l M J (T i) (R i) (F i) (U i) (tb i))
    (hnode : ∀ q V, J q V → NodeIs V nb pb T R F U) (hJ : J pre W) (hs : skip + limit ≤ (tailB tb 0).length) (hlen : (tailB tb 0).length ≤ 1048576) (hM : pre.length + limit ≤ M) :
    CallsIn Fence.wide n Try.prog 22 #[.pointer (some ⟨nb, 0, none⟩), .int .i64 skip, .int .i64 limit, .func (.yield l) #[] #[]] W fun e W' =>
      e = .returned (.bool true) ∧ J (pre ++ restOf tb 0 skip limit) W' := by
  obtain ⟨c0, c2, c3, _, _, _, _⟩ := hnode _ _ hJ
  have HJ : Hid (J pre W) := hJ
  have HA : Hid (Abides J ∧ Yields l M J ∧ (∀ i, i < 3 → Gives l M J (T i) (R i) (F i) (U i) (tb i)) ∧ ∀ q V, J q V → NodeIs V nb pb T R F U) := ⟨hA, hY, hG, hnode⟩
  clear hJ hA hY hG hnode
  refine callsIn_of_wp Try.func22 rfl trivial ?_ rfl
  simp only [Try.ntmps22, List.size_toArray, List.length_cons, List.length_nil, Nat.reduceAdd, Nat.reduceSub, Array.replicate_succ, Array.replicate_zero, List.push_toArray, List.append_toArray, List.nil_append, List.cons_append]
  gi_wp2
  clear c0 c2 c3
  gi_loopw [1, 2, 51] (fun sk lm i wr => ∃ (k s m : Nat) (q : List UInt8), k ≤ 3 ∧ i = .int .i64 k ∧ sk = .int .i64 s ∧ lm = .int .i64 m ∧ J q wr ∧ q ++ restOf tb k s m = pre ++ restOf tb 0 skip limit ∧ s + m ≤ (tailB tb k).length ∧ (tailB tb k).length ≤ 1048576 ∧ q.length + m ≤ M)
    (fun _ _ i _ => 3 - (intOf i).toNat)
  case atStart => exact ⟨0, skip, limit, pre, by omega, rfl, rfl, rfl, HJ.out, rfl, hs, hlen, hM⟩
  case round =>
    obtain ⟨k, s, m, q, hk, rfl, rfl, rfl, hJ, heq, hsm, hl, hqm⟩ := hrel
    have HQ : Hid (J q wr ∧ q ++ restOf tb k s m = pre ++ restOf tb 0 skip limit) := ⟨hJ, heq⟩
    clear hJ heq HJ hs hlen hM
    by_cases hk3 : k < 3
    · obtain ⟨_, _, _, ht, hr, hf, hu⟩ := HA.out.2.2.2 _ _ HQ.out.1
      have d0 := ht k hk3
      have d1 := hr k hk3
      have d2 := hf k hk3
      have d3 := hu k hk3
      rw [Nat.mul_comm 4 k] at d0 d1 d2 d3
      clear ht hr hf hu
      have i3 : (k : Int) < 3 := by omega
      have HG : Hid (Gives l M J (T k) (R k) (F k) (U k) (tb k)) := HA.out.2.2.1 k hk3
      by_cases hm : m = 0
      · have hm0 : ((m : Int) == 0) = true := by rw [beq_iff_eq]; omega
        have HE : Hid (q = pre ++ restOf tb 0 skip limit) := by
          have := HQ.out.2
          rw [hm, rest_zero, List.append_nil] at this
          exact this
        clear hm
        gi_wp2
        go_ret
        refine ⟨rfl, ?_⟩
        rw [← HE.out]
        exact HA.out.1.alloc _ _ _ _ HQ.out.1
      · have hm0 : ((m : Int) == 0) = false := by rw [beq_eq_false_iff_ne]; omega
        rcases HG.out with ⟨hr0, hb0, htz⟩ | ⟨ad, hr0, hf0, hu0, hu1, hcall⟩
        · -- a text
          rw [hr0] at d1
          have hlenk : (tb k).length = (T k).size := by rw [hb0, ← Lib.size_eq]
          by_cases hsk : (T k).size ≤ s
          · have HS : Hid (restOf tb k s m = restOf tb (k + 1) (s - (tb k).length) m ∧ s - (tb k).length + m ≤ (tailB tb (k + 1)).length) := rest_skip hk3 (by omega) hsm
            have HT : Hid ((tailB tb (k + 1)).length ≤ 1048576) := by
              show _ ≤ _
              have := tailB_step tb k hk3
              rw [this, List.length_append] at hl
              omega
            have HLn : Hid ((tb k).length = (T k).size) := hlenk
            clear hb0 hr0 hlenk
            have i4 : ((T k).size : Int) ≤ (s : Int) := by omega
            have i5 : (s : Int) ≤ 1048576 := by omega
            gi_wp2_with fail
            refine ⟨trivial, noDepth _, ?_⟩
            refine (callsIn_wide.2 (partText (T k) (F k) (U k) _)).mono ?_
            rintro e w' ⟨rfl, rfl⟩
            gi_wp2_with fail
            go_roundw
            case rel =>
              refine ⟨k + 1, s - (T k).size, m, q, by omega, by go_num, by congr 1; omega, rfl, HA.out.1.alloc _ _ _ _ (HA.out.1.alloc _ _ _ _ HQ.out.1), ?_, ?_, HT.out, hqm⟩
              · rw [← HQ.out.2, HS.out.1, HLn.out]
              · rw [← HLn.out]; exact HS.out.2
            case measure => simp [intOf]; omega
          · -- a piece of it
            have HT : Hid ((tailB tb (k + 1)).length ≤ 1048576) := by
              show _ ≤ _
              have := tailB_step tb k hk3
              rw [this, List.length_append] at hl
              omega
            have i4 : ¬ ((T k).size : Int) ≤ (s : Int) := by omega
            have i5 : (s : Int) ≤ 1048576 := by omega
            by_cases hmin : (T k).size - s ≤ m
            · -- to the text's end
              have HS : Hid (restOf tb k s m = ((tb k).drop s).take ((T k).size - s) ++ restOf tb (k + 1) 0 (m - ((T k).size - s)) ∧ 0 + (m - ((T k).size - s)) ≤ (tailB tb (k + 1)).length) := rest_take hk3 (by omega) (by omega) hsm
              have HP : Hid (((T k).extract s (s + ((T k).size - s))).data.toList = ((tb k).drop s).take ((T k).size - s)) := by
                show _ = _
                rw [Lib.extract_data, hb0, show (s + ((T k).size - s)) - s = ((T k).size - s) by omega]
              have HZ : Hid (((T k).extract s (s + ((T k).size - s))).size = ((T k).size - s)) := by
                show _ = _
                rw [Lib.size_eq, HP.out, List.length_take, List.length_drop]
                omega
              have i8 : ((T k).size : Int) - (s : Int) ≤ (m : Int) := by omega
              have HJ1 : Hid (J q ((wr.alloc (.cells #[.string (T k), .pointer none, .int .i64 (F k), .int .i64 (U k)] 45)).alloc (.cells #[.string (T k), .pointer none, .int .i64 (F k), .int .i64 (U k)] 45))) := HA.out.1.alloc _ _ _ _ (HA.out.1.alloc _ _ _ _ HQ.out.1)
              obtain ⟨fn, tmps, assign, body, hy, hR⟩ := HA.out.2.1 (n - 1) q _ ((T k).extract s (s + ((T k).size - s))) HJ1.out (by rw [HZ.out]; omega)
              have HR : Hid (RoundIn Fence.wide (n - 1) Try.prog l fn tmps assign body ((wr.alloc (.cells #[.string (T k), .pointer none, .int .i64 (F k), .int .i64 (U k)] 45)).alloc (.cells #[.string (T k), .pointer none, .int .i64 (F k), .int .i64 (U k)] 45)) fun e V' => e = .returned (.bool true) ∧ J (q ++ ((T k).extract s (s + ((T k).size - s))).data.toList) V') := hR
              clear hb0 hr0 hlenk hR
              gi_wp2_with fail
              refine ⟨trivial, noDepth _, ?_⟩
              refine (callsIn_wide.2 (partText (T k) (F k) (U k) _)).mono ?_
              rintro e w' ⟨rfl, rfl⟩
              gi_wp2_with fail
              refine ⟨noDepth _, ?_⟩
              refine HR.out.mono ?_
              rintro e V' ⟨rfl, hJ'⟩
              have HV : Hid (J (q ++ ((T k).extract s (s + ((T k).size - s))).data.toList) V') := hJ'
              clear hJ' HR hy
              gi_wp2_with fail
              go_roundw
              case rel =>
                refine ⟨k + 1, 0, m - ((T k).size - s), q ++ ((T k).extract s (s + ((T k).size - s))).data.toList, by omega, by go_num, rfl, by congr 1; omega, HV.out, ?_, HS.out.2, HT.out, ?_⟩
                · rw [← HQ.out.2, HS.out.1, HP.out, List.append_assoc]
                · rw [List.length_append, ← Lib.size_eq, HZ.out]; omega
              case measure => simp [intOf]; omega
            · -- as many as are wanted
              have HS : Hid (restOf tb k s m = ((tb k).drop s).take m ++ restOf tb (k + 1) 0 (m - m) ∧ 0 + (m - m) ≤ (tailB tb (k + 1)).length) := rest_take hk3 (by omega) (by omega) hsm
              have HP : Hid (((T k).extract s (s + m)).data.toList = ((tb k).drop s).take m) := by
                show _ = _
                rw [Lib.extract_data, hb0, show (s + m) - s = m by omega]
              have HZ : Hid (((T k).extract s (s + m)).size = m) := by
                show _ = _
                rw [Lib.size_eq, HP.out, List.length_take, List.length_drop]
                omega
              have i8 : (m : Int) < ((T k).size : Int) - (s : Int) := by omega
              have i9 : ¬ ((T k).size : Int) - (s : Int) ≤ (m : Int) := by omega
              have HJ1 : Hid (J q ((wr.alloc (.cells #[.string (T k), .pointer none, .int .i64 (F k), .int .i64 (U k)] 45)).alloc (.cells #[.string (T k), .pointer none, .int .i64 (F k), .int .i64 (U k)] 45))) := HA.out.1.alloc _ _ _ _ (HA.out.1.alloc _ _ _ _ HQ.out.1)
              obtain ⟨fn, tmps, assign, body, hy, hR⟩ := HA.out.2.1 (n - 1) q _ ((T k).extract s (s + m)) HJ1.out (by rw [HZ.out]; omega)
              have HR : Hid (RoundIn Fence.wide (n - 1) Try.prog l fn tmps assign body ((wr.alloc (.cells #[.string (T k), .pointer none, .int .i64 (F k), .int .i64 (U k)] 45)).alloc (.cells #[.string (T k), .pointer none, .int .i64 (F k), .int .i64 (U k)] 45)) fun e V' => e = .returned (.bool true) ∧ J (q ++ ((T k).extract s (s + m)).data.toList) V') := hR
              clear hb0 hr0 hlenk hR
              gi_wp2_with fail
              refine ⟨trivial, noDepth _, ?_⟩
              refine (callsIn_wide.2 (partText (T k) (F k) (U k) _)).mono ?_
              rintro e w' ⟨rfl, rfl⟩
              gi_wp2_with fail
              refine ⟨noDepth _, ?_⟩
              refine HR.out.mono ?_
              rintro e V' ⟨rfl, hJ'⟩
              have HV : Hid (J (q ++ ((T k).extract s (s + m)).data.toList) V') := hJ'
              clear hJ' HR hy
              gi_wp2_with fail
              go_roundw
              case rel =>
                refine ⟨k + 1, 0, m - m, q ++ ((T k).extract s (s + m)).data.toList, by omega, by go_num, rfl, by congr 1; omega, HV.out, ?_, HS.out.2, HT.out, ?_⟩
                · rw [← HQ.out.2, HS.out.1, HP.out, List.append_assoc]
                · rw [List.length_append, ← Lib.size_eq, HZ.out]; omega
              case measure => simp [intOf]; omega
        · -- a reference
          rw [hr0] at d1
          have HU : Hid (U k - F k = ((tb k).length : Int)) := by show _ = _; omega
          have hfu : F k ≤ U k := by omega
          have hfk : F k ≤ 1048576 := by omega
          have hlk : (tb k).length ≤ 1048576 := by omega
          have HT : Hid ((tailB tb (k + 1)).length ≤ 1048576) := by
            show _ ≤ _
            have := tailB_step tb k hk3
            rw [this, List.length_append] at hl
            omega
          have HJ1 : Hid (J q (((wr.alloc (.cells #[.string (T k), .pointer (some ad), .int .i64 (F k), .int .i64 (U k)] 45)).alloc (.cells #[.string (T k), .pointer (some ad), .int .i64 (F k), .int .i64 (U k)] 45)).alloc (.cells #[.pointer (some ad), .int .i64 (F k), .int .i64 (U k)] 35))) := HA.out.1.alloc _ _ _ _ (HA.out.1.alloc _ _ _ _ (HA.out.1.alloc _ _ _ _ HQ.out.1))
          have i5 : (s : Int) ≤ 1048576 := by omega
          clear hr0 hu0
          by_cases hsk : (tb k).length ≤ s
          · have HS : Hid (restOf tb k s m = restOf tb (k + 1) (s - (tb k).length) m ∧ s - (tb k).length + m ≤ (tailB tb (k + 1)).length) := rest_skip hk3 hsk hsm
            have i4 : ((tb k).length : Int) ≤ (s : Int) := by omega
            clear hcall
            gi_wp2_with fail
            refine ⟨trivial, noDepth _, ?_⟩
            refine (callsIn_wide.2 (partRef (T k) ad (F k) (U k) _ hf0 (by omega) (by omega))).mono ?_
            rintro e w' ⟨rfl, rfl⟩
            rw [HU.out]
            gi_wp2_with fail
            go_roundw
            case rel =>
              refine ⟨k + 1, s - (tb k).length, m, q, by omega, by go_num, by congr 1; omega, rfl, HJ1.out, ?_, HS.out.2, HT.out, hqm⟩
              rw [← HQ.out.2, HS.out.1]
            case measure => simp [intOf]; omega
          · have i4 : ¬ ((tb k).length : Int) ≤ (s : Int) := by omega
            by_cases hmin : (tb k).length - s ≤ m
            · -- to the reference's end
              have HS : Hid (restOf tb k s m = ((tb k).drop s).take ((tb k).length - s) ++ restOf tb (k + 1) 0 (m - ((tb k).length - s)) ∧ 0 + (m - ((tb k).length - s)) ≤ (tailB tb (k + 1)).length) := rest_take hk3 (by omega) (by omega) hsm
              have i8 : ((tb k).length : Int) - (s : Int) ≤ (m : Int) := by omega
              have hc := hcall (n - 1) q (((wr.alloc (.cells #[.string (T k), .pointer (some ad), .int .i64 (F k), .int .i64 (U k)] 45)).alloc (.cells #[.string (T k), .pointer (some ad), .int .i64 (F k), .int .i64 (U k)] 45)).alloc (.cells #[.pointer (some ad), .int .i64 (F k), .int .i64 (U k)] 35)) s ((tb k).length - s) HJ1.out (by omega) (by omega)
              rw [show ((((tb k).length - s) : Nat) : Int) = ((tb k).length : Int) - (s : Int) by omega] at hc
              have HC : Hid (CallsIn Fence.wide (n - 1) Try.prog 22 #[.pointer (some ad), .int .i64 (F k + (s : Int)), .int .i64 (((tb k).length : Int) - (s : Int)), .func (.yield l) #[] #[]] (((wr.alloc (.cells #[.string (T k), .pointer (some ad), .int .i64 (F k), .int .i64 (U k)] 45)).alloc (.cells #[.string (T k), .pointer (some ad), .int .i64 (F k), .int .i64 (U k)] 45)).alloc (.cells #[.pointer (some ad), .int .i64 (F k), .int .i64 (U k)] 35)) fun e V' => e = .returned (.bool true) ∧ J (q ++ ((tb k).drop s).take ((tb k).length - s)) V') := hc
              clear hc hcall
              gi_wp2_with fail
              refine ⟨trivial, noDepth _, ?_⟩
              refine (callsIn_wide.2 (partRef (T k) ad (F k) (U k) _ hf0 (by omega) (by omega))).mono ?_
              rintro e w' ⟨rfl, rfl⟩
              rw [HU.out]
              gi_wp2_with fail
              refine ⟨trivial, noDepth _, ?_⟩
              refine HC.out.mono ?_
              rintro e V' ⟨rfl, hJ'⟩
              have HV : Hid (J (q ++ ((tb k).drop s).take ((tb k).length - s)) V') := hJ'
              clear hJ' HC
              gi_wp2_with fail
              go_roundw
              case rel =>
                refine ⟨k + 1, 0, m - ((tb k).length - s), q ++ ((tb k).drop s).take ((tb k).length - s), by omega, by go_num, rfl, by congr 1; omega, HV.out, ?_, HS.out.2, HT.out, ?_⟩
                · rw [← HQ.out.2, HS.out.1, List.append_assoc]
                · rw [List.length_append, List.length_take, List.length_drop]; omega
              case measure => simp [intOf]; omega
            · -- as many as are wanted
              have HS : Hid (restOf tb k s m = ((tb k).drop s).take m ++ restOf tb (k + 1) 0 (m - m) ∧ 0 + (m - m) ≤ (tailB tb (k + 1)).length) := rest_take hk3 (by omega) (by omega) hsm
              have i8 : (m : Int) < ((tb k).length : Int) - (s : Int) := by omega
              have i9 : ¬ ((tb k).length : Int) - (s : Int) ≤ (m : Int) := by omega
              have hc := hcall (n - 1) q (((wr.alloc (.cells #[.string (T k), .pointer (some ad), .int .i64 (F k), .int .i64 (U k)] 45)).alloc (.cells #[.string (T k), .pointer (some ad), .int .i64 (F k), .int .i64 (U k)] 45)).alloc (.cells #[.pointer (some ad), .int .i64 (F k), .int .i64 (U k)] 35)) s m HJ1.out (by omega) (by omega)
              rw [show ((m : Nat) : Int) = (m : Int) by omega] at hc
              have HC : Hid (CallsIn Fence.wide (n - 1) Try.prog 22 #[.pointer (some ad), .int .i64 (F k + (s : Int)), .int .i64 ((m : Int)), .func (.yield l) #[] #[]] (((wr.alloc (.cells #[.string (T k), .pointer (some ad), .int .i64 (F k), .int .i64 (U k)] 45)).alloc (.cells #[.string (T k), .pointer (some ad), .int .i64 (F k), .int .i64 (U k)] 45)).alloc (.cells #[.pointer (some ad), .int .i64 (F k), .int .i64 (U k)] 35)) fun e V' => e = .returned (.bool true) ∧ J (q ++ ((tb k).drop s).take m) V') := hc
              clear hc hcall
              gi_wp2_with fail
              refine ⟨trivial, noDepth _, ?_⟩
              refine (callsIn_wide.2 (partRef (T k) ad (F k) (U k) _ hf0 (by omega) (by omega))).mono ?_
              rintro e w' ⟨rfl, rfl⟩
              rw [HU.out]
              gi_wp2_with fail
              refine ⟨trivial, noDepth _, ?_⟩
              refine HC.out.mono ?_
              rintro e V' ⟨rfl, hJ'⟩
              have HV : Hid (J (q ++ ((tb k).drop s).take m) V') := hJ'
              clear hJ' HC
              gi_wp2_with fail
              go_roundw
              case rel =>
                refine ⟨k + 1, 0, m - m, q ++ ((tb k).drop s).take m, by omega, by go_num, rfl, by congr 1; omega, HV.out, ?_, HS.out.2, HT.out, ?_⟩
                · rw [← HQ.out.2, HS.out.1, List.append_assoc]
                · rw [List.length_append, List.length_take, List.length_drop]; omega
              case measure => simp [intOf]; omega
    · obtain rfl : k = 3 := by omega
      have HE : Hid (q = pre ++ restOf tb 0 skip limit) := by
        have := HQ.out.2
        rw [rest_end, List.append_nil] at this
        exact this
      gi_wp2
      go_ret
      refine ⟨rfl, ?_⟩
      rw [← HE.out]
      exact HQ.out.1
end Go.Proofs.Qxb6618498a
