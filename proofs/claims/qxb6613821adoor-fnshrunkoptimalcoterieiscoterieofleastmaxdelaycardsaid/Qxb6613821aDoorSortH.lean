/- sort.Sort over *setOrder: pdqsort, and Sort itself. -/
import Derived.Test.Qxb6613821aDoorSortG
namespace Go.Proofs.Qxb6613821aDoor
set_option linter.unusedVariables false
set_option linter.unusedSimpArgs false
open Ieee Go.RowKit Go.Sort Go.Lib
variable {α : Type} [Inhabited α]

set_option maxHeartbeats 12800000 in
set_option maxRecDepth 1000000 in
theorem pdqsort_any {lt : α → α → Bool} (hO : SWO lt) {n : Nat} {p : Option Addr} {I : Array α → World → Prop} (E : SEnv lt n (.pointer p) I) (hn : n ≤ 65536) :
    ∀ (N a b limit : Nat) (d : Array α) (w : World), b - a < N → I d w → a ≤ b → b ≤ n → limit < 65536 → Go.Sort.Below lt a b d →
    Calls Tryd.prog 76 #[.iface 104 (.pointer p), .int .i64 (a : Int), .int .i64 (b : Int), .int .i64 (limit : Int)] w fun e w' => e = .returned (.tuple #[]) ∧ I (pdq lt d a b limit true true) w' := by
  have mL := mLess p
  have mS := mSwap p
  have HE : Hid (SEnv lt n (.pointer p) I) := E
  clear E
  intro N
  induction N with
  | zero => intro _ _ _ _ _ h; exact absurd h (Nat.not_lt_zero _)
  | succ N ih =>
    intro a b limit d w hN hI hab hb hlimit hBel0
    have HIH : Hid (∀ (a b limit : Nat) (d : Array α) (w : World), b - a < N → I d w → a ≤ b → b ≤ n → limit < 65536 → Go.Sort.Below lt a b d →
      Calls Tryd.prog 76 #[.iface 104 (.pointer p), .int .i64 (a : Int), .int .i64 (b : Int), .int .i64 (limit : Int)] w fun e w' => e = .returned (.tuple #[]) ∧ I (pdq lt d a b limit true true) w') := ih
    have HI0 : Hid (I d w) := hI
    have HB0 : Hid (Go.Sort.Below lt a b d) := hBel0
    clear ih hI hBel0
    go_enter Tryd.func76, Tryd.ntmps76
    go_wp2
    go_loopg [1, 2, 3, 8, 9] (b - a) (fun k s1 s2 s3 s8 s9 wr => ∃ (a' b' lim : Nat) (wb wp : Bool) (dk : Array α), s1 = .int .i64 a' ∧ s2 = .int .i64 b' ∧ s3 = .int .i64 lim ∧ s8 = .bool wb ∧ s9 = .bool wp ∧
      a' ≤ b' ∧ b' ≤ n ∧ b' - a' ≤ k ∧ k ≤ b - a ∧ lim ≤ limit ∧ Hid (Go.Sort.Below lt a' b' dk) ∧ Hid (I dk wr) ∧ Hid (pdq lt dk a' b' lim wb wp = pdq lt d a b limit true true))
    case atStart => exact ⟨a, b, limit, true, true, d, rfl, rfl, rfl, rfl, rfl, hab, hb, Nat.le_refl _, Nat.le_refl _, Nat.le_refl _, HB0, HI0, rfl⟩
    case round =>
      obtain ⟨a', b', lim, wb, wp, dk, rfl, rfl, rfl, rfl, rfl, hab', hb', hk, hkN, hlim, HBel, HI, A⟩ := hrel
      have hds : dk.size = n := HE.out.size dk wr HI.out
      by_cases h12 : b' - a' ≤ 12
      · have h12z : (b' : Int) - (a' : Int) ≤ 12 := by omega
        have hc : Hid (Calls Tryd.prog 82 #[.iface 104 (.pointer p), .int .i64 (a' : Int), .int .i64 (b' : Int)] wr fun e w' => e = .returned (.tuple #[]) ∧ I (Sort.insertionSort lt dk a' b') w') := insertionSort_any HE.out hn a' b' hab' hb' dk wr HI.out
        go_wp2_with (go_at_call 82; refine hc.out.mono ?_; rintro e w1 ⟨rfl, hw1⟩)
        (try simp only [Exit.inBlock, Exit.then]); refine bodyPost_ret (results_none rfl _ _ _) rfl ?_
        refine ⟨rfl, ?_⟩
        rw [← A.out, pdq_small h12]
        exact hw1
      · have h12z : ¬ ((b' : Int) - (a' : Int) ≤ 12) := by omega
        by_cases hl0 : lim = 0
        · subst hl0
          have hc : Hid (Calls Tryd.prog 83 #[.iface 104 (.pointer p), .int .i64 (a' : Int), .int .i64 (b' : Int)] wr fun e w' => e = .returned (.tuple #[]) ∧ I (heapSort lt dk a' b') w') := heapSort_any HE.out hn a' b' hab' hb' dk wr HI.out
          go_wp2_with (go_at_call 83; refine hc.out.mono ?_; rintro e w1 ⟨rfl, hw1⟩)
          (try simp only [Exit.inBlock, Exit.then]); refine bodyPost_ret (results_none rfl _ _ _) rfl ?_
          refine ⟨rfl, ?_⟩
          rw [← A.out, pdq_heap h12 rfl]
          exact hw1
        · have hl0z : ¬ ((lim : Int) = 0) := by omega
          obtain ⟨s1, B1, hc1, s2, B2, hpv, s3, B3⟩ := rd_facts (lt := lt) (limit := lim) (wb := wb) (wp := wp) hO partialInsertionSort_holds reverseRange_holds (show a' < b' by omega) (show b' ≤ dk.size by omega) HBel.out
          have HB3 : Hid _ := B3
          clear B1 B2 B3
          go_upto_if 35 with fail
          go_cut [3] from 19 (fun s3 wc => s3 = .int .i64 ((rd lt dk a' b' lim wb wp).lim : Int) ∧ Hid (I (rd lt dk a' b' lim wb wp).d1 wc))
          case first =>
            cases wb
            · have hc : Hid (Calls Tryd.prog 84 #[.iface 104 (.pointer p), .int .i64 (a' : Int), .int .i64 (b' : Int)] wr fun e w' => e = .returned (.tuple #[]) ∧ I (breakPatterns dk a' b') w') := breakPatterns_any HE.out hn a' b' hab' hb' dk wr HI.out
              go_wp2_with (go_at_call 84; refine hc.out.mono ?_; rintro e w1 ⟨rfl, hw1⟩)
              go_meet
              case rel =>
                refine ⟨?_, hw1⟩
                show Value.int .i64 ((lim : Int) - 1) = Value.int .i64 ((lim - 1 : Nat) : Int)
                congr 1
                omega
            · go_wp2_with fail
              go_meet
              case rel => exact ⟨rfl, HI.out⟩
          case rest =>
            clear HI
            obtain ⟨rfl, HI1⟩ := hcut
            have hc17 : Hid (Calls Tryd.prog 85 #[.iface 104 (.pointer p), .int .i64 (a' : Int), .int .i64 (b' : Int)] wc fun e w' => e = .returned (.tuple #[.int .i64 ((rd lt dk a' b' lim wb wp).c.1 : Int), .int .i64 (hintCode (rd lt dk a' b' lim wb wp).c.2)]) ∧ Go.RowKit.Below wc.heap.size wc w') :=
              choosePivot_any HE.out hn a' b' (by omega) hb' (rd lt dk a' b' lim wb wp).d1 wc HI1.out
            go_upto_if 50 with (go_at_call 85; refine hc17.out.mono ?_; rintro e w2 ⟨rfl, hw2⟩)
            have HI2 : Hid (I (rd lt dk a' b' lim wb wp).d1 w2) := HE.out.keep _ _ _ HI1.out hw2
            clear hw2 HI1 hc17
            go_cut [11, 12] from 19 (fun s11 s12 wc => s11 = .int .i64 ((rd lt dk a' b' lim wb wp).pivot : Int) ∧ s12 = .int .i64 (hintCode (rd lt dk a' b' lim wb wp).hint) ∧ Hid (I (rd lt dk a' b' lim wb wp).d2 wc))
            case first =>
              by_cases hh : (rd lt dk a' b' lim wb wp).c.2 = .decreasing
              · have hcode : hintCode (rd lt dk a' b' lim wb wp).c.2 = 2 := by rw [hh]; rfl
                obtain ⟨e2, epv, eht⟩ := rd_dec hh
                have hc18 : Hid (Calls Tryd.prog 86 #[.iface 104 (.pointer p), .int .i64 (a' : Int), .int .i64 (b' : Int)] w2 fun e w' => e = .returned (.tuple #[]) ∧ I (reverseRange (rd lt dk a' b' lim wb wp).d1 a' b') w') := reverseRange_any HE.out hn a' b' hab' hb' (rd lt dk a' b' lim wb wp).d1 w2 HI2.out
                have H2 : Hid (_ ∧ _ ∧ _) := ⟨e2, epv, eht⟩
                clear e2 epv eht
                go_wp2_with (go_at_call 86; refine hc18.out.mono ?_; rintro e w3 ⟨rfl, hw3⟩)
                go_meet
                case rel =>
                  obtain ⟨e2, epv, eht⟩ := H2.out
                  refine ⟨?_, by rw [eht]; rfl, by rw [e2]; exact hw3⟩
                  rw [epv]
                  congr 1
                  omega
              · have hcode : ¬ (hintCode (rd lt dk a' b' lim wb wp).c.2 = 2) := fun h => hh (hintCode_two h)
                obtain ⟨e2, epv, eht⟩ := rd_not hh
                have H2 : Hid (_ ∧ _ ∧ _) := ⟨e2, epv, eht⟩
                clear e2 epv eht
                go_wp2_with fail
                go_meet
                case rel =>
                  obtain ⟨e2, epv, eht⟩ := H2.out
                  exact ⟨by rw [epv], by rw [eht], by rw [e2]; exact HI2.out⟩
            case rest =>
              clear HI2
              obtain ⟨rfl, rfl, HI3⟩ := hcut
              go_upto_region 15 with fail
              go_cut [12, 68] from 19 (fun s12 s68 wx => s12 = .int .i64 (hintCode (rd lt dk a' b' lim wb wp).hint) ∧ s68 = .bool (wb && wp && decide ((rd lt dk a' b' lim wb wp).hint = .increasing)) ∧ wx = wc)
              case first =>
                cases wb <;> cases wp <;> cases hh3 : (rd lt dk a' b' lim _ _).hint <;>
                  (have hcode3 := congrArg hintCode hh3
                   simp only [hintCode] at hcode3
                   go_wp2_with fail
                   go_meet
                   exact ⟨by simp [hh3, hintCode], by simp [hh3, hintCode], rfl⟩)
              case rest =>
                obtain ⟨rfl, rfl, rfl⟩ := hcut
                go_upto_if 68 with fail
                go_cut [] from 19 (fun wx => (rd lt dk a' b' lim wb wp).pi.2 = false ∧ Hid (I (rd lt dk a' b' lim wb wp).pi.1 wx))
                case first =>
                  cases h68 : (wb && wp && decide ((rd lt dk a' b' lim wb wp).hint = .increasing))
                  · have epi := rd_pi_no h68
                    have HP : Hid (_ = _) := epi
                    clear epi
                    go_wp2_with fail
                    go_meet
                    case rel => exact ⟨by rw [HP.out], by show I _ _; rw [HP.out]; exact HI3.out⟩
                  · have epi := rd_pi_yes h68
                    have hc19 : Calls Tryd.prog 87 #[.iface 104 (.pointer p), .int .i64 (a' : Int), .int .i64 (b' : Int)] wc fun e w' => e = .returned (.bool (Sort.partialInsertionSort lt (rd lt dk a' b' lim wb wp).d2 a' b').2) ∧ I (Sort.partialInsertionSort lt (rd lt dk a' b' lim wb wp).d2 a' b').1 w' := partialInsertionSort_any HE.out hn a' b' (by omega) hb' (rd lt dk a' b' lim wb wp).d2 wc HI3.out
                    rw [← epi] at hc19
                    have HC : Hid (Calls Tryd.prog 87 #[.iface 104 (.pointer p), .int .i64 (a' : Int), .int .i64 (b' : Int)] wc fun e w' => e = .returned (.bool (rd lt dk a' b' lim wb wp).pi.2) ∧ I (rd lt dk a' b' lim wb wp).pi.1 w') := hc19
                    clear epi hc19
                    cases hp2 : (rd lt dk a' b' lim wb wp).pi.2
                    · rw [hp2] at HC
                      go_wp2_with (go_at_call 87; refine HC.out.mono ?_; rintro e w4 ⟨rfl, hw4⟩)
                      go_meet
                      exact ⟨hp2, hw4⟩
                    · rw [hp2] at HC
                      have HD : Hid (_ = _) := pdq_done h12 hl0 hp2
                      go_wp2_with (go_at_call 87; refine HC.out.mono ?_; rintro e w4 ⟨rfl, hw4⟩)
                      (try simp only [Exit.inBlock, Exit.then]); refine bodyPost_ret (results_none rfl _ _ _) rfl ?_
                      refine ⟨rfl, ?_⟩
                      rw [← A.out, HD.out]
                      exact hw4
                case rest =>
                  clear HI3
                  obtain ⟨hp2, HI5⟩ := hcut
                  go_upto_region 17 with fail
                  go_cut [82] from 19 (fun s82 wx => s82 = .bool (decide (a' > 0) && !lt (rd lt dk a' b' lim wb wp).pi.1[a' - 1]! (rd lt dk a' b' lim wb wp).pi.1[(rd lt dk a' b' lim wb wp).pivot]!) ∧ Hid (I (rd lt dk a' b' lim wb wp).pi.1 wx))
                  case first =>
                    rcases Nat.eq_zero_or_pos a' with ha0 | ha0
                    · have ha0z : decide ((a' : Int) > 0) = false := decide_eq_false (by omega)
                      go_wp2_with fail
                      go_meet
                      case rel => exact ⟨by simp [ha0], HI5⟩
                    · have ha0z : (a' : Int) > 0 := by omega
                      cases hlv : lt (rd lt dk a' b' lim wb wp).pi.1[a' - 1]! (rd lt dk a' b' lim wb wp).pi.1[(rd lt dk a' b' lim wb wp).pivot]! with
                      | true =>
                        have CL : Hid (Calls Tryd.prog 116 #[.pointer p, .int .i64 ((a' : Int) - 1), .int .i64 ((rd lt dk a' b' lim wb wp).pivot : Int)] wc fun e w' => e = .returned (.bool true) ∧ I (rd lt dk a' b' lim wb wp).pi.1 w') := HE.out.lessAt HI5.out (a' - 1) (rd lt dk a' b' lim wb wp).pivot (by omega) (by omega) (by omega) rfl hlv
                        go_wp2_with (go_at_call 116; refine CL.out.mono ?_; rintro e w1 ⟨rfl, hI1⟩)
                        go_meet
                        exact ⟨by simp [ha0, hlv], hI1⟩
                      | false =>
                        have CL : Hid (Calls Tryd.prog 116 #[.pointer p, .int .i64 ((a' : Int) - 1), .int .i64 ((rd lt dk a' b' lim wb wp).pivot : Int)] wc fun e w' => e = .returned (.bool false) ∧ I (rd lt dk a' b' lim wb wp).pi.1 w') := HE.out.lessAt HI5.out (a' - 1) (rd lt dk a' b' lim wb wp).pivot (by omega) (by omega) (by omega) rfl hlv
                        go_wp2_with (go_at_call 116; refine CL.out.mono ?_; rintro e w1 ⟨rfl, hI1⟩)
                        go_meet
                        exact ⟨by simp [ha0, hlv], hI1⟩
                  case rest =>
                    clear HI5
                    obtain ⟨rfl, HI6⟩ := hcut
                    cases h87 : (decide (a' > 0) && !lt (rd lt dk a' b' lim wb wp).pi.1[a' - 1]! (rd lt dk a' b' lim wb wp).pi.1[(rd lt dk a' b' lim wb wp).pivot]!)
                    · obtain ⟨mid, ap, d4, hx⟩ : ∃ mid ap d4, partition lt (rd lt dk a' b' lim wb wp).pi.1 a' b' (rd lt dk a' b' lim wb wp).pivot = (mid, ap, d4) := ⟨(partition lt (rd lt dk a' b' lim wb wp).pi.1 a' b' (rd lt dk a' b' lim wb wp).pivot).1, (partition lt (rd lt dk a' b' lim wb wp).pi.1 a' b' (rd lt dk a' b' lim wb wp).pivot).2.1, (partition lt (rd lt dk a' b' lim wb wp).pi.1 a' b' (rd lt dk a' b' lim wb wp).pivot).2.2, rfl⟩
                      obtain ⟨r1, r2, r3, r4, r5, r6, r7⟩ := round_part hO (partition_holds lt) hpv.1 hpv.2 (show b' ≤ (rd lt dk a' b' lim wb wp).pi.1.size by omega) HB3.out hx
                      have hc22 := partition_any HE.out hn a' b' (rd lt dk a' b' lim wb wp).pivot hpv.1 hpv.2 hb' (rd lt dk a' b' lim wb wp).pi.1 wc HI6.out
                      rw [hx] at hc22
                      have HC : Hid (Calls Tryd.prog 89 #[.iface 104 (.pointer p), .int .i64 (a' : Int), .int .i64 (b' : Int), .int .i64 ((rd lt dk a' b' lim wb wp).pivot : Int)] wc fun e w' => e = .returned (.tuple #[.int .i64 (mid : Int), .bool ap]) ∧ I d4 w') := hc22
                      have X : Aside (partition lt (rd lt dk a' b' lim wb wp).pi.1 a' b' (rd lt dk a' b' lim wb wp).pivot = (mid, ap, d4)) := hx
                      have R4 : Hid _ := r4
                      have R5 : Hid _ := r5
                      have R6 : Hid _ := r6
                      have R7 : Hid _ := r7
                      clear hx hc22 r4 r5 r6 r7 HI6
                      go_upto_if 108 with (go_at_call 89; refine HC.out.mono ?_; rintro e w7 ⟨rfl, hw7⟩)
                      have HI7 : Hid (I d4 w7) := hw7
                      clear hw7
                      by_cases h4 : mid - a' < b' - mid
                      · have h4z : (mid : Int) - (a' : Int) < (b' : Int) - (mid : Int) := by omega
                        have hih : Hid (Calls Tryd.prog 76 #[.iface 104 (.pointer p), .int .i64 (a' : Int), .int .i64 (mid : Int), .int .i64 ((rd lt dk a' b' lim wb wp).lim : Int)] w7 fun e w' => e = .returned (.tuple #[]) ∧ I (pdq lt d4 a' mid (rd lt dk a' b' lim wb wp).lim true true) w') := HIH.out a' mid (rd lt dk a' b' lim wb wp).lim d4 w7 (by omega) HI7.out (by omega) (by omega) (Nat.lt_of_le_of_lt (Nat.le_trans rd_lim_le hlim) hlimit) R4.out
                        obtain ⟨pL, sL⟩ := pdq_sorts lt hO d4 a' mid (rd lt dk a' b' lim wb wp).lim true true (by omega) (by omega) R4.out
                        have HPL : Hid (_ ∧ _) := ⟨pL, sL⟩
                        clear pL sL
                        go_wp2_with (go_at_call 76; refine hih.out.mono ?_; rintro e w8 ⟨rfl, hw8⟩)
                        have HI8 : Hid (I (pdq lt d4 a' mid (rd lt dk a' b' lim wb wp).lim true true) w8) := hw8
                        clear hw8
                        go_roundg (b' - (mid + 1))
                        case measure => omega
                        case rel =>
                          have hx := X.out
                          refine ⟨mid + 1, b', (rd lt dk a' b' lim wb wp).lim, decide (mid - a' ≥ (b' - a') / 8), ap, pdq lt d4 a' mid (rd lt dk a' b' lim wb wp).lim true true, by simp, rfl, rfl, ?_, rfl, by omega, by omega, Nat.le_refl _, by omega, Nat.le_trans rd_lim_le hlim, (R6.out _ HPL.out.1 HPL.out.2).1, HI8, ?_⟩
                          · exact congrArg Value.bool (eighth (by omega) (by omega))
                          · show _ = _
                            rw [← A.out, pdq_left h12 hl0 hp2 h87 (by rw [hx]; exact ⟨r1, r2⟩) (by rw [hx]; exact h4), hx]
                      · have h4z : ¬ ((mid : Int) - (a' : Int) < (b' : Int) - (mid : Int)) := by omega
                        have hih0 := HIH.out (mid + 1) b' (rd lt dk a' b' lim wb wp).lim d4 w7 (by omega) HI7.out (by omega) (by omega) (Nat.lt_of_le_of_lt (Nat.le_trans rd_lim_le hlim) hlimit) R5.out
                        rw [show ((mid + 1 : Nat) : Int) = (mid : Int) + 1 by omega] at hih0
                        have hih : Hid (Calls Tryd.prog 76 #[.iface 104 (.pointer p), .int .i64 ((mid : Int) + 1), .int .i64 (b' : Int), .int .i64 ((rd lt dk a' b' lim wb wp).lim : Int)] w7 fun e w' => e = .returned (.tuple #[]) ∧ I (pdq lt d4 (mid + 1) b' (rd lt dk a' b' lim wb wp).lim true true) w') := hih0
                        obtain ⟨pL, sL⟩ := pdq_sorts lt hO d4 (mid + 1) b' (rd lt dk a' b' lim wb wp).lim true true (by omega) (by omega) R5.out
                        have HPL : Hid (_ ∧ _) := ⟨pL, sL⟩
                        clear pL sL hih0
                        go_wp2_with (go_at_call 76; refine hih.out.mono ?_; rintro e w8 ⟨rfl, hw8⟩)
                        have HI8 : Hid (I (pdq lt d4 (mid + 1) b' (rd lt dk a' b' lim wb wp).lim true true) w8) := hw8
                        clear hw8
                        go_roundg (mid - a')
                        case measure => omega
                        case rel =>
                          have hx := X.out
                          refine ⟨a', mid, (rd lt dk a' b' lim wb wp).lim, decide (b' - mid ≥ (b' - a') / 8), ap, pdq lt d4 (mid + 1) b' (rd lt dk a' b' lim wb wp).lim true true, rfl, rfl, rfl, ?_, rfl, by omega, by omega, Nat.le_refl _, by omega, Nat.le_trans rd_lim_le hlim, (R7.out _ HPL.out.1 HPL.out.2).1, HI8, ?_⟩
                          · exact congrArg Value.bool (eighth (by omega) (by omega))
                          · show _ = _
                            rw [← A.out, pdq_right h12 hl0 hp2 h87 (by rw [hx]; exact ⟨r1, r2⟩) (by rw [hx]; exact h4), hx]
                    · have h87' := h87
                      simp only [Bool.and_eq_true, decide_eq_true_eq, Bool.not_eq_true'] at h87'
                      obtain ⟨mid, d4, hx⟩ : ∃ mid d4, partitionEqual lt (rd lt dk a' b' lim wb wp).pi.1 a' b' (rd lt dk a' b' lim wb wp).pivot = (mid, d4) := ⟨(partitionEqual lt (rd lt dk a' b' lim wb wp).pi.1 a' b' (rd lt dk a' b' lim wb wp).pivot).1, (partitionEqual lt (rd lt dk a' b' lim wb wp).pi.1 a' b' (rd lt dk a' b' lim wb wp).pivot).2, rfl⟩
                      obtain ⟨r1, r2, r3, r4, _⟩ := round_eq hO (partitionEqual_holds lt) h87'.1 hpv.1 hpv.2 (show b' ≤ (rd lt dk a' b' lim wb wp).pi.1.size by omega) HB3.out h87'.2 hx
                      have hc21 := partitionEqual_any HE.out hn a' b' (rd lt dk a' b' lim wb wp).pivot hpv.1 hpv.2 hb' (rd lt dk a' b' lim wb wp).pi.1 wc HI6.out
                      rw [hx] at hc21
                      have HC : Hid (Calls Tryd.prog 88 #[.iface 104 (.pointer p), .int .i64 (a' : Int), .int .i64 (b' : Int), .int .i64 ((rd lt dk a' b' lim wb wp).pivot : Int)] wc fun e w' => e = .returned (.int .i64 (mid : Int)) ∧ I d4 w') := hc21
                      have X : Aside (partitionEqual lt (rd lt dk a' b' lim wb wp).pi.1 a' b' (rd lt dk a' b' lim wb wp).pivot = (mid, d4)) := hx
                      have R4 : Hid _ := r4
                      clear hx hc21 r4 HI6 h87'
                      go_wp2_with (go_at_call 88; refine HC.out.mono ?_; rintro e w7 ⟨rfl, hw7⟩)
                      have HI7 : Hid (I d4 w7) := hw7
                      clear hw7
                      go_roundg (b' - mid)
                      case measure => omega
                      case rel =>
                        have hx := X.out
                        exact ⟨mid, b', (rd lt dk a' b' lim wb wp).lim, wb, wp, d4, rfl, rfl, rfl, rfl, rfl, r2, hb', Nat.le_refl _, by omega, Nat.le_trans rd_lim_le hlim, R4.out, HI7, by show _ = _; rw [← A.out, pdq_eq h12 hl0 hp2 h87 (by rw [hx]; exact ⟨r1, r2⟩), hx]⟩
end Go.Proofs.Qxb6613821aDoor
