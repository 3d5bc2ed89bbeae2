/- sort.Sort over *setOrder: partialInsertionSort. -/
import Derived.Test.Qxb6613821aDoorSortF
namespace Go.Proofs.Qxb6613821aDoor
set_option linter.unusedVariables false
set_option linter.unusedSimpArgs false
open Ieee Go.RowKit Go.Sort Go.Lib
variable {α : Type} [Inhabited α]

set_option maxHeartbeats 8000000 in
set_option maxRecDepth 1000000 in
theorem partialInsertionSort_any {lt : α → α → Bool} {n : Nat} {p : Option Addr} {I : Array α → World → Prop} (E : SEnv lt n (.pointer p) I) (hn : n ≤ 65536) (a b : Nat) (hab : a < b) (hb : b ≤ n) (d : Array α) (w : World) (hI : I d w) :
    Calls Tryd.prog 87 #[.iface 104 (.pointer p), .int .i64 (a : Int), .int .i64 (b : Int)] w fun e w' => e = .returned (.bool (Sort.partialInsertionSort lt d a b).2) ∧ I (Sort.partialInsertionSort lt d a b).1 w' := by
  have mL := mLess p
  have mS := mSwap p
  have HL : Hid (∀ (X : Array α) (j : Nat) (v : Bool) (W : World), I X W → 1 ≤ j → j < n → lt X[j]! X[j - 1]! = v → Calls Tryd.prog 116 #[.pointer p, .int .i64 (j : Int), .int .i64 ((j : Int) - 1)] W fun e w' => e = .returned (.bool v) ∧ I X w') :=
    fun X j v W hI h1 h2 hv => E.lessAt hI j (j - 1) h2 (by omega) rfl (by omega) hv
  have HS : Hid (∀ (X : Array α) (j : Nat) (W : World), I X W → 1 ≤ j → j < n → Calls Tryd.prog 117 #[.pointer p, .int .i64 (j : Int), .int .i64 ((j : Int) - 1)] W fun e w' => e = .returned (.tuple #[]) ∧ I (swp X j (j - 1)) w') :=
    fun X j W hI h1 h2 => E.swapAt hI j (j - 1) h2 (by omega) rfl (by omega)
  have HI0 : Hid (I d w) := hI
  clear E hI
  go_enter Tryd.func87, Tryd.ntmps87
  go_wp2
  go_loopg [7, 8] 5 (fun g1 vi vs wr => ∃ (i s : Nat) (dk : Array α), vi = .int .i64 i ∧ vs = .int .i64 s ∧ s ≤ 5 ∧ 5 - s ≤ g1 ∧ a < i ∧ i ≤ b ∧ Hid (I dk wr) ∧ Hid (partialIns lt a b (5 - s) i dk = partialIns lt a b 5 (a + 1) d))
  case atStart => exact ⟨a + 1, 0, d, by go_num, rfl, by omega, by omega, by omega, by omega, HI0, rfl⟩
  case round =>
    obtain ⟨i, s, dk, rfl, rfl, hs5, hg1, hai, hib, HI, HQ⟩ := hrel
    by_cases hs : s < 5
    · have hsz5 : (s : Int) < 5 := by omega
      go_upto_block 2 with fail
      go_cut [7] from 17 to 29 (fun v7 wx => ∃ kx : Nat, v7 = .int .i64 kx ∧ i ≤ kx ∧ kx ≤ b ∧ Hid (scanSorted lt dk b i = kx) ∧ Hid (I dk wx))
      case first =>
        go_wp2_with fail
        go_loopg [7] (b - i) (fun g2 vi wr2 => ∃ (kx : Nat), vi = .int .i64 kx ∧ i ≤ kx ∧ kx ≤ b ∧ b - kx ≤ g2 ∧ Hid (I dk wr2) ∧ Hid (scanSorted lt dk b kx = scanSorted lt dk b i))
        case atStart => exact ⟨i, rfl, Nat.le_refl _, hib, Nat.le_refl _, HI, rfl⟩
        case round =>
          clear HI
          obtain ⟨kx, rfl, hik, hkb, hg2, HI, HSc⟩ := hrel
          by_cases hkb' : kx < b
          · have hkz : (kx : Int) < (b : Int) := by omega
            cases hlv : lt dk[kx]! dk[kx - 1]! with
            | false =>
              have CL : Hid (Calls Tryd.prog 116 #[.pointer p, .int .i64 (kx : Int), .int .i64 ((kx : Int) - 1)] wr fun e w' => e = .returned (.bool false) ∧ I dk w') := HL.out dk kx false wr HI.out (by omega) (by omega) hlv
              have HS2 : Hid (scanSorted lt dk b (kx + 1) = scanSorted lt dk b i) := by show _ = _; rw [← HSc.out, scanSorted_go lt dk b kx hkb' hlv]
              clear hlv
              go_wp2_with (go_at_call 116; refine CL.out.mono ?_; rintro e w1 ⟨rfl, hI1⟩)
              have HI1 : Hid (I dk w1) := hI1
              clear hI1
              go_roundg (b - (kx + 1))
              case measure => omega
              case rel => exact ⟨kx + 1, by go_num, by omega, by omega, Nat.le_refl _, HI1, HS2⟩
            | true =>
              have CL : Hid (Calls Tryd.prog 116 #[.pointer p, .int .i64 (kx : Int), .int .i64 ((kx : Int) - 1)] wr fun e w' => e = .returned (.bool true) ∧ I dk w') := HL.out dk kx true wr HI.out (by omega) (by omega) hlv
              have HS2 : Hid (scanSorted lt dk b i = kx) := by show _ = _; rw [← HSc.out, scanSorted_stop lt dk b kx (Or.inr hlv)]
              clear hlv
              go_wp2_with (go_at_call 116; refine CL.out.mono ?_; rintro e w1 ⟨rfl, hI1⟩)
              go_meet
              exact ⟨kx, rfl, hik, hkb, HS2, hI1⟩
          · have HS2 : Hid (scanSorted lt dk b i = kx) := by show _ = _; rw [← HSc.out, scanSorted_stop lt dk b kx (Or.inl hkb')]
            have hkz : ¬ (kx : Int) < (b : Int) := by omega
            go_wp2_with fail
            go_meet
            exact ⟨kx, rfl, hik, hkb, HS2, HI⟩
      case rest =>
        clear HI
        obtain ⟨kx, rfl, hik, hkb, HK, HI⟩ := hcut
        by_cases hkb' : kx < b
        · have hne : ((kx : Int) == (b : Int)) = false := by simp; omega
          by_cases h50 : b - a < 50
          · have h50z : (b : Int) - (a : Int) < 50 := by omega
            have hv : Sort.partialInsertionSort lt d a b = (dk, false) := by
              unfold Sort.partialInsertionSort
              rw [← HQ.out, pi_short lt a b s i dk hs (by rw [HK.out]; omega) h50]
            have HV : Hid (Sort.partialInsertionSort lt d a b = (dk, false)) := hv
            clear hv
            go_wp2
            go_ret
            rw [HV.out]
            exact ⟨rfl, HI.out⟩
          · have h50z : ¬ ((b : Int) - (a : Int) < 50) := by omega
            have CS : Hid (Calls Tryd.prog 117 #[.pointer p, .int .i64 (kx : Int), .int .i64 ((kx : Int) - 1)] wc fun e w' => e = .returned (.tuple #[]) ∧ I (swp dk kx (kx - 1)) w') := HS.out dk kx wc HI.out (by omega) (by omega)
            have HQ1 : Hid (partialIns lt a b (5 - (s + 1)) kx (fixUp lt b kx (fixDown lt a kx (swp dk kx (kx - 1)))) = partialIns lt a b 5 (a + 1) d) := by show _ = _; rw [← HQ.out, pi_go lt a b s i kx dk hs HK.out (by omega) h50]
            clear HQ HK
            go_upto_if 45 with (go_at_call 117; refine CS.out.mono ?_; rintro e w2 ⟨rfl, hI2⟩)
            have HI2 : Hid (I (swp dk kx (kx - 1)) w2) := hI2
            clear hI2 HI CS
            go_cut [9] from 45 to 62 (fun _ wx => ∃ dj : Array α, Hid (fixDown lt a kx (swp dk kx (kx - 1)) = dj) ∧ Hid (I dj wx))
            case first =>
              by_cases hka : kx - a ≥ 2
              · have hkaz : (2 : Int) ≤ (kx : Int) - (a : Int) := by omega
                have HF : Hid (fixDown lt a kx (swp dk kx (kx - 1)) = shiftDown lt (kx - 1) (swp dk kx (kx - 1))) := by show _ = _; unfold fixDown; rw [if_pos hka]
                rw [decide_eq_true hkaz]
                go_wp2_with fail
                go_loopg [9] (kx - 1) (fun g3 vj wr3 => ∃ (j : Nat) (dj : Array α), vj = .int .i64 j ∧ j ≤ kx - 1 ∧ j ≤ g3 ∧ Hid (I dj wr3) ∧ Hid (shiftDown lt j dj = shiftDown lt (kx - 1) (swp dk kx (kx - 1))))
                case atStart => exact ⟨kx - 1, _, by congr 1; omega, Nat.le_refl _, Nat.le_refl _, HI2, rfl⟩
                case round =>
                  clear HI2
                  obtain ⟨j, dj, rfl, hjk, hg3, HI, HDn⟩ := hrel
                  by_cases hj1 : 1 ≤ j
                  · have hj1z : (1 : Int) ≤ (j : Int) := by omega
                    cases hlv : lt dj[j]! dj[j - 1]! with
                    | true =>
                      have CL : Hid (Calls Tryd.prog 116 #[.pointer p, .int .i64 (j : Int), .int .i64 ((j : Int) - 1)] wr fun e w' => e = .returned (.bool true) ∧ I dj w') := HL.out dj j true wr HI.out hj1 (by omega) hlv
                      have CS : Hid (∀ W, I dj W → Calls Tryd.prog 117 #[.pointer p, .int .i64 (j : Int), .int .i64 ((j : Int) - 1)] W fun e w' => e = .returned (.tuple #[]) ∧ I (swp dj j (j - 1)) w') := fun W hI => HS.out dj j W hI hj1 (by omega)
                      have HD2 : Hid (shiftDown lt (j - 1) (swp dj j (j - 1)) = shiftDown lt (kx - 1) (swp dk kx (kx - 1))) := by show _ = _; rw [← HDn.out, shiftDown_go lt j dj hj1 hlv]
                      clear hlv
                      go_wp2_with (first | (go_at_call 116; refine CL.out.mono ?_; rintro e w1 ⟨rfl, hI1⟩) | (go_at_call 117; refine (CS.out _ hI1).mono ?_; rintro e w2 ⟨rfl, hI2⟩))
                      have HI2 : Hid (I (swp dj j (j - 1)) w2) := hI2
                      clear hI1 hI2
                      go_roundg (j - 1)
                      case measure => omega
                      case rel => exact ⟨j - 1, _, by congr 1; omega, by omega, Nat.le_refl _, HI2, HD2⟩
                    | false =>
                      have CL : Hid (Calls Tryd.prog 116 #[.pointer p, .int .i64 (j : Int), .int .i64 ((j : Int) - 1)] wr fun e w' => e = .returned (.bool false) ∧ I dj w') := HL.out dj j false wr HI.out hj1 (by omega) hlv
                      have HD2 : Hid (fixDown lt a kx (swp dk kx (kx - 1)) = dj) := by show _ = _; rw [HF.out, ← HDn.out, shiftDown_stop lt j dj (Or.inr hlv)]
                      clear hlv
                      go_wp2_with (go_at_call 116; refine CL.out.mono ?_; rintro e w1 ⟨rfl, hI1⟩)
                      go_meet
                      exact ⟨dj, HD2, hI1⟩
                  · have hj1z : ¬ (1 : Int) ≤ (j : Int) := by omega
                    have HD2 : Hid (fixDown lt a kx (swp dk kx (kx - 1)) = dj) := by show _ = _; rw [HF.out, ← HDn.out, shiftDown_stop lt j dj (Or.inl (by omega))]
                    go_wp2_with fail
                    go_meet
                    exact ⟨dj, HD2, HI⟩
              · have hkaz : ¬ (2 : Int) ≤ (kx : Int) - (a : Int) := by omega
                have HD2 : Hid (fixDown lt a kx (swp dk kx (kx - 1)) = swp dk kx (kx - 1)) := by show _ = _; unfold fixDown; rw [if_neg hka]
                go_wp2_with fail
                go_meet
                exact ⟨_, HD2, HI2⟩
            case rest =>
              clear HI2
              obtain ⟨dj, HD, HI⟩ := hcut
              have HQ2 : Hid (partialIns lt a b (5 - (s + 1)) kx (fixUp lt b kx dj) = partialIns lt a b 5 (a + 1) d) := by show _ = _; rw [← HD.out]; exact HQ1.out
              clear HD HQ1
              by_cases hbk : b - kx ≥ 2
              · have hbkz : (2 : Int) ≤ (b : Int) - (kx : Int) := by omega
                have HF : Hid (fixUp lt b kx dj = shiftUp lt b (kx + 1) dj) := by show _ = _; unfold fixUp; rw [if_pos hbk]
                go_wp2
                go_loopg [10] (b - (kx + 1)) (fun g4 vj wr4 => ∃ (ju : Nat) (du : Array α), vj = .int .i64 ju ∧ kx + 1 ≤ ju ∧ ju ≤ b ∧ b - ju ≤ g4 ∧ Hid (I du wr4) ∧ Hid (shiftUp lt b ju du = shiftUp lt b (kx + 1) dj))
                case atStart => exact ⟨kx + 1, dj, by go_num, Nat.le_refl _, by omega, Nat.le_refl _, HI, rfl⟩
                case round =>
                  clear HI
                  obtain ⟨ju, du, rfl, hkj, hjb, hg4, HI, HU⟩ := hrel
                  by_cases hjb' : ju < b
                  · have hjz : (ju : Int) < (b : Int) := by omega
                    cases hlv : lt du[ju]! du[ju - 1]! with
                    | true =>
                      have CL : Hid (Calls Tryd.prog 116 #[.pointer p, .int .i64 (ju : Int), .int .i64 ((ju : Int) - 1)] wr fun e w' => e = .returned (.bool true) ∧ I du w') := HL.out du ju true wr HI.out (by omega) (by omega) hlv
                      have CS : Hid (∀ W, I du W → Calls Tryd.prog 117 #[.pointer p, .int .i64 (ju : Int), .int .i64 ((ju : Int) - 1)] W fun e w' => e = .returned (.tuple #[]) ∧ I (swp du ju (ju - 1)) w') := fun W hI => HS.out du ju W hI (by omega) (by omega)
                      have HU2 : Hid (shiftUp lt b (ju + 1) (swp du ju (ju - 1)) = shiftUp lt b (kx + 1) dj) := by show _ = _; rw [← HU.out, shiftUp_go lt b ju du hjb' hlv]
                      clear hlv
                      go_wp2_with (first | (go_at_call 116; refine CL.out.mono ?_; rintro e w1 ⟨rfl, hI1⟩) | (go_at_call 117; refine (CS.out _ hI1).mono ?_; rintro e w2 ⟨rfl, hI2⟩))
                      have HI2 : Hid (I (swp du ju (ju - 1)) w2) := hI2
                      clear hI1 hI2
                      go_roundg (b - (ju + 1))
                      case measure => omega
                      case rel => exact ⟨ju + 1, _, by go_num, by omega, by omega, Nat.le_refl _, HI2, HU2⟩
                    | false =>
                      have CL : Hid (Calls Tryd.prog 116 #[.pointer p, .int .i64 (ju : Int), .int .i64 ((ju : Int) - 1)] wr fun e w' => e = .returned (.bool false) ∧ I du w') := HL.out du ju false wr HI.out (by omega) (by omega) hlv
                      have HQ3 : Hid (partialIns lt a b (5 - (s + 1)) kx du = partialIns lt a b 5 (a + 1) d) := by show _ = _; rw [← HQ2.out, HF.out, ← HU.out, shiftUp_stop lt b ju du (Or.inr hlv)]
                      clear hlv
                      go_wp2_with (go_at_call 116; refine CL.out.mono ?_; rintro e w1 ⟨rfl, hI1⟩)
                      have HI1 : Hid (I du w1) := hI1
                      clear hI1
                      go_roundg (5 - (s + 1))
                      case measure => omega
                      case rel => exact ⟨kx, s + 1, du, rfl, by go_num, by omega, Nat.le_refl _, by omega, by omega, HI1, HQ3⟩
                  · have hjz : ¬ (ju : Int) < (b : Int) := by omega
                    have HQ3 : Hid (partialIns lt a b (5 - (s + 1)) kx du = partialIns lt a b 5 (a + 1) d) := by show _ = _; rw [← HQ2.out, HF.out, ← HU.out, shiftUp_stop lt b ju du (Or.inl hjb')]
                    go_wp2
                    go_roundg (5 - (s + 1))
                    case measure => omega
                    case rel => exact ⟨kx, s + 1, du, rfl, by go_num, by omega, Nat.le_refl _, by omega, by omega, HI, HQ3⟩
              · have hbkz : ¬ (2 : Int) ≤ (b : Int) - (kx : Int) := by omega
                have HQ3 : Hid (partialIns lt a b (5 - (s + 1)) kx dj = partialIns lt a b 5 (a + 1) d) := by show _ = _; rw [← HQ2.out]; unfold fixUp; rw [if_neg hbk]
                go_wp2
                go_roundg (5 - (s + 1))
                case measure => omega
                case rel => exact ⟨kx, s + 1, dj, rfl, by go_num, by omega, Nat.le_refl _, by omega, by omega, HI, HQ3⟩
        · have hkz : ((kx : Int) == (b : Int)) = true := by simp; omega
          have HV : Hid (Sort.partialInsertionSort lt d a b = (dk, true)) := by
            show _ = _
            unfold Sort.partialInsertionSort
            rw [← HQ.out, pi_true lt a b s i dk hs (by rw [HK.out]; omega)]
          go_wp2
          go_ret
          rw [HV.out]
          exact ⟨rfl, HI.out⟩
    · obtain rfl : s = 5 := by omega
      have HV : Hid (Sort.partialInsertionSort lt d a b = (dk, false)) := by
        show _ = _
        unfold Sort.partialInsertionSort
        rw [← HQ.out, pi_end]
      go_wp2
      go_ret
      rw [HV.out]
      exact ⟨rfl, HI.out⟩
end Go.Proofs.Qxb6613821aDoor
