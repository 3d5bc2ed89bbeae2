/- The law UnitFree. -/
import Derived.Test.Qxb6613821aDoorFree0
import Derived.BigRegion
namespace Go.Proofs.Qxb6613821aDoor
set_option linter.unusedVariables false
set_option linter.unusedSimpArgs false
open Ieee Go.RowKit

set_option maxHeartbeats 8000000 in
theorem free_any (b o m cap : Nat) (go : Option Addr) (rg : Nat → Option Addr) (rl rc : Nat → Nat) (d : Nat → Nat → Nat) (w : World) (hG : GM w b o m rg rl rc d) (hgo : 0 < m → go = some ⟨b, o, none⟩) (hm : m < 9223372036854775808) (hd : ∀ i j, i < m → j < rl i → d i j < 2 ^ 64) (hT : TabAt 1 Lib.deBruijn64tab w) :
    Calls Tryd.prog 4 #[.slice go m cap] w fun e w' => e = .returned (.bool true) ∧ Below w.heap.size w w' := by
  have HG : Hid (GM w b o m rg rl rc d) := hG
  have HGO : Hid (0 < m → go = some ⟨b, o, none⟩) := hgo
  have HD : Hid (∀ i j, i < m → j < rl i → d i j < 2 ^ 64) := hd
  have HT : Hid (TabAt 1 Lib.deBruijn64tab w) := hT
  clear hG hgo hd hT
  go_enter Tryd.func4, Tryd.ntmps4
  go_wp2_with fail
  refine (bytes_any b o m cap go rg rl rc d _ HG.out HGO.out hm).mono ?_
  rintro e' w' ⟨rfl, ⟨rfl, hm2, hrl⟩ | rfl⟩
  case inr =>
    go_wp2
    go_ret
    exact ⟨rfl, Below.refl _ _⟩
  have HRL : Hid (∀ i, i < m → rl i ≤ 1048576) := hrl
  clear hrl hm
  go_wp2
  go_loopw [3, 17] (fun vt vi wr => ∃ i T : Nat, vi = .int .i64 i ∧ vt = .int .i64 T ∧ i ≤ m ∧ T ≤ 1048576 ∧ wr = w') (fun _ vi _ => m - (intOf vi).toNat)
  case atStart => exact ⟨0, 0, rfl, rfl, Nat.zero_le _, by omega, rfl⟩
  case round =>
    obtain ⟨i, T, rfl, rfl, hi, hN, rfl⟩ := hrel
    by_cases hlt : i < m
    · have hgo := HGO.out (by omega)
      subst hgo
      have hr := HG.out.row i hlt
      have hlen := HRL.out i hlt
      generalize rl i = ri at *
      by_cases h3 : T + (8 + 8 * ri) ≤ 1048576
      · go_wp2
        go_roundw
        case rel => exact ⟨i + 1, T + (8 + 8 * ri), by go_num, by go_num, by omega, h3, by first | trivial | rfl⟩
        case measure => simp [intOf]; omega
      · go_wp2
        go_ret
        exact ⟨rfl, Below.refl _ _⟩
    · clear hN
      by_cases hn : 1 ≤ m ∧ m ≤ 256
      · obtain ⟨hn0, hn⟩ := hn
        have hgo := HGO.out (by omega)
        subst hgo
        clear hi
        obtain ⟨W0, hW0⟩ : ∃ W, W = wr := ⟨_, rfl⟩
        subst hW0
        go_wp2_with fail
        refine (metric_any b o m cap (some ⟨b, o, none⟩) rg rl rc d _ HG.out (fun _ => rfl) hm2 HRL.out).mono ?_
        rintro e' w1 ⟨⟨k1, hw1⟩, ⟨rfl, hM⟩ | rfl⟩
        case inr =>
          have HB1 : Hid (Below W0.heap.size W0 w1) := by rw [hw1]; exact (Below.refl _ _).drewN' k1
          clear hw1
          go_wp2
          go_ret
          exact ⟨rfl, HB1.out⟩
        have HB1 : Hid (Below W0.heap.size W0 w1) := by rw [hw1]; exact (Below.refl _ _).drewN' k1
        have HM : Hid (Metric m rl d) := hM
        have HG1 : Hid (GM w1 b o m rg rl rc d) := HG.out.keep HB1.out
        have HT1 : Hid (TabAt 1 Lib.deBruijn64tab w1) := tab_grown HT.out (grown_below HB1.out none) (by simp)
        clear hM hw1
        go_wp2_with fail
        refine (unit_any b o m cap (some ⟨b, o, none⟩) rg rl rc d w1 HG1.out (fun _ => rfl) hm2 HRL.out).mono ?_
        rintro e' w2 ⟨hw2, ⟨rfl, hU⟩ | rfl⟩
        case inr =>
          subst hw2
          go_wp2
          go_ret
          exact ⟨rfl, HB1.out⟩
        have hw2' := hw2.symm
        subst hw2'
        clear hw2
        have HU : Hid (∀ i j, i < m → j < m → unitOk (d i j) = true) := fun i j hi hj => hU i j hi (by rw [HM.out.sq i hi]; exact hj)
        have HNF : Hid (NF d m) := fun i j hi hj => (HM.out.ok i j hi hj).nf (HD.out i j hi (by rw [HM.out.sq i hi]; exact hj))
        have HZ : Hid (∀ a, a < m → q (d a a) = 0) := fun a ha => diag_q (HNF.out a a ha ha) (HM.out.diag a ha)
        have HMA : Hid (MatAt w1 b o m (rbOf rg) (roOf rg) rc d) := HG1.out.mat HM.out.sq (by omega)
        clear hU
        go_wp2_with fail
        refine (coterie_any b o m cap (rbOf rg) (roOf rg) rc d w1 HMA.out HNF.out HZ.out HT1.out (by omega) hn).mono ?_
        rintro e' w3 ⟨ra, rfl, hra, hQ, hB3⟩
        have HQ : Hid (QAt w3 ra (quorums d m)) := hQ
        have HB3 : Hid (Below W0.heap.size W0 w3) := HB1.out.trans (hB3.mono HB1.out.size)
        have HG3 : Hid (GM w3 b o m rg rl rc d) := HG1.out.keep hB3
        have HT3 : Hid (TabAt 1 Lib.deBruijn64tab w3) := tab_grown HT1.out (grown_below hB3 none) (by simp)
        have hs3 : W0.heap.size ≤ w3.heap.size := HB3.out.size
        obtain ⟨ql, hql⟩ : ∃ ql, ql = (quorums d m).length := ⟨_, rfl⟩
        have HQL : Hid (ql = (quorums d m).length) := hql
        have hqm : ql ≤ 256 := by rw [hql]; exact Nat.le_trans (quorums_len d m) hn
        rw [← hql]
        clear hQ hB3 hra hql HMA HT1 HG1 HB1 HT HG HGO HD
        have hmk : ∀ w : World, (Instr.makeSlice 22 (.int .i64 (m : Int)) (.int .i64 (m : Int))).run Tryd.prog w = .ok (.slice (some ⟨w.heap.size, 0, none⟩) m m) (w.alloc (.cells (madeCells #[.slice none 0 0] m) 24)) := fun w =>
          run_make_row' (P := Tryd.prog) 22 24 (.slice none 0 0) 24 Tryd.underlying22 info24 rfl .i64 .i64 m (by omega) (by omega) w
        go_wp2
        clear hmk
        go_loopw [9] (fun vi wx => ∃ i : Nat, i ≤ m ∧ vi = .int .i64 i ∧ Hid (Below w3.heap.size w3 wx) ∧ Hid (TwAt wx w3.heap.size m i d)) (fun vi _ => m - (intOf vi).toNat)
        case atStart => exact ⟨0, Nat.zero_le _, rfl, (Below.refl _ _).alloc (Nat.le_refl _) _, TwAt.start w3 m d⟩
        case round =>
          obtain ⟨i2, hi2, rfl, HBx, HTw⟩ := hrel
          obtain ⟨W1, hW1⟩ : ∃ W, W = wr := ⟨_, rfl⟩
          subst hW1
          by_cases hil : i2 < m
          · have hc : W1.cell? ⟨w3.heap.size, i2, none⟩ = some (.slice none 0 0) := by have := HTw.out.out.cell hil; simpa using this
            have hf := HTw.out.out.frozen i2
            have hl1 := HTw.out.out.lt
            have hmk2 : ∀ w : World, (Instr.makeSlice 24 (.int .i64 (m : Int)) (.int .i64 (m : Int))).run Tryd.prog w = .ok (.slice (some ⟨w.heap.size, 0, none⟩) m m) (w.alloc (.cells (madeCells #[.float .f64 0] m) 30)) := fun w =>
              run_make_row' (P := Tryd.prog) 24 30 (.float .f64 0) 8 Tryd.underlying24 info30 rfl .i64 .i64 m (by omega) (by omega) w
            go_wp2
            clear hmk2 hc hf
            go_loopw [10] (fun vj wy => ∃ j : Nat, j ≤ m ∧ vj = .int .i64 j ∧ Hid (Below w3.heap.size w3 wy) ∧ Hid (TwRow wy w3.heap.size m i2 j d)) (fun vj _ => m - (intOf vj).toNat)
            case atStart => exact ⟨0, Nat.zero_le _, rfl, (HBx.out.setCell (Nat.le_refl _) _).alloc (by simp; omega) _, HTw.out.row⟩
            case round =>
              obtain ⟨j, hj, rfl, HBy, HRw⟩ := hrel
              by_cases hjm : j < m
              · have HG4 : Hid (GM wr b o m rg rl rc d) := HG3.out.keep HBy.out
                have hr := HG4.out.row i2 hil
                have hcap := HG4.out.cap i2 hil
                have hsq := HM.out.sq i2 hil
                obtain ⟨g, p, hg, he⟩ := HG4.out.el i2 j hil (by omega)
                rw [hg, hsq] at hr
                rw [hsq] at hcap
                clear hg hsq
                have ht : wr.cell? ⟨w3.heap.size, i2, none⟩ = some (.slice (some ⟨w3.heap.size + 1 + i2, 0, none⟩) m m) := by have := HRw.out.out.cell hil; simpa using this
                have hcc := HRw.out.cur.cell hjm
                have hff := HRw.out.cur.frozen j
                simp only [Nat.lt_irrefl, if_false] at hcc
                have HX : Hid (TwRow (wr.setCell ⟨w3.heap.size + 1 + i2, j, none⟩ (.float .f64 (dbl (d i2 j)))) w3.heap.size m i2 (j + 1) d) := HRw.out.next
                have hmul : ∀ t w, (binOp .mul t (.float .f64 4611686018427387904) (.float .f64 (d i2 j))).run Tryd.prog w = .ok (.float .f64 (dbl (d i2 j))) w := fun t w => run_float_arith w .mul t .f64 _ _ _ (mul_two (HNF.out i2 j hil hjm))
                have hst : ∀ (w : World) (a : Addr) (x : Nat) (md : Mode), (store a (.float .f64 x) md).run Tryd.prog w = stored Tryd.prog w a (.float .f64 x) md := fun w a x md => run_store Tryd.prog w a (.float .f64 x) md rfl
                generalize d i2 j = dx at *
                generalize dbl dx = dy at *
                go_wp2_with fail
                go_region
                all_goals
                  go_wp2
                  go_roundw
                  case rel => exact ⟨j + 1, by omega, by go_num, (HBy.out.setCell (by show w3.heap.size ≤ w3.heap.size + 1 + i2; omega) _).drewN' _, HX.out.drewN _⟩
                  case measure => simp [intOf]; omega
              · have HF2 : Hid (TwAt wr w3.heap.size m (i2 + 1) d) := by
                  have h := HRw.out
                  rw [show j = m from by omega] at h
                  exact h.full
                go_wp2
                go_roundw
                case rel => exact ⟨i2 + 1, by omega, by go_num, HBy, HF2⟩
                case measure => simp [intOf]; omega
          · have HTm : Hid (TwAt W1 w3.heap.size m m d) := by
              have h := HTw.out
              rw [show i2 = m from by omega] at h
              exact h
            have hC := coterie_any w3.heap.size 0 m m (fun k => w3.heap.size + 1 + k) (fun _ => 0) (fun _ => m) (fun i j => dbl (d i j)) W1 HTm.out.mat (nf_dbl HNF.out HU.out) (fun a ha => diag_dbl (HNF.out a a ha ha) (HZ.out a ha)) (tab_grown HT3.out (grown_below HBx.out none) (by simp)) (by omega) hn
            rw [quorums_dbl HNF.out HU.out, ← HQL.out] at hC
            have HC : Hid (Calls Tryd.prog 7 #[.slice (some ⟨w3.heap.size, 0, none⟩) m m] W1 fun e w' => ∃ rb, e = .returned (.slice (some ⟨rb, 0, none⟩) ql ql) ∧ W1.heap.size ≤ rb ∧ QAt w' rb (quorums d m) ∧ Below W1.heap.size W1 w') := hC
            clear hC
            go_wp2_with fail
            refine HC.out.mono ?_
            rintro e' w5 ⟨rb2, rfl, hrb2, hQ2, hB5⟩
            have HB5 : Hid (Below w3.heap.size w3 w5) := HBx.out.trans (hB5.mono HBx.out.size)
            have HQ2 : Hid (QAt w5 rb2 (quorums d m)) := hQ2
            have HQ1 : Hid (QAt w5 ra (quorums d m)) := HQ.out.keep HB5.out
            have HSH : Hid (∀ l ∈ quorums d m, l.length ≤ 65536) := fun l hl => Nat.le_trans (quorums_short d m l hl) (by omega)
            have hWl := well_any ra m (quorums d m) (by rw [← HQL.out]; omega) (by omega) HSH.out (quorums_wf HNF.out HZ.out (by omega)) w5 HQ1.out
            rw [← HQL.out] at hWl
            have HWl : Hid (Calls Tryd.prog 8 #[.slice (some ⟨ra, 0, none⟩) ql ql, .int .i64 (m : Int)] w5 fun e w' => e = .returned (.bool true) ∧ ∃ k, w' = w5.drewN k) := hWl
            clear hWl hQ2 hB5 HC hrb2
            go_wp2_with fail
            refine HWl.out.mono ?_
            rintro e' w6 ⟨rfl, k6, hw6⟩
            have HB6 : Hid (Below w5.heap.size w5 w6) := by rw [hw6]; exact (Below.refl _ _).drewN' k6
            have hSm := same_any ra rb2 (quorums d m) (by rw [← HQL.out]; omega) HSH.out w6 (HQ1.out.keep HB6.out) (HQ2.out.keep HB6.out)
            rw [← HQL.out] at hSm
            have HSm : Hid (Calls Tryd.prog 15 #[.slice (some ⟨ra, 0, none⟩) ql ql, .slice (some ⟨rb2, 0, none⟩) ql ql] w6 fun e w' => e = .returned (.bool true) ∧ ∃ k, w' = w6.drewN k) := hSm
            clear hSm hw6
            go_wp2_with fail
            refine HSm.out.mono ?_
            rintro e' w7 ⟨rfl, k7, hw7⟩
            have HB7 : Hid (Below W0.heap.size W0 w7) := by
              have h6 : Below W0.heap.size W0 w6 := HB3.out.trans ((HB5.out.mono hs3).trans (HB6.out.mono (Nat.le_trans hs3 HB5.out.size)))
              rw [hw7]
              exact h6.drewN' k7
            clear hw7
            go_wp2
            go_ret
            exact ⟨rfl, HB7.out⟩
      · by_cases h1 : m < 1
        · go_wp2
          go_ret
          exact ⟨rfl, Below.refl _ _⟩
        · go_wp2
          go_ret
          exact ⟨rfl, Below.refl _ _⟩
end Go.Proofs.Qxb6613821aDoor
