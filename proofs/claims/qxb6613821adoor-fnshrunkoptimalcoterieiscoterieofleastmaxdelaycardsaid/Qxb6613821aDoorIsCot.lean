/- The law IsCoterieOfLeastMaxDelay. -/
import Derived.Test.Qxb6613821aDoorFree0
import Derived.Test.Qxb6613821aDoorGood
import Derived.Test.Qxb6613821aDoorBytes5
import Derived.Test.Qxb6613821aDoorMxd
import Derived.Test.Qxb6613821aDoorMeet
import Derived.BigRegion
namespace Go.Proofs.Qxb6613821aDoor
set_option linter.unusedVariables false
set_option linter.unusedSimpArgs false
open Ieee Go.RowKit

theorem mir_q {x y : Nat} (hx : nf x = true) (hy : nf y = true) (h : (FloatKind.f64.format.order x y != some .eq) = false) : q x = q y := by
  have e : FloatKind.f64.format.order x y = some (compare (q x) (q y)) := order_q hx hy
  rw [e] at h
  cases hc : compare (q x) (q y) with
  | eq => exact Nat.compare_eq_eq.1 hc
  | lt => rw [hc] at h; simp at h
  | gt => rw [hc] at h; simp at h
theorem ge_q {x y : Nat} (hx : nf x = true) (hy : nf y = true) (h : q y ≤ q x) : (FloatKind.f64.format.order x y == some .gt || FloatKind.f64.format.order x y == some .eq) = true := by
  have e : FloatKind.f64.format.order x y = some (compare (q x) (q y)) := order_q hx hy
  rw [e]
  cases hc : compare (q x) (q y) with
  | eq => rfl
  | gt => rfl
  | lt => exact absurd (Nat.compare_eq_lt.1 hc) (by omega)

theorem quiet_in {P : Program} {f : FuncId} {args : Array Value} {w : World} {k x : Nat} {v : Value} (h : Calls P f args (w.drewN (k + x)) fun e w' => e = .returned v ∧ ∃ m, w' = (w.drewN (k + x)).drewN m) :
    Calls P f args (w.drewN (k + x)) fun e w'' => e = .returned v ∧ ∃ n, w'' = w.drewN (k + n) :=
  h.mono fun _ _ ⟨he, m, hm⟩ => ⟨he, x + m, by rw [hm, World.drewN_drewN, Nat.add_assoc]⟩

set_option maxHeartbeats 8000000 in
theorem isCot_any (b o m cap : Nat) (go : Option Addr) (rg : Nat → Option Addr) (rl rc : Nat → Nat) (d : Nat → Nat → Nat) (w : World) (hG : GM w b o m rg rl rc d) (hgo : 0 < m → go = some ⟨b, o, none⟩) (hm : m < 9223372036854775808) (hd : ∀ i j, i < m → j < rl i → d i j < 2 ^ 64) (hT : TabAt 1 Lib.deBruijn64tab w) :
    Calls Tryd.prog 3 #[.slice go m cap] w fun e w' => e = .returned (.bool true) ∧ Below w.heap.size w w' := by
  have HG : Hid (GM w b o m rg rl rc d) := hG
  have HGO : Hid (0 < m → go = some ⟨b, o, none⟩) := hgo
  have HD : Hid (∀ i j, i < m → j < rl i → d i j < 2 ^ 64) := hd
  have HT : Hid (TabAt 1 Lib.deBruijn64tab w) := hT
  clear hG hgo hd hT
  go_enter Tryd.func3, Tryd.ntmps3
  go_wp2_with fail
  refine (bytes5_any b o m cap go rg rl rc d _ HG.out HGO.out hm).mono ?_
  rintro e' w' ⟨rfl, ⟨rfl, hm2, hrl⟩ | rfl⟩
  case inr =>
    go_wp2
    go_ret
    exact ⟨rfl, Below.refl _ _⟩
  have HRL : Hid (∀ i, i < m → rl i ≤ 1048576) := hrl
  clear hrl hm
  go_wp2
  go_loopw [3, 18] (fun vt vi wr => ∃ i T : Nat, vi = .int .i64 i ∧ vt = .int .i64 T ∧ i ≤ m ∧ T ≤ 1048576 ∧ wr = w') (fun _ vi _ => m - (intOf vi).toNat)
  case atStart => exact ⟨0, 0, rfl, rfl, Nat.zero_le _, by omega, rfl⟩
  case round =>
    obtain ⟨i, T, rfl, rfl, hi, hN, rfl⟩ := hrel
    by_cases hlt : i < m
    · have hgo := HGO.out (by omega)
      subst hgo
      have hr := HG.out.row i hlt
      have hlen := HRL.out i hlt
      generalize rl i = ri at *
      by_cases h3 : T + (8 + 8 * ri) ≤ 1048576
      · go_wp2
        go_roundw
        case rel => exact ⟨i + 1, T + (8 + 8 * ri), by go_num, by go_num, by omega, h3, by first | trivial | rfl⟩
        case measure => simp [intOf]; omega
      · go_wp2
        go_ret
        exact ⟨rfl, Below.refl _ _⟩
    · clear hN
      by_cases hn : 1 ≤ m ∧ m ≤ 256
      · obtain ⟨hn0, hn⟩ := hn
        have hgo := HGO.out (by omega)
        subst hgo
        clear hi
        obtain ⟨W0, hW0⟩ : ∃ W, W = wr := ⟨_, rfl⟩
        subst hW0
        go_wp2_with fail
        refine (metric_any b o m cap (some ⟨b, o, none⟩) rg rl rc d _ HG.out (fun _ => rfl) hm2 HRL.out).mono ?_
        rintro e' w1 ⟨⟨k1, hw1⟩, ⟨rfl, hM⟩ | rfl⟩
        case inr =>
          have HB1 : Hid (Below W0.heap.size W0 w1) := by rw [hw1]; exact (Below.refl _ _).drewN' k1
          clear hw1
          go_wp2
          go_ret
          exact ⟨rfl, HB1.out⟩
        have HB1 : Hid (Below W0.heap.size W0 w1) := by rw [hw1]; exact (Below.refl _ _).drewN' k1
        have HM : Hid (Metric m rl d) := hM
        have HG1 : Hid (GM w1 b o m rg rl rc d) := HG.out.keep HB1.out
        have HT1 : Hid (TabAt 1 Lib.deBruijn64tab w1) := tab_grown HT.out (grown_below HB1.out none) (by simp)
        have HNF : Hid (NF d m) := fun i j hi hj => (HM.out.ok i j hi hj).nf (HD.out i j hi (by rw [HM.out.sq i hi]; exact hj))
        have HZ : Hid (∀ a, a < m → q (d a a) = 0) := fun a ha => diag_q (HNF.out a a ha ha) (HM.out.diag a ha)
        have HSY : Hid (∀ a b, a < m → b < m → q (d a b) = q (d b a)) := fun a b ha hb => mir_q (HNF.out a b ha hb) (HNF.out b a hb ha) (HM.out.mir a b ha hb)
        have HMA : Hid (MatAt w1 b o m (rbOf rg) (roOf rg) rc d) := HG1.out.mat HM.out.sq (by omega)
        have HGD : Hid (Good d m (quorums d m)) := quorums_good HNF.out HZ.out HSY.out (by omega)
        have HWF : Hid (WF (quorums d m) m) := quorums_wf HNF.out HZ.out (by omega)
        have HSH : Hid (∀ l ∈ quorums d m, l.length ≤ 65536) := fun l hl => Nat.le_trans (quorums_short d m l hl) (by omega)
        clear hM hw1 HG HGO HD HRL HT HG1
        go_wp2_with fail
        refine (coterie_any b o m cap (rbOf rg) (roOf rg) rc d w1 HMA.out HNF.out HZ.out HT1.out (by omega) hn).mono ?_
        rintro e' w3 ⟨ra, rfl, hra, hQ, hB3⟩
        have HQ : Hid (QAt w3 ra (quorums d m)) := hQ
        have HB3 : Hid (Below W0.heap.size W0 w3) := HB1.out.trans (hB3.mono HB1.out.size)
        have HMA3 : Hid (MatAt w3 b o m (rbOf rg) (roOf rg) rc d) := HMA.out.keep (Nat.le_refl _) hB3
        obtain ⟨ql, hql⟩ : ∃ ql, ql = (quorums d m).length := ⟨_, rfl⟩
        have HQL : Hid (ql = (quorums d m).length) := hql
        have hqm : ql ≤ 256 := by rw [hql]; exact Nat.le_trans (quorums_len d m) hn
        have hWl := well_any ra m (quorums d m) (by rw [← hql]; omega) (by omega) HSH.out HWF.out w3 hQ
        rw [← hql] at hWl ⊢
        have HWl : Hid (Calls Tryd.prog 8 #[.slice (some ⟨ra, 0, none⟩) ql ql, .int .i64 (m : Int)] w3 fun e w' => e = .returned (.bool true) ∧ ∃ k, w' = w3.drewN k) := hWl
        clear hWl hQ hB3 hra hql HMA HT1 HB1
        go_wp2_with fail
        refine HWl.out.mono ?_
        rintro e' w4 ⟨rfl, k4, hw4⟩
        have HB4 : Hid (Below W0.heap.size W0 w4) := by rw [hw4]; exact HB3.out.drewN' k4
        have HMA4 : Hid (MatAt w4 b o m (rbOf rg) (roOf rg) rc d) := by rw [hw4]; exact HMA3.out.keep (Nat.le_refl _) ((Below.refl _ _).drewN' k4)
        have HQ4 : Hid (QAt w4 ra (quorums d m)) := by rw [hw4]; exact HQ.out.keep ((Below.refl _ _).drewN' k4)
        clear hw4 HWl HB3 HMA3 HQ
        go_wp2
        go_loopw [8] (fun va wx => ∃ a k : Nat, a ≤ ql ∧ va = .int .i64 a ∧ wx = w4.drewN k) (fun va _ => ql - (intOf va).toNat)
        case atStart => exact ⟨0, 0, Nat.zero_le _, rfl, rfl⟩
        case round =>
          obtain ⟨a, k, ha, rfl, rfl⟩ := hrel
          by_cases hal : a < ql
          · go_wp2
            go_loopw [9] (fun vb wx => ∃ c k : Nat, c ≤ ql ∧ vb = .int .i64 c ∧ wx = w4.drewN k) (fun vb _ => ql - (intOf vb).toNat)
            case atStart => exact ⟨0, k, Nat.zero_le _, rfl, rfl⟩
            case round =>
              obtain ⟨c, k2, hc, rfl, rfl⟩ := hrel
              by_cases hcl : c < ql
              · by_cases hac : a = c
                · subst hac
                  have hne : ((a : Int) != (a : Int)) = false := by simp
                  go_wp2
                  go_quiet (fail)
                  go_wp2
                  go_roundw
                  case rel => exact ⟨a + 1, _, by omega, by go_num, by first | rfl | exact World.drewN_drewN _ _ _⟩
                  case measure => simp [intOf]; omega
                · have hne : ((a : Int) != (c : Int)) = true := by simp; omega
                  obtain ⟨l1, hl1⟩ : ∃ l, (quorums d m)[a]? = some l := ⟨_, List.getElem?_eq_getElem (by rw [← HQL.out]; exact hal)⟩
                  obtain ⟨l2, hl2⟩ : ∃ l, (quorums d m)[c]? = some l := ⟨_, List.getElem?_eq_getElem (by rw [← HQL.out]; exact hcl)⟩
                  have m1 := List.mem_of_getElem? hl1
                  have m2 := List.mem_of_getElem? hl2
                  obtain ⟨go1, c1, a1, a2, a3⟩ := HQ4.out.row a l1 hl1
                  obtain ⟨go2, c2, b1, b2, b3⟩ := HQ4.out.row c l2 hl2
                  obtain ⟨v, hv1, hv2⟩ := HGD.out.meet l1 m1 l2 m2
                  obtain ⟨p1, hp1⟩ := List.getElem?_of_mem hv1
                  obtain ⟨p2, hp2⟩ := List.getElem?_of_mem hv2
                  obtain ⟨g1, rfl, _⟩ := a3 p1 v hp1
                  obtain ⟨g2, rfl, _⟩ := b3 p2 v hp2
                  have A3 : Hid (∀ (j x : Nat), l1[j]? = some x → w4.cell? ⟨g1, j, none⟩ = some (.int .i64 (x : Int))) := fun j x hx => by
                    obtain ⟨g, e, hh⟩ := a3 j x hx
                    cases e; exact hh
                  have B3 : Hid (∀ (j x : Nat), l2[j]? = some x → w4.cell? ⟨g2, j, none⟩ = some (.int .i64 (x : Int))) := fun j x hx => by
                    obtain ⟨g, e, hh⟩ := b3 j x hx
                    cases e; exact hh
                  have HMT : Hid (∀ W : World, (∀ x, W.cell? x = w4.cell? x) → Calls Tryd.prog 9 #[.slice (some ⟨g1, 0, none⟩) l1.length c1, .slice (some ⟨g2, 0, none⟩) l2.length c2] W fun e w' => e = .returned (.bool true) ∧ ∃ k, w' = W.drewN k) := fun W hW =>
                    meet_any g1 g2 c1 c2 v l1 l2 (HSH.out l1 m1) (HSH.out l2 m2) a2 b2 (HWF.out.asc l1 m1) (HWF.out.asc l2 m2) hv1 hv2 W (fun j x hx => by rw [hW]; exact A3.out j x hx) (fun j x hx => by rw [hW]; exact B3.out j x hx)
                  have HSB : Hid (∀ W : World, (∀ x, W.cell? x = w4.cell? x) → Calls Tryd.prog 10 #[.slice (some ⟨g1, 0, none⟩) l1.length c1, .slice (some ⟨g2, 0, none⟩) l2.length c2] W fun e w' => e = .returned (.bool false) ∧ ∃ k, w' = W.drewN k) := fun W hW =>
                    subset_any g1 g2 c1 c2 l1 l2 (HSH.out l1 m1) (HSH.out l2 m2) a2 b2 (quorums_anti hl1 hl2 hac) W (fun j x hx => by rw [hW]; exact A3.out j x hx) (fun j x hx => by rw [hW]; exact B3.out j x hx)
                  clear hv1 hv2 hp1 hp2 a3 b3 A3 B3 m1 m2 hl1 hl2
                  generalize l1.length = n1 at *
                  generalize l2.length = n2 at *
                  go_wp2
                  go_quiet ((first | (go_at_call 9; exact quiet_in (HMT.out _ (fun _ => rfl))) | (go_at_call 10; exact quiet_in (HSB.out _ (fun _ => rfl)))))
                  go_wp2
                  go_roundw
                  case rel => exact ⟨c + 1, _, by omega, by go_num, by first | rfl | exact World.drewN_drewN _ _ _⟩
                  case measure => simp [intOf]; omega
              · go_wp2
                go_roundw
                case rel => exact ⟨a + 1, _, by omega, by go_num, by first | rfl | exact World.drewN_drewN _ _ _⟩
                case measure => simp [intOf]; omega
          · have HB5 : Hid (Below W0.heap.size W0 (w4.drewN k)) := HB4.out.drewN' k
            have HMA5 : Hid (MatAt (w4.drewN k) b o m (rbOf rg) (roOf rg) rc d) := HMA4.out.keep (Nat.le_refl _) ((Below.refl _ _).drewN' k)
            have HQ5 : Hid (QAt (w4.drewN k) ra (quorums d m)) := HQ4.out.keep ((Below.refl _ _).drewN' k)
            generalize w4.drewN k = w5 at *
            clear HB4 HMA4 HQ4
            have hMX := mxd_any b o m cap ra (rbOf rg) (roOf rg) rc d (quorums d m) w5 HMA5.out HNF.out hn (by rw [← HQL.out]; omega) HSH.out HWF.out.lt HQ5.out.row
            rw [← HQL.out] at hMX
            have NE := nf_lmd HNF.out
            have ND := nf_mxd HNF.out HGD.out
            have hge := ge_q ND NE (delay_ge HNF.out HGD.out)
            have HTO : Hid (q (lmd d m) < q (mxd d m (quorums d m)) → fle (fsub (mxd d m (quorums d m)) (lmd d m)) (if flt one (lmd d m) then fmul tole (lmd d m) else tole) = true) := delay_tol HNF.out HGD.out
            have hLM := lmd_any b o m cap (rbOf rg) (roOf rg) rc d w5 HMA5.out HNF.out hn
            generalize lmd d m = ex at *
            generalize mxd d m (quorums d m) = dl at *
            have HLM : Hid (Calls Tryd.prog 11 #[.slice (some ⟨b, o, none⟩) m cap] w5 fun e w' => e = .returned (.float .f64 ex) ∧ w' = w5) := hLM
            have HMX : Hid (Calls Tryd.prog 12 #[.slice (some ⟨b, o, none⟩) m cap, .slice (some ⟨ra, 0, none⟩) ql ql] w5 fun e w' => e = .returned (.float .f64 dl) ∧ w' = w5) := hMX
            have NEx : Hid (nf ex = true) := NE
            have NDl : Hid (nf dl = true) := ND
            clear hLM hMX NE ND
            have hsub : ∀ t w, (binOp .sub t (.float .f64 dl) (.float .f64 ex)).run Tryd.prog w = .ok (.float .f64 (fsub dl ex)) w := fun t w => run_float_arith w .sub t .f64 dl ex _ (sub_some NDl.out NEx.out)
            have hmul : ∀ t w, (binOp .mul t (.float .f64 4487126258331716666) (.float .f64 ex)).run Tryd.prog w = .ok (.float .f64 (fmul tole ex)) w := fun t w => run_float_arith w .mul t .f64 _ _ _ (mul_some nf_tole NEx.out)
            have HOG : Hid ((FloatKind.f64.format.order ex 4607182418800017408 == some .gt) = flt one ex) := order_gt NEx.out nf_one
            go_wp2_with fail
            refine HLM.out.mono ?_
            rintro e' w6 ⟨rfl, hw6⟩
            have hw6' := hw6.symm
            subst hw6'
            clear hw6
            go_wp2_with fail
            refine HMX.out.mono ?_
            rintro e' w7 ⟨rfl, hw7⟩
            have hw7' := hw7.symm
            subst hw7'
            clear hw7 HLM HMX
            cases hle : (FloatKind.f64.format.order dl ex == some .lt || FloatKind.f64.format.order dl ex == some .eq) with
            | true =>
              cases hog : (FloatKind.f64.format.order ex 4607182418800017408 == some .gt) with
              | true =>
                go_wp2
                go_ret
                exact ⟨rfl, HB5.out⟩
              | false =>
                go_wp2
                go_ret
                exact ⟨rfl, HB5.out⟩
            | false =>
              have hq : q ex < q dl := by
                have h1 : fle dl ex = false := hle
                rw [fle_q NDl.out NEx.out, decide_eq_false_iff_not] at h1
                omega
              have hto := HTO.out hq
              cases hog : (FloatKind.f64.format.order ex 4607182418800017408 == some .gt) with
              | true =>
                rw [← HOG.out, hog, if_pos rfl] at hto
                have hto2 : (FloatKind.f64.format.order (fsub dl ex) (fmul tole ex) == some .lt || FloatKind.f64.format.order (fsub dl ex) (fmul tole ex) == some .eq) = true := hto
                clear hto hq
                generalize fsub dl ex = fs at *
                generalize fmul tole ex = fm at *
                go_wp2
                go_ret
                exact ⟨rfl, HB5.out⟩
              | false =>
                rw [← HOG.out, hog, if_neg (by decide)] at hto
                have hto2 : (FloatKind.f64.format.order (fsub dl ex) 4487126258331716666 == some .lt || FloatKind.f64.format.order (fsub dl ex) 4487126258331716666 == some .eq) = true := hto
                clear hto hq
                generalize fsub dl ex = fs at *
                go_wp2
                go_ret
                exact ⟨rfl, HB5.out⟩
      · by_cases h1 : m < 1
        · go_wp2
          go_ret
          exact ⟨rfl, Below.refl _ _⟩
        · go_wp2
          go_ret
          exact ⟨rfl, Below.refl _ _⟩
end Go.Proofs.Qxb6613821aDoor
