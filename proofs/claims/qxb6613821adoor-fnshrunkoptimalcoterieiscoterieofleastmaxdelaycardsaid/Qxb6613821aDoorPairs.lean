/- (Family).holdingSmaller where there are few sets. -/
import Derived.Test.Qxb6613821aDoorSmaller
namespace Go.Proofs.Qxb6613821aDoor
set_option linter.unusedVariables false
set_option linter.unusedSimpArgs false
open Ieee Go.RowKit Go.Sort Go.Lib

/-- The world behind the first steps of holdingSmaller. -/
structure HS0 (w wx : World) (wb hb bb sb n wd M : Nat) (f : Nat → Value) : Prop where
  row : wx.rowIs wb 68 14 (fun o => if o = 6 then .slice (some ⟨hb, 0, none⟩) n n else f o)
  box : wx.rowIs w.heap.size 39 3 (fun o => if o = 0 then .int .i64 (wd : Int) else if o = 1 then .slice (some ⟨bb, 0, none⟩) M M else .slice (some ⟨sb, 0, none⟩) n n)
  hol : wx.rowIs hb 4 n (fun _ => .bool false)
  fr : Fr (fun k => k = wb) w wx
  hbe : hb = w.heap.size + 1

theorem hs_start (w : World) (wb bb sb n wd M : Nat) (f : Nat → Value) (hW : w.rowIs wb 68 14 f) :
    HS0 w (((w.setCell ⟨wb, 6, none⟩ (.slice (some ⟨w.heap.size + 1, 0, none⟩) n n)).alloc (.cells (Qxb6613821aDoor.fam bb sb n wd M) 39)).alloc (.cells (madeCells #[.bool false] n) 4)) wb (w.heap.size + 1) bb sb n wd M f := by
  have hlt := hW.lt
  refine ⟨?_, ?_, ?_, ?_, rfl⟩
  · exact ((hW.set 6 _).alloc _).alloc _
  · refine World.rowIs.alloc (rowIs_alloc' _ _ _ _ _ _ (by simp) rfl (fun i hi => ?_)) _
    have h3 : i = 0 ∨ i = 1 ∨ i = 2 := by simp [fam] at hi; omega
    rcases h3 with rfl | rfl | rfl <;> simp [fam]
  · exact rowIs_made' (by simp)
  · exact (((Fr.refl (fun k => k = wb) w).setCell _ _ (Or.inl rfl)).alloc _).alloc _

set_option maxHeartbeats 8000000 in
set_option maxRecDepth 100000 in
theorem pairwise_any (wb bb sb ob n wd M : Nat) (bt sz o : Nat → Nat) (f : Nat → Value) (hM : M = n * wd) (hn0 : 0 < n) (hn : n ≤ 16) (hw0 : 0 < wd) (hw : wd ≤ 5) (hO : OrdOk bt sz wd n o) (w : World) (hF : FamAt w bb sb n M bt sz) (hW : w.rowIs wb 68 14 f) (h6 : f 6 = .slice none 0 0) (hbb : bb ≠ wb) (hsb : sb ≠ wb) (hob : ob ≠ wb)
    (hR : w.rowIs ob 3 n (fun k => .int .i64 (o k : Int))) :
    Calls Tryd.prog 36 #[.agg (fam bb sb n wd M), .slice (some ⟨ob, 0, none⟩) n n, .pointer (some ⟨wb, 0, none⟩)] w fun e w' => ∃ hb f', e = .returned (.slice (some ⟨hb, 0, none⟩) n n) ∧ w.heap.size ≤ hb ∧ w'.rowIs hb 4 n (fun q => .bool (holdsS bt sz wd n q)) ∧ Fr (fun k => k = wb) w w' ∧ w'.rowIs wb 68 14 f' ∧ f' 7 = f 7 := by
  have hwb : wb < w.heap.size := hW.lt
  have hbbl : bb < w.heap.size := World.block_lt_of_cell? _ _ (hF.bit 0 (by rw [hM]; exact Nat.mul_pos hn0 hw0))
  have hsbl : sb < w.heap.size := World.block_lt_of_cell? _ _ (hF.siz 0 hn0)
  have hobl : ob < w.heap.size := hR.lt
  have c6 := hW.cell (i := 6) (by omega)
  rw [h6] at c6
  have fz6 : w.frozen? ⟨wb, 6, none⟩ = false := hW.frozen 6
  have CB : Hid (∀ w, Calls Tryd.prog 37 #[.slice none 0 0, .int .i64 (n : Int)] w fun e w' => e = .returned (.slice (some ⟨w.heap.size, 0, none⟩) n n) ∧ w' = w.alloc (.cells (madeCells #[.bool false] n) 4)) := fun w => reuseBool_any n hn0 (by omega) w
  have HF : Hid (FamAt w bb sb n M bt sz) := hF
  have HW : Hid (w.rowIs wb 68 14 f) := hW
  have HR : Hid (w.rowIs ob 3 n (fun k => .int .i64 (o k : Int))) := hR
  have HO : Hid (OrdOk bt sz wd n o) := hO
  have CH : Hid (∀ a b, a < n → b < n → ∀ w, FamAt w bb sb n M bt sz → Calls Tryd.prog 65 #[.agg (Qxb6613821aDoor.fam bb sb n wd M), .int .i64 (a : Int), .int .i64 (b : Int)] w fun e w' => e = .returned (.bool (holdsB bt wd a b)) ∧ Below w.heap.size w w') := fun a b ha hb w hF => holds_any bb sb n wd M a b bt sz hM ha hb (by omega) hw0 hw w hF
  clear hM hF hW h6 hR hO
  simp only [fam]
  go_enter Tryd.func36, Tryd.ntmps36
  go_wp2_with (go_at_call 37; refine (CB.out _).mono ?_; rintro e w' ⟨rfl, rfl⟩)
  have HS : Hid (HS0 w (((w.setCell ⟨wb, 6, none⟩ (.slice (some ⟨w.heap.size + 1, 0, none⟩) n n)).alloc (.cells (Qxb6613821aDoor.fam bb sb n wd M) 39)).alloc (.cells (madeCells #[.bool false] n) 4)) wb (w.heap.size + 1) bb sb n wd M f) := hs_start w wb bb sb n wd M f HW.out
  simp only [fam] at HS
  generalize (((w.setCell ⟨wb, 6, none⟩ (.slice (some ⟨w.heap.size + 1, 0, none⟩) n n)).alloc (.cells #[.int .i64 (wd : Int), .slice (some ⟨bb, 0, none⟩) M M, .slice (some ⟨sb, 0, none⟩) n n] 39)).alloc (.cells (madeCells #[.bool false] n) 4)) = wX at *
  have hfX : Fr (fun k => k = wb) w wX := HS.out.fr
  have HFX : Hid (FamAt wX bb sb n M bt sz) := hfX.fam HF.out hbb hsb
  have HRX : Hid (wX.rowIs ob 3 n (fun k => .int .i64 (o k : Int))) := hfX.row HR.out hob
  have HFrX : Hid (Fr (fun k => k = wb) w wX) := hfX
  clear hfX CB c6 fz6
  rw [show decide ((n : Int) ≤ 16) = true from decide_eq_true (by omega)]
  go_loopw [36] (fun vk wr => ∃ k : Nat, vk = .int .i64 k ∧ k ≤ n ∧ Hid (Fr (fun b => b = w.heap.size + 1) wX wr) ∧ Hid (wr.rowIs (w.heap.size + 1) 4 n (fun q => .bool (hTo bt sz wd n o k q)))) (fun vk _ => n - (intOf vk).toNat)
  case atStart => exact ⟨0, rfl, Nat.zero_le _, Fr.refl _ _, HS.out.hol.congr (fun i _ => by rw [hTo_zero])⟩
  case round =>
    obtain ⟨k, rfl, hk, HFk, HHk⟩ := hrel
    by_cases hlt : k < n
    · have hrk := HFk.out.row HRX.out (by omega)
      have ck := hrk.cell (i := k) hlt
      have hqk := HO.out.lt k hlt
      obtain ⟨q, hq⟩ : ∃ q, q = o k := ⟨_, rfl⟩
      have HQ : Hid (q = o k) := hq
      rw [← hq] at ck hqk
      clear hrk hq
      go_wp2
      clear ck
      go_loopw [45] (fun vj wr => ∃ j : Nat, vj = .int .i64 j ∧ j ≤ k ∧ Hid (Fr (fun b => b = w.heap.size + 1) wX wr) ∧ Hid (wr.rowIs (w.heap.size + 1) 4 n (fun q => .bool (hTo bt sz wd n o k q))) ∧ Hid (∀ i, i < j → ¬ (sz (o i) < sz q ∧ holdsB bt wd q (o i) = true))) (fun vj _ => k - (intOf vj).toNat)
      case atStart => exact ⟨0, rfl, Nat.zero_le _, HFk, HHk, fun i hi => absurd hi (by omega)⟩
      case round =>
        clear HFk HHk
        obtain ⟨j, rfl, hj, HFj, HHj, HNo⟩ := hrel
        by_cases hjk : j < k
        · have hrj := HFj.out.row HRX.out (by omega)
          have cj := hrj.cell (i := j) (by omega)
          have hqj := HO.out.lt j (by omega)
          have hfam := HFj.out.fam HFX.out (by omega) (by omega)
          have hbox := HFj.out.row HS.out.box (by omega)
          obtain ⟨r, hr⟩ : ∃ r, r = o j := ⟨_, rfl⟩
          have HRJ : Hid (r = o j) := hr
          rw [← hr] at cj hqj
          have b0 : wr.cell? ⟨w.heap.size, 0, none⟩ = some (.int .i64 (wd : Int)) := hbox.cell (i := 0) (by omega)
          have b1 : wr.cell? ⟨w.heap.size, 1, none⟩ = some (.slice (some ⟨bb, 0, none⟩) M M) := hbox.cell (i := 1) (by omega)
          have b2 : wr.cell? ⟨w.heap.size, 2, none⟩ = some (.slice (some ⟨sb, 0, none⟩) n n) := hbox.cell (i := 2) (by omega)
          have sr := hfam.siz r hqj
          have sq := hfam.siz q hqk
          have HCH : Hid (Calls Tryd.prog 65 #[.agg (Qxb6613821aDoor.fam bb sb n wd M), .int .i64 (q : Int), .int .i64 (r : Int)] wr.drew fun e w' => e = .returned (.bool (holdsB bt wd q r)) ∧ Below wr.drew.heap.size wr.drew w') := CH.out q r hqk hqj wr.drew (hfam.keep (Nat.le_refl _) (Below.refl _ _).drew)
          clear hrj hr hfam hbox
          obtain ⟨t, ht⟩ : ∃ t : Bool, t = (decide (sz r < sz q) && holdsB bt wd q r) := ⟨_, rfl⟩
          have HT : Hid (t = (decide (sz r < sz q) && holdsB bt wd q r)) := ht
          clear ht
          go_upto_region 10 with fail
          try rw [show decide ((k : Int) < (n : Int)) = true from decide_eq_true (by omega)]
          try rw [show decide ((j : Int) < (k : Int)) = true from decide_eq_true (by omega)]
          go_cut [65] from 49 to 65 (fun v wx => v = .bool t ∧ Hid (Fr (fun b => b = w.heap.size + 1) wX wx) ∧ Hid (wx.rowIs (w.heap.size + 1) 4 n (fun q => .bool (hTo bt sz wd n o k q))))
          case first =>
            by_cases hsz : sz r < sz q
            · have HT2 : Hid (t = holdsB bt wd q r) := by show _ = _; rw [HT.out]; simp [hsz]
              go_region_with (go_at_call 65; refine HCH.out.mono ?_; rintro e w2 ⟨rfl, hb2⟩)
              all_goals
                go_wp2_with fail
                go_simp
                go_meet
                refine ⟨by rw [HT2.out], (HFj.out.drewN 1).trans (Fr.of_below hb2 (fun _ => False)) (fun b _ x => x.elim), HHj.out.of_block (hb2.block _ HHj.out.lt)⟩
            · have HT2 : Hid (t = false) := by show _ = _; rw [HT.out]; simp [hsz]
              go_quiet (fail)
              go_wp2_with fail
              go_meet
              refine ⟨by rw [HT2.out], HFj.out.drewN _, HHj⟩
          case rest =>
            obtain ⟨rfl, HF2, HH2⟩ := hcut
            clear HFj HHj HCH
            cases t with
            | true =>
              have hT := HT.out.symm
              simp only [Bool.and_eq_true, decide_eq_true_eq] at hT
              have HSq : Hid (holdsS bt sz wd n (o k) = true) := (holdsS_before HO.out hlt).2 ⟨j, hjk, by rw [← HQ.out, ← HRJ.out]; exact hT.1, by rw [← HQ.out, ← HRJ.out]; exact hT.2⟩
              have cq := HH2.out.cell (i := q) hqk
              have fq : wc.frozen? ⟨w.heap.size + 1, q, none⟩ = false := HH2.out.frozen q
              clear hT HT
              go_wp2
              go_roundw
              case rel =>
                refine ⟨k + 1, by go_num, by omega, HF2.out.setCell ⟨w.heap.size + 1, q, none⟩ _ (Or.inl rfl), (HH2.out.set q _).congr (fun i _ => ?_)⟩
                rw [hTo_step HO.out hlt, HQ.out]
                by_cases e : i = o k
                · rw [if_pos e, if_pos e, HSq.out]
                · rw [if_neg e, if_neg e]
              case measure => simp [intOf]; omega
            | false =>
              have HNB : Hid (¬ (sz (o j) < sz q ∧ holdsB bt wd q (o j) = true)) := by
                intro x
                have hT := HT.out
                rw [HRJ.out] at hT
                simp [x.1, x.2] at hT
              clear HT
              go_wp2
              go_roundw
              case rel =>
                refine ⟨j + 1, by go_num, by omega, HF2, HH2, fun i hi => ?_⟩
                by_cases e : i = j
                · subst e; exact HNB.out
                · exact HNo.out i (by omega)
              case measure => simp [intOf]; omega
        · go_wp2
          go_roundw
          case rel =>
            refine ⟨k + 1, by go_num, by omega, HFj, HHj.out.congr (fun i _ => ?_)⟩
            rw [hTo_step HO.out hlt]
            by_cases e : i = o k
            · have hno : holdsS bt sz wd n (o k) = false := by
                cases hh : holdsS bt sz wd n (o k) with
                | false => rfl
                | true =>
                  obtain ⟨i, h1, h2, h3⟩ := (holdsS_before HO.out hlt).1 hh
                  rw [← HQ.out] at h2 h3
                  exact absurd ⟨h2, h3⟩ (HNo.out i (by omega))
              rw [if_pos e, e, hTo_self HO.out hlt, hno]
            · rw [if_neg e]
          case measure => simp [intOf]; omega
    · go_wp2
      go_ret
      refine ⟨w.heap.size + 1, _, rfl, by omega, HHk.out.congr (fun i hi => ?_), HFrX.out.trans HFk.out (fun b hb2 x => by omega), HFk.out.row HS.out.row (by omega), by simp⟩
      rw [show k = n from by omega, hTo_end HO.out hi]
end Go.Proofs.Qxb6613821aDoor
