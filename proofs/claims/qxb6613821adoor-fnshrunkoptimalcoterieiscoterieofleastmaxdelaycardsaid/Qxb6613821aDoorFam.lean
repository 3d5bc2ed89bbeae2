/- A family of sets: its sizes, and the family of lists of members. -/
import Derived.Test.Qxb6613821aDoorMembers
import Derived.Deep.RegionWith
namespace Go.Proofs.Qxb6613821aDoor
set_option linter.unusedVariables false
set_option linter.unusedSimpArgs false
open Ieee Go.RowKit

def szTo (bt : Nat → Nat) (p : Nat) : Nat → Nat
  | 0 => 0
  | j + 1 => szTo bt p j + ones (bt (p + j))
def szOf (bt : Nat → Nat) (wd k : Nat) : Nat := szTo bt (k * wd) wd
theorem szTo_le (bt : Nat → Nat) (p : Nat) : ∀ j, szTo bt p j ≤ 127 * j
  | 0 => by simp [szTo]
  | j + 1 => by have := szTo_le bt p j; have := ones_le (bt (p + j)); simp only [szTo]; omega

theorem blk_new {w : World} {o : Obj} {k : Nat} (h : k = w.heap.size) : (w.alloc o).heap[k]? = some o := by subst h; exact heap_alloc_new w o
theorem blk_old {w : World} {o b : Obj} {k : Nat} (h : w.heap[k]? = some b) : (w.alloc o).heap[k]? = some b := (Below.heap_alloc w o k (Array.getElem?_eq_some_iff.1 h).1).trans h
theorem blk_drew {w : World} {b : Obj} {k : Nat} (h : w.heap[k]? = some b) : w.drew.heap[k]? = some b := h
theorem rowIs_made' {w : World} {z : Value} {n : Nat} {t : TypeId} {k : Nat} (h : k = w.heap.size) : (w.alloc (.cells (madeCells #[z] n) t)).rowIs k t n (fun _ => z) := by subst h; exact World.rowIs_made w z n t
theorem set3 {w : World} {g : Nat} {a b c x y z : Value} {t : TypeId} (h : w.heap[g]? = some (.cells #[a, b, c] t (0, 0))) :
    (((w.setCell ⟨g, 0, none⟩ x).setCell ⟨g, 1, none⟩ y).setCell ⟨g, 2, none⟩ z).heap[g]? = some (.cells #[x, y, z] t (0, 0)) := by
  have h1 : (w.setCell ⟨g, 0, none⟩ x).heap[g]? = _ := heap_setCell_same w g 0 _ _ _ h
  have h2 : ((w.setCell ⟨g, 0, none⟩ x).setCell ⟨g, 1, none⟩ y).heap[g]? = _ := heap_setCell_same (w.setCell ⟨g, 0, none⟩ x) g 1 _ _ _ h1
  have h3 : (((w.setCell ⟨g, 0, none⟩ x).setCell ⟨g, 1, none⟩ y).setCell ⟨g, 2, none⟩ z).heap[g]? = _ := heap_setCell_same _ g 2 _ _ _ h2
  simpa using h3

set_option maxHeartbeats 4000000 in
theorem workOfWords_any (wb bb m wd M : Nat) (bt : Nat → Nat) (hM : M = m * wd) (hm0 : 0 < m) (hm : m ≤ 256) (hw0 : 0 < wd) (hw : wd ≤ 5) (w : World) (hB : ∀ i, i < M → w.cell? ⟨bb, i, none⟩ = some (.int .u64 (bt i : Int)))
    (hbb : bb < w.heap.size) (hwb : w.cell? ⟨wb, 0, none⟩ = some (.slice none 0 0)) (hwf : w.frozen? ⟨wb, 0, none⟩ = false) :
    Calls Tryd.prog 34 #[.pointer (some ⟨wb, 0, none⟩), .int .i64 (wd : Int), .slice (some ⟨bb, 0, none⟩) M M] w fun e w' => ∃ sb, e = .returned (.agg (fam bb sb m wd M)) ∧ w.heap.size ≤ sb ∧ w'.rowIs sb 3 m (fun k => .int .i64 (szOf bt wd k : Int)) ∧ w.grownBy w' (some wb) := by
  have hdiv : (M : Int) / (wd : Int) = (m : Int) := by rw [hM]; simp; exact Int.mul_ediv_cancel _ (by omega)
  have hM2 : M ≤ 1280 := by rw [hM]; exact Nat.le_trans (Nat.mul_le_mul hm hw) (by omega)
  have HB : Hid (∀ i, i < M → w.cell? ⟨bb, i, none⟩ = some (.int .u64 (bt i : Int))) := hB
  have CR : Hid (∀ w, Calls Tryd.prog 60 #[.slice none 0 0, .int .i64 (m : Int)] w fun e w' => e = .returned (.slice (some ⟨w.heap.size, 0, none⟩) m m) ∧ w' = w.alloc (.cells (madeCells #[.int .i64 0] m) 3)) := fun w => reuseInt_any m hm0 (by omega) w
  have CS : Hid (∀ sb q p w, p = q * wd → q < m → Calls Tryd.prog 61 #[.agg (fam bb sb m wd M), .int .i64 (q : Int)] w fun e w' => e = .returned (.slice (some ⟨bb, p, none⟩) wd (M - p)) ∧ Below w.heap.size w w') :=
    fun sb q p w hp hq => set_any bb sb m wd M q p hM hp hq hm hw0 hw w
  clear hB
  have hwbl : wb < w.heap.size := World.block_lt_of_cell? w _ hwb
  have HM : Hid (M = m * wd) := hM
  clear hM
  go_enter Tryd.func34, Tryd.ntmps34
  go_upto_region 1 with fail
  go_cut [7] (fun v7 wx => ∃ g sb, v7 = .pointer (some ⟨g, 0, none⟩) ∧ Hid (w.heap.size < sb ∧ w.heap.size < g ∧ g ≠ sb) ∧ Hid (Below w.heap.size w wx) ∧ Hid (wx.heap[w.heap.size]? = some (.cells #[.int .i64 0, .slice none 0 0, .slice none 0 0] 39 (0, 0))) ∧ wx.heap[g]? = some (.cells (fam bb sb m wd M) 39 (0, 0)) ∧ Hid (wx.rowIs sb 3 m (fun _ => .int .i64 0)))
  case first =>
    go_region_with (go_at_call 60; refine (CR.out _).mono ?_; rintro e w' ⟨rfl, rfl⟩)
    all_goals
      go_wp2_with fail
      go_meet
      first
        | exact ⟨_, w.heap.size + 1, rfl, (show _ ∧ _ ∧ _ from by omega), (show Below _ _ _ from by ((repeat (first | refine Below.drew ?_ | refine Below.drewN' ?_ _ | refine Below.alloc ?_ (by simp <;> omega) _)); exact Below.refl _ _)), (show _ = _ from by (repeat (first | refine blk_drew ?_ | refine blk_new (by simp <;> omega) | refine blk_old ?_))), by (repeat (first | refine blk_drew ?_ | refine blk_new (by simp <;> omega) | refine blk_old ?_)), (show World.rowIs _ _ _ _ _ from by (repeat (first | refine World.rowIs.drew ?_ | refine rowIs_made' (by simp <;> omega) | refine World.rowIs.alloc ?_ _)))⟩
        | exact ⟨_, w.heap.size + 1 + 1, rfl, (show _ ∧ _ ∧ _ from by omega), (show Below _ _ _ from by ((repeat (first | refine Below.drew ?_ | refine Below.drewN' ?_ _ | refine Below.alloc ?_ (by simp <;> omega) _)); exact Below.refl _ _)), (show _ = _ from by (repeat (first | refine blk_drew ?_ | refine blk_new (by simp <;> omega) | refine blk_old ?_))), by (repeat (first | refine blk_drew ?_ | refine blk_new (by simp <;> omega) | refine blk_old ?_)), (show World.rowIs _ _ _ _ _ from by (repeat (first | refine World.rowIs.drew ?_ | refine rowIs_made' (by simp <;> omega) | refine World.rowIs.alloc ?_ _)))⟩
  case rest =>
    obtain ⟨g, sb, rfl, HS, HB0, HZ0, hg, HR0⟩ := hcut
    have hc0 := cell_of_row wc g 0 _ _ _ hg
    have hc1 := cell_of_row wc g 1 _ _ _ hg
    have hc2 := cell_of_row wc g 2 _ _ _ hg
    simp at hc0 hc1 hc2
    have HG : Hid (wc.heap[g]? = some (.cells (fam bb sb m wd M) 39 (0, 0))) := hg
    clear hg
    go_wp2
    go_loopw [26] (fun vq wr => ∃ (q : Nat), q ≤ m ∧ vq = .int .i64 q ∧ Hid (Below w.heap.size w wr) ∧ Hid (wr.heap[w.heap.size]? = some (.cells #[.int .i64 0, .slice none 0 0, .slice none 0 0] 39 (0, 0))) ∧ Hid (wr.heap[g]? = some (.cells (fam bb sb m wd M) 39 (0, 0))) ∧ Hid (wr.rowIs sb 3 m (fun k => .int .i64 ((if k < q then szOf bt wd k else 0 : Nat) : Int)))) (fun vq _ => m - (intOf vq).toNat)
    case atStart => exact ⟨0, Nat.zero_le _, rfl, HB0, HZ0, HG, HR0.out.congr (fun i _ => by simp)⟩
    case round =>
      clear hc0 hc1 hc2 HB0 HG HR0 HZ0
      obtain ⟨q, hq, rfl, HB1, HZ, HG, HR⟩ := hrel
      have hc0 := cell_of_row wr g 0 _ _ _ HG.out
      have hc1 := cell_of_row wr g 1 _ _ _ HG.out
      have hc2 := cell_of_row wr g 2 _ _ _ HG.out
      simp at hc0 hc1 hc2
      by_cases hlt : q < m
      · obtain ⟨p, hp⟩ : ∃ p, p = q * wd := ⟨_, rfl⟩
        have hpM : p + wd ≤ M := by rw [hp, HM.out, ← Nat.succ_mul]; exact Nat.mul_le_mul_right _ hlt
        have hC : Hid (_) := CS.out sb q p wr hp hlt
        have HSZ : Hid (szOf bt wd q = szTo bt p wd) := by show _ = _; rw [hp]; rfl
        clear hp
        go_wp2_with (go_at_call 61; refine Calls.mono hC.out ?_; rintro e w1 ⟨rfl, hb1⟩)
        have HB2 : Hid (Below w.heap.size w w1) := HB1.out.trans (hb1.mono HB1.out.size)
        have HZ2 : Hid (w1.heap[w.heap.size]? = some (.cells #[.int .i64 0, .slice none 0 0, .slice none 0 0] 39 (0, 0))) := (hb1.block _ (Array.getElem?_eq_some_iff.1 HZ.out).1).trans HZ.out
        have HG2 : Hid (w1.heap[g]? = some (.cells (fam bb sb m wd M) 39 (0, 0))) := (hb1.block g (Array.getElem?_eq_some_iff.1 HG.out).1).trans HG.out
        have HR2 : Hid (w1.rowIs sb 3 m (fun k => .int .i64 ((if k < q then szOf bt wd k else if k = q then szTo bt p 0 else 0 : Nat) : Int))) := (HR.out.of_block (hb1.block sb HR.out.lt)).congr (fun i _ => by simp [szTo])
        clear hb1 hc0 hc1 hc2 hC
        go_loopw [33] (fun vj wr => ∃ (j : Nat), j ≤ wd ∧ vj = .int .i64 j ∧ Hid (Below w.heap.size w wr) ∧ Hid (wr.heap[w.heap.size]? = some (.cells #[.int .i64 0, .slice none 0 0, .slice none 0 0] 39 (0, 0))) ∧ Hid (wr.heap[g]? = some (.cells (fam bb sb m wd M) 39 (0, 0))) ∧ Hid (wr.rowIs sb 3 m (fun k => .int .i64 ((if k < q then szOf bt wd k else if k = q then szTo bt p j else 0 : Nat) : Int)))) (fun vj _ => wd - (intOf vj).toNat)
        case atStart => exact ⟨0, Nat.zero_le _, rfl, HB2, HZ2, HG2, HR2⟩
        case round =>
          clear HB2 HG2 HR2 HZ2 HB1 HG HR HZ
          obtain ⟨j, hj, rfl, HB1, HZ, HG, HR⟩ := hrel
          have hc2 := cell_of_row wr g 2 _ _ _ HG.out
          simp at hc2
          by_cases hjt : j < wd
          · have hx : wr.cell? ⟨bb, p + j, none⟩ = some (.int .u64 (bt (p + j) : Int)) := (HB1.out.cell (p := ⟨bb, p + j, none⟩) hbb).trans (HB.out (p + j) (by omega))
            have hy := HR.out.cell (i := q) hlt
            simp at hy
            have hf := HR.out.frozen q
            have hle : szTo bt p j ≤ 635 := Nat.le_trans (szTo_le bt p j) (by omega)
            have hle2 := ones_le (bt (p + j))
            have HST : Hid (szTo bt p (j + 1) = szTo bt p j + ones (bt (p + j))) := rfl
            obtain ⟨z, hz⟩ : ∃ z, z = szTo bt p j := ⟨_, rfl⟩
            obtain ⟨x, hxe⟩ : ∃ x, x = bt (p + j) := ⟨_, rfl⟩
            obtain ⟨o, ho⟩ : ∃ o, o = ones x := ⟨_, rfl⟩
            have CO : Hid (∀ w, Calls Tryd.prog 62 #[.int .u64 (x : Int)] w fun e w' => e = .returned (.int .i64 (o : Int)) ∧ w' = w) := fun w => by rw [ho]; exact ones_any x w
            rw [← hz] at hle hy HST
            rw [← hxe] at hx hle2 HST
            rw [← ho] at hle2 HST
            clear hxe ho hz
            go_wp2_with fail
            go_region_with (go_at_call 62; refine (CO.out _).mono ?_; rintro e w' ⟨rfl, rfl⟩)
            all_goals
              go_wp2
              go_roundw
              case rel =>
                refine ⟨j + 1, by omega, by go_num, (HB1.out.setCell (Nat.le_of_lt HS.out.1) _).drewN' _, (heap_setCell_other wr ⟨sb, q, none⟩ w.heap.size _ (Nat.ne_of_lt HS.out.1)).trans HZ.out, (heap_setCell_other wr ⟨sb, q, none⟩ g _ HS.out.2.2).trans HG.out, ?_⟩
                refine World.rowIs.congr (World.rowIs.drew (HR.out.set q _)) (fun i _ => ?_)
                rw [HST.out]
                by_cases e : i = q
                · subst e; simp
                · simp [e]
              case measure => simp [intOf]; omega
          · have HJ : Hid (j = wd) := by show _ = _; omega
            go_wp2
            go_roundw
            case rel =>
              refine ⟨q + 1, by omega, by go_num, HB1, HZ, HG, HR.out.congr (fun i _ => ?_)⟩
              by_cases e : i = q
              · subst e; simp [HSZ.out, HJ.out]
              · have e2 : (i < q + 1) ↔ i < q := by omega
                simp [e, e2]
            case measure => simp [intOf]; omega
      · have HQ : Hid (q = m) := by show _ = _; omega
        have hwb1 : wr.cell? ⟨wb, 0, none⟩ = some (.slice none 0 0) := (HB1.out.cell (p := ⟨wb, 0, none⟩) hwbl).trans hwb
        have hwf1 : wr.frozen? ⟨wb, 0, none⟩ = false := (HB1.out.frozen (p := ⟨wb, 0, none⟩) hwbl).trans hwf
        have hgw : g ≠ wb := by have := HS.out.2.1; omega
        have hsw : w.heap.size ≠ wb := by omega
        have hgs : g ≠ w.heap.size := by have := HS.out.2.1; omega
        have hz0 := cell_of_row wr w.heap.size 0 _ _ _ HZ.out
        have hz1 := cell_of_row wr w.heap.size 1 _ _ _ HZ.out
        have hz2 := cell_of_row wr w.heap.size 2 _ _ _ HZ.out
        have hzf0 := frozen_of_row wr w.heap.size 0 _ _ HZ.out
        have hzf1 := frozen_of_row wr w.heap.size 1 _ _ HZ.out
        have hzf2 := frozen_of_row wr w.heap.size 2 _ _ HZ.out
        simp at hz0 hz1 hz2
        clear hwb hwf
        go_wp2
        have hfin := set3 (x := .int .i64 (wd : Int)) (y := .slice (some ⟨bb, 0, none⟩) M M) (z := .slice (some ⟨sb, 0, none⟩) m m) ((heap_setCell_other wr ⟨wb, 0, none⟩ w.heap.size (.slice (some ⟨sb, 0, none⟩) m m) hsw).trans HZ.out)
        refine bodyPost_ret (v := .agg (fam bb sb m wd M)) (results_cell_row rfl _ _ w.heap.size 39 _ (0, 0) _ rfl hfin Tryd.underlying39 rfl (by kernel_rfl)) rfl ⟨sb, rfl, Nat.le_of_lt HS.out.1, ?_, ?_⟩
        · refine World.rowIs.setOther (World.rowIs.setOther (World.rowIs.setOther (World.rowIs.setOther (HR.out.congr (fun i hi => by rw [HQ.out, if_pos hi])) ?_ _) ?_ _) ?_ _) ?_ _
          · have := HS.out.1; simp; omega
          · have := HS.out.1; simp; omega
          · have := HS.out.1; simp; omega
          · have := HS.out.1; simp; omega
        · refine ⟨HB1.out.os, HB1.out.tape, HB1.out.output, by simpa using HB1.out.size, fun k hk hne => ?_⟩
          rw [heap_setCell_other _ _ _ _ (by simp; omega), heap_setCell_other _ _ _ _ (by simp; omega), heap_setCell_other _ _ _ _ (by simp; omega), heap_setCell_other _ _ _ _ (by simpa using hne)]
          exact HB1.out.block k hk
end Go.Proofs.Qxb6613821aDoor
