/- The order of the sets: (Family).Order. -/
import Derived.Test.Qxb6613821aDoorOrder
import Derived.Test.Qxb6613821aDoorOwn
namespace Go.Proofs.Qxb6613821aDoor
set_option linter.unusedVariables false
set_option linter.unusedSimpArgs false
open Ieee Go.RowKit Go.Sort Go.Lib

/-- The order: set k of it. -/
def ordOf (bt sz : Nat → Nat) (wd n : Nat) : Array Nat := sorted (klt bt sz wd) n (Array.range n)

/-- The Work, with the order's fields. -/
def fOrd (f : Nat → Value) (wd M n bb sb : Nat) (keys : Value) : Nat → Value := fun o => if o = 4 then keys else if o = 3 then .slice (some ⟨sb, 0, none⟩) n n else if o = 2 then .slice (some ⟨bb, 0, none⟩) M M else if o = 1 then .int .i64 (wd : Int) else f o

/-- The keys as they stand when q of them are laid. -/
def kcTo (bt sz : Nat → Nat) (wd n q o : Nat) : Value := if o / 3 < q then kc bt sz wd (Array.range n) o else zk[o % 3]!
theorem kcTo_step (bt sz : Nat → Nat) (wd n q o : Nat) (hq : q < n) :
    (if o = q * 3 + 2 then Value.int .i64 (q : Int) else if o = q * 3 + 1 then .int .u64 (bt (q * wd) : Int) else if o = q * 3 then .int .i64 (sz q : Int) else kcTo bt sz wd n q o) = kcTo bt sz wd n (q + 1) o := by
  have hr : (Array.range n)[q]! = q := by simp [hq]
  unfold kcTo kc
  have hm : o % 3 = 0 ∨ o % 3 = 1 ∨ o % 3 = 2 := by omega
  by_cases h1 : o / 3 < q
  · rw [if_neg (by omega : ¬ o = q * 3 + 2), if_neg (by omega : ¬ o = q * 3 + 1), if_neg (by omega : ¬ o = q * 3), if_pos h1, if_pos (show o / 3 < q + 1 from by omega)]
  · by_cases h2 : o / 3 = q
    · rw [if_pos (by omega : o / 3 < q + 1), h2, hr]
      rcases hm with hm | hm | hm
      · rw [if_neg (by omega), if_neg (by omega), if_pos (by omega), if_pos hm]
      · rw [if_neg (by omega), if_pos (by omega), if_neg (by omega), if_pos hm]
      · rw [if_pos (by omega), if_neg (by omega), if_neg (by omega)]
    · rw [if_neg (by omega), if_neg (by omega), if_neg (by omega), if_neg h1, if_neg (by omega)]

structure OS (w wx : World) (wb bb sb n wd M : Nat) (f : Nat → Value) (g : Nat → Value) : Prop where
  row : wx.rowIs wb 68 14 (fOrd f wd M n bb sb (.slice (some ⟨w.heap.size + 1, 0, none⟩) n n))
  box : wx.rowIs w.heap.size 39 3 (fun o => if o = 0 then .int .i64 (wd : Int) else if o = 1 then .slice (some ⟨bb, 0, none⟩) M M else .slice (some ⟨sb, 0, none⟩) n n)
  keys : wx.rowIs (w.heap.size + 1) 107 (3 * n) g
  old : Fr (fun k => k = wb) w wx

theorem made_get3 (n o : Nat) (h : o < n * 3) : (madeCells zk (n * 3))[o]? = some zk[o % 3]! := by
  simp [madeCells, h]
theorem rowIs_alloc' (w : World) (c : Array Value) (t : TypeId) (f : Nat → Value) (k m : Nat) (hk : k = w.heap.size) (hm : m = c.size) (hc : ∀ i, i < m → c[i]? = some (f i)) : (w.alloc (.cells c t)).rowIs k t m f := by
  subst hk; subst hm; exact World.rowIs_alloc w c t f hc

theorem os_start (w : World) (wb bb sb n wd M : Nat) (bt sz : Nat → Nat) (f : Nat → Value) (hW : w.rowIs wb 68 14 f) :
    OS w ((((((w.setCell ⟨wb, 1, none⟩ (.int .i64 (wd : Int))).setCell ⟨wb, 2, none⟩ (.slice (some ⟨bb, 0, none⟩) M M)).setCell ⟨wb, 3, none⟩ (.slice (some ⟨sb, 0, none⟩) n n)).setCell ⟨wb, 4, none⟩ (.slice (some ⟨w.heap.size + 1, 0, none⟩) n n)).alloc (.cells (Qxb6613821aDoor.fam bb sb n wd M) 39)).alloc (.cells (madeCells zk (n * 3)) 107)).drew wb bb sb n wd M f (kcTo bt sz wd n 0) := by
  refine ⟨?_, ?_, ?_, ?_⟩
  · exact ((((((hW.set 1 _).set 2 _).set 3 _).set 4 _).alloc _).alloc _).drew
  · refine World.rowIs.drew (World.rowIs.alloc (rowIs_alloc' _ _ _ _ _ _ (by simp) rfl (fun i hi => ?_)) _)
    have h3 : i = 0 ∨ i = 1 ∨ i = 2 := by simp [fam] at hi; omega
    rcases h3 with rfl | rfl | rfl <;> simp [fam]
  · refine World.rowIs.drew (rowIs_alloc' _ _ _ _ _ _ (by simp) (by rw [size_madeCells]; omega) (fun i hi => ?_))
    rw [made_get3 n i (by omega)]
    unfold kcTo
    rw [if_neg (by omega)]
  · exact (((((((Fr.refl (fun k => k = wb) w).setCell _ _ (Or.inl rfl)).setCell _ _ (Or.inl rfl)).setCell _ _ (Or.inl rfl)).setCell _ _ (Or.inl rfl)).alloc _).alloc _).drewN 1

set_option maxHeartbeats 8000000 in
theorem order_any (wb bb sb n wd M : Nat) (bt sz : Nat → Nat) (f : Nat → Value) (hM : M = n * wd) (hn0 : 0 < n) (hn : n ≤ 256) (hw0 : 0 < wd) (hw : wd ≤ 5) (w : World) (hF : FamAt w bb sb n M bt sz) (hW : w.rowIs wb 68 14 f) (h4 : f 4 = .slice none 0 0) (h5 : f 5 = .slice none 0 0) (hbb : bb ≠ wb) (hsb : sb ≠ wb) :
    Calls Tryd.prog 35 #[.agg (fam bb sb n wd M), .pointer (some ⟨wb, 0, none⟩)] w fun e w' => ∃ pb kb, e = .returned (.slice (some ⟨pb, 0, none⟩) n n) ∧ w.heap.size ≤ pb ∧ w'.rowIs pb 3 n (fun k => .int .i64 ((ordOf bt sz wd n)[k]! : Int)) ∧ Fr (fun k => k = wb) w w' ∧
      w'.rowIs wb 68 14 (fun o => if o = 5 then .slice (some ⟨pb, 0, none⟩) n n else fOrd f wd M n bb sb (.slice (some ⟨kb, 0, none⟩) n n) o) := by
  have hwb : wb < w.heap.size := hW.lt
  have hbbl : bb < w.heap.size := World.block_lt_of_cell? _ _ (hF.bit 0 (by rw [hM]; exact Nat.mul_pos hn0 hw0))
  have hsbl : sb < w.heap.size := World.block_lt_of_cell? _ _ (hF.siz 0 hn0)
  have c4 := hW.cell (i := 4) (by omega)
  rw [h4] at c4
  have c1 := hW.cell (i := 1) (by omega)
  have c2 := hW.cell (i := 2) (by omega)
  have c3 := hW.cell (i := 3) (by omega)
  have fz : ∀ o, w.frozen? ⟨wb, o, none⟩ = false := fun o => hW.frozen o
  have CR : Hid (∀ w, Calls Tryd.prog 63 #[.slice none 0 0, .int .i64 (n : Int)] w fun e w' => e = .returned (.slice (some ⟨w.heap.size, 0, none⟩) n n) ∧ w' = w.alloc (.cells (madeCells zk (n * 3)) 107)) := fun w => reuseKey_any n hn0 (by omega) w
  have HM : Hid (M = n * wd) := hM
  have HF : Hid (FamAt w bb sb n M bt sz) := hF
  have HW : Hid (w.rowIs wb 68 14 f) := hW
  have H5 : Hid (f 5 = .slice none 0 0) := h5
  clear hM hF hW h4 h5
  simp only [fam]
  go_enter Tryd.func35, Tryd.ntmps35
  go_upto_region 2 with fail
  go_cut [22] from 12 to 26 (fun _ wx => wx = ((((((w.setCell ⟨wb, 1, none⟩ (.int .i64 (wd : Int))).setCell ⟨wb, 2, none⟩ (.slice (some ⟨bb, 0, none⟩) M M)).setCell ⟨wb, 3, none⟩ (.slice (some ⟨sb, 0, none⟩) n n)).setCell ⟨wb, 4, none⟩ (.slice (some ⟨w.heap.size + 1, 0, none⟩) n n)).alloc (.cells (Qxb6613821aDoor.fam bb sb n wd M) 39)).alloc (.cells (madeCells zk (n * 3)) 107)).drew)
  case first =>
    go_region_with (go_at_call 63; refine (CR.out _).mono ?_; rintro e w' ⟨rfl, rfl⟩)
    all_goals
      go_wp2_with fail
      go_meet
      rfl
  case rest =>
    have HOS : Hid (OS w wc wb bb sb n wd M f (kcTo bt sz wd n 0)) := by
      show OS _ _ _ _ _ _ _ _ _ _
      rw [hcut]; exact os_start w wb bb sb n wd M bt sz f HW.out
    have k4 : wc.cell? ⟨wb, 4, none⟩ = some (.slice (some ⟨w.heap.size + 1, 0, none⟩) n n) := HOS.out.row.cell (i := 4) (by omega)
    clear hcut CR c1 c2 c3 c4 fz
    go_wp2
    clear k4
    go_loopw [32] (fun vq wr => ∃ q : Nat, vq = .int .i64 q ∧ q ≤ n ∧ Hid (OS w wr wb bb sb n wd M f (kcTo bt sz wd n q))) (fun vq _ => n - (intOf vq).toNat)
    case atStart => exact ⟨0, rfl, Nat.zero_le _, HOS⟩
    case round =>
      clear HOS
      obtain ⟨q, rfl, hq, HOS⟩ := hrel
      have k4 : wr.cell? ⟨wb, 4, none⟩ = some (.slice (some ⟨w.heap.size + 1, 0, none⟩) n n) := HOS.out.row.cell (i := 4) (by omega)
      have hksz : w.heap.size + 1 < wr.heap.size := HOS.out.keys.lt
      by_cases hlt : q < n
      · have b0 : wr.cell? ⟨w.heap.size, 0, none⟩ = some (.int .i64 (wd : Int)) := HOS.out.box.cell (i := 0) (by omega)
        have b1 : wr.cell? ⟨w.heap.size, 1, none⟩ = some (.slice (some ⟨bb, 0, none⟩) M M) := HOS.out.box.cell (i := 1) (by omega)
        have b2 : wr.cell? ⟨w.heap.size, 2, none⟩ = some (.slice (some ⟨sb, 0, none⟩) n n) := HOS.out.box.cell (i := 2) (by omega)
        have hFr := HOS.out.old.fam HF.out hbb hsb
        obtain ⟨p, hp⟩ : ∃ p, p = q * wd := ⟨_, rfl⟩
        have hpM : p + wd ≤ M := by rw [hp, HM.out, ← Nat.succ_mul]; exact Nat.mul_le_mul_right _ hlt
        have hM2 : M ≤ 1280 := by rw [HM.out]; exact Nat.le_trans (Nat.mul_le_mul hn hw) (by omega)
        have hbit := hFr.bit p (by omega)
        have hsiz := hFr.siz q hlt
        have hmul : (q : Int) * (wd : Int) = (p : Int) := by rw [hp]; simp
        have HS : Hid (∀ o, (if o = q * 3 + 2 then Value.int .i64 (q : Int) else if o = q * 3 + 1 then .int .u64 (bt p : Int) else if o = q * 3 then .int .i64 (sz q : Int) else kcTo bt sz wd n q o) = kcTo bt sz wd n (q + 1) o) := fun o => by rw [hp]; exact kcTo_step bt sz wd n q o hlt
        have kz : ∀ o, wr.frozen? ⟨w.heap.size + 1, o, none⟩ = false := fun o => HOS.out.keys.frozen o
        have kc0 := HOS.out.keys.cell (i := q * 3) (by omega)
        have kc1 := HOS.out.keys.cell (i := q * 3 + 1) (by omega)
        have kc2 := HOS.out.keys.cell (i := q * 3 + 2) (by omega)
        clear hFr hp
        go_wp2
        go_region
        all_goals
          go_wp2
          refine ⟨⟨q + 1, by go_num, by omega, ?_⟩, by simp [intOf]; omega⟩
          refine ⟨((HOS.out.row.setOther (by simp; omega) _).setOther (by simp; omega) _).setOther (by simp; omega) _, ((HOS.out.box.setOther (by simp) _).setOther (by simp) _).setOther (by simp) _, ?_, (((HOS.out.old.setCell _ _ (Or.inr (by simp))).setCell _ _ (Or.inr (by simp))).setCell _ _ (Or.inr (by simp))).drewN 1⟩
          exact (((HOS.out.keys.set (q * 3) _).set (q * 3 + 1) _).set (q * 3 + 2) _).congr (fun o _ => HS.out o)
      · have hqn : q = n := by omega
        subst hqn
        have hFr := HOS.out.old.fam HF.out hbb hsb
        have HK : Hid (KeysAt wr wb (w.heap.size + 1) bb sb q wd M bt sz (Array.range q) wr) :=
          ⟨by simp, fun i hi => by simp [hi], HOS.out.row.cell (i := 1) (by omega), HOS.out.row.cell (i := 2) (by omega), HOS.out.row.cell (i := 3) (by omega), k4, hFr, HOS.out.keys.congr (fun o ho => by unfold kcTo; rw [if_pos (by omega)]), grown_refl _ _⟩
        have hs1 := HOS.out.old.size
        have HSort : Hid (Calls Tryd.prog 64 #[.iface 104 (.pointer (some ⟨wb, 1, none⟩))] wr fun e w' => e = .returned (.tuple #[]) ∧ KeysAt wr wb (w.heap.size + 1) bb sb q wd M bt sz (ordOf bt sz wd q) w') :=
          sort_any (klt_swo bt sz wd hw0) (keys_env HM.out hn hw0 hw (by omega) hksz (by omega) (by omega) (by omega) (by omega) (by omega)) (by omega) (fun d W h => len_any d W h) _ _ HK.out
        have HR : Hid (wr.rowIs wb 68 14 (fOrd f wd M q bb sb (.slice (some ⟨w.heap.size + 1, 0, none⟩) q q))) := HOS.out.row
        have HOld : Hid (Fr (fun k => k = wb) w wr) := HOS.out.old
        have CI : Hid (∀ w, Calls Tryd.prog 60 #[.slice none 0 0, .int .i64 (q : Int)] w fun e w' => e = .returned (.slice (some ⟨w.heap.size, 0, none⟩) q q) ∧ w' = w.alloc (.cells (madeCells #[.int .i64 0] q) 3)) := fun w => reuseInt_any q hn0 (by omega) w
        clear hFr HK HOS
        go_upto_region 9 with (go_at_call 64; refine HSort.out.mono ?_; rintro e w1 ⟨rfl, hK1⟩)
        have HK1 : Hid (KeysAt wr wb (w.heap.size + 1) bb sb q wd M bt sz (ordOf bt sz wd q) w1) := hK1
        have HR1 : Hid (w1.rowIs wb 68 14 (fOrd f wd M q bb sb (.slice (some ⟨w.heap.size + 1, 0, none⟩) q q))) := HR.out.of_block (hK1.old.block wb HR.out.lt (by simp; omega))
        have n4 : w1.cell? ⟨wb, 4, none⟩ = some (.slice (some ⟨w.heap.size + 1, 0, none⟩) q q) := hK1.f3
        have n5 : w1.cell? ⟨wb, 5, none⟩ = some (.slice none 0 0) := by
          have := HR1.out.cell (i := 5) (by omega)
          rw [this]; unfold fOrd; simp [H5.out]
        have fz5 : w1.frozen? ⟨wb, 5, none⟩ = false := HR1.out.frozen 5
        have hs2 := hK1.old.size
        have hw1lt : wb < w1.heap.size := HR1.out.lt
        clear hK1 k4
        go_cut [70] from 60 to 72 (fun _ wx => wx = ((w1.setCell ⟨wb, 5, none⟩ (.slice (some ⟨w1.heap.size, 0, none⟩) q q)).alloc (.cells (madeCells #[.int .i64 0] q) 3)).drew)
        case first =>
          go_region_with (go_at_call 60; refine (CI.out _).mono ?_; rintro e w' ⟨rfl, rfl⟩)
          all_goals
            go_wp2_with fail
            go_meet
            rfl
        case rest =>
          have HP0 : Hid (wc.rowIs w1.heap.size 3 q (fun _ => .int .i64 0)) := by
            show World.rowIs _ _ _ _ _
            rw [hcut]
            have := World.rowIs_made (w1.setCell ⟨wb, 5, none⟩ (.slice (some ⟨w1.heap.size, 0, none⟩) q q)) (.int .i64 0) q 3
            rw [show (w1.setCell ⟨wb, 5, none⟩ (.slice (some ⟨w1.heap.size, 0, none⟩) q q)).heap.size = w1.heap.size from by simp] at this
            exact this.drew
          have HRc : Hid (wc.rowIs wb 68 14 (fun o => if o = 5 then .slice (some ⟨w1.heap.size, 0, none⟩) q q else fOrd f wd M q bb sb (.slice (some ⟨w.heap.size + 1, 0, none⟩) q q) o)) := by
            show World.rowIs _ _ _ _ _
            rw [hcut]
            exact ((HR1.out.set 5 _).alloc _).drew
          have HFr1 : Hid (Fr (fun k => k = wb) w1 wc) := by
            show Fr _ _ _
            rw [hcut]
            exact (((Fr.refl (fun k => k = wb) w1).setCell _ _ (Or.inl rfl)).alloc _).drewN 1
          have HKr : Hid (w1.rowIs (w.heap.size + 1) 107 (3 * q) (kc bt sz wd (ordOf bt sz wd q))) := HK1.out.row
          have HFr0 : Hid (Fr (fun k => k = wb) w wc) := (HOld.out.trans (Fr.of_grown HK1.out.old) (fun b hb x => by simp at x; omega)).trans HFr1.out (fun b _ x => x)
          have k4 : wc.cell? ⟨wb, 4, none⟩ = some (.slice (some ⟨w.heap.size + 1, 0, none⟩) q q) := HRc.out.cell (i := 4) (by omega)
          have hkne : ¬ w.heap.size + 1 = wb := by omega
          have hsc : w1.heap.size < wc.heap.size := HP0.out.lt
          clear hcut HSort HR HR1 n4 n5 fz5 CI HK1 HOld
          go_wp2
          clear k4
          go_loopw [78] (fun vk wr => ∃ k : Nat, vk = .int .i64 k ∧ k ≤ q ∧ Hid (Fr (fun b => b = w1.heap.size) wc wr) ∧ Hid (wr.rowIs w1.heap.size 3 q (fun i => if i < k then .int .i64 ((ordOf bt sz wd q)[i]! : Int) else .int .i64 0))) (fun vk _ => q - (intOf vk).toNat)
          case atStart => exact ⟨0, rfl, Nat.zero_le _, Fr.refl _ _, HP0.out.congr (fun i _ => by simp)⟩
          case round =>
            obtain ⟨k, rfl, hk, HFk, HPk⟩ := hrel
            have HRk : Hid (wr.rowIs wb 68 14 (fun o => if o = 5 then .slice (some ⟨w1.heap.size, 0, none⟩) q q else fOrd f wd M q bb sb (.slice (some ⟨w.heap.size + 1, 0, none⟩) q q) o)) := HFk.out.row HRc.out (by omega)
            have k5 : wr.cell? ⟨wb, 5, none⟩ = some (.slice (some ⟨w1.heap.size, 0, none⟩) q q) := HRk.out.cell (i := 5) (by omega)
            by_cases hlt : k < q
            · have hkr := HFk.out.row (HFr1.out.row HKr.out hkne) (by have := HKr.out.lt; omega)
              have kk0 : wr.cell? ⟨w.heap.size + 1, k * 3, none⟩ = some (.int .i64 (sz (ordOf bt sz wd q)[k]! : Int)) := by rw [hkr.cell (by omega)]; simp [kc]
              have kk1 : wr.cell? ⟨w.heap.size + 1, k * 3 + 1, none⟩ = some (.int .u64 (bt ((ordOf bt sz wd q)[k]! * wd) : Int)) := by rw [hkr.cell (by omega)]; simp [kc, Nat.add_mod, show (k * 3 + 1) / 3 = k from by omega]
              have kk2 : wr.cell? ⟨w.heap.size + 1, k * 3 + 2, none⟩ = some (.int .i64 ((ordOf bt sz wd q)[k]! : Int)) := by rw [hkr.cell (by omega)]; simp [kc, Nat.add_mod, show (k * 3 + 2) / 3 = k from by omega]
              have pc := HPk.out.cell (i := k) hlt
              have pz : wr.frozen? ⟨w1.heap.size, k, none⟩ = false := HPk.out.frozen k
              have hwr : wb < wr.heap.size := HRk.out.lt
              have hpr : w1.heap.size < wr.heap.size := HPk.out.lt
              have hpb : ¬ w1.heap.size = wb := by omega
              clear hkr
              obtain ⟨y, hy⟩ : ∃ y, y = (ordOf bt sz wd q)[k]! := ⟨_, rfl⟩
              have HY : Hid (y = (ordOf bt sz wd q)[k]!) := hy
              rw [← hy] at kk0 kk1 kk2
              clear hy
              go_wp2
              go_region
              all_goals
                go_wp2
                refine ⟨⟨k + 1, by go_num, by omega, ?_, ?_⟩, by simp [intOf]; omega⟩
                · exact ((HFk.out.setCell ⟨w1.heap.size, k, none⟩ _ (Or.inl rfl)).alloc _).drewN 1
                · refine (((HPk.out.set k _).alloc _).drew).congr (fun i _ => ?_)
                  by_cases e : i = k
                  · subst e; simp [HY.out]
                  · by_cases e2 : i < k
                    · simp [e, e2, show i < k + 1 from by omega]
                    · simp [e, e2, show ¬ i < k + 1 from by omega]
            · go_wp2
              go_ret
              refine ⟨w1.heap.size, w.heap.size + 1, rfl, by omega, HPk.out.congr (fun i hi => by rw [if_pos (by omega)]), HFr0.out.trans HFk.out (fun b hb x => by omega), HRk.out⟩
end Go.Proofs.Qxb6613821aDoor
