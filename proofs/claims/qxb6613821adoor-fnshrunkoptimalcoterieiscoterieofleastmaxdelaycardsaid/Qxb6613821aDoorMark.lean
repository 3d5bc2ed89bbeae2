/- (Family).MarkMinimal. -/
import Derived.Test.Qxb6613821aDoorTrieW
import Derived.BigRegion
namespace Go.Proofs.Qxb6613821aDoor
set_option linter.unusedVariables false
set_option linter.unusedSimpArgs false
open Ieee Go.RowKit Go.Sort Go.Lib

/-- Is the k-th set of the order kept? -/
def kAt (bt sz : Nat → Nat) (wd n : Nat) (o : Nat → Nat) (k : Nat) : Bool := !holdsS bt sz wd n (o k) && (decide (k = 0) || compareF bt sz wd (o k) (o (k - 1)) != 0)
def kTo (bt sz : Nat → Nat) (wd n : Nat) (o : Nat → Nat) (k q : Nat) : Bool := (List.range k).any fun j => o j == q && kAt bt sz wd n o j
theorem kTo_zero (bt sz : Nat → Nat) (wd n : Nat) (o : Nat → Nat) (q : Nat) : kTo bt sz wd n o 0 q = false := rfl
theorem kTo_step {bt sz : Nat → Nat} {wd n : Nat} {o : Nat → Nat} (h : OrdOk bt sz wd n o) {k : Nat} (hk : k < n) (q : Nat) : kTo bt sz wd n o (k + 1) q = if q = o k then kAt bt sz wd n o k else kTo bt sz wd n o k q := by
  unfold kTo
  rw [List.range_succ, List.any_append]
  by_cases e : q = o k
  · subst e
    rw [if_pos rfl]
    have : ((List.range k).any fun j => o j == o k && kAt bt sz wd n o j) = false := by
      rw [List.any_eq_false]
      intro j hj
      simp only [List.mem_range] at hj
      have : o j ≠ o k := fun e => by have := h.inj j k (by omega) hk e; omega
      simp [this]
    rw [this]; simp
  · rw [if_neg e]
    have : (o k == q) = false := by simpa using fun x => e x.symm
    simp [this]
/-- Is set q kept? -/
def keepF (bt sz : Nat → Nat) (wd n q : Nat) : Bool := kTo bt sz wd n (fun k => (ordOf bt sz wd n)[k]!) n q

structure KM (wc w' : World) (kb n : Nat) (g : Nat → Value) : Prop where
  fr : Fr (fun b => b = kb) wc w'
  row : w'.rowIs kb 4 n g
theorem KM.below {wc w1 w2 : World} {kb n : Nat} {g : Nat → Value} (h : KM wc w1 kb n g) (hb : Below w1.heap.size w1 w2) : KM wc w2 kb n g :=
  ⟨h.fr.trans (Fr.of_below hb (fun _ => False)) (fun _ _ x => x.elim), h.row.of_block (hb.block _ h.row.lt)⟩
theorem KM.drewN {wc w1 : World} {kb n : Nat} {g : Nat → Value} (h : KM wc w1 kb n g) (k : Nat) : KM wc (w1.drewN k) kb n g := ⟨h.fr.drewN k, rowIs_drewN h.row k⟩

/-- What a cell holds. -/
def cv0 (w : World) (a : Addr) : Value := (w.cell? a).getD undef
theorem cv0_some {w : World} {a : Addr} {v : Value} (h : w.cell? a = some v) : w.cell? a = some (cv0 w a) := by unfold cv0; rw [h]; rfl
structure KM3 (wc w' : World) (kb n : Nat) (g : Nat → Value) (q : Nat) (v : Value) : Prop where
  or : KM wc w' kb n g ∨ KM wc w' kb n (fun i => if i = q then v else g i)
theorem KM3.below {wc w1 w2 : World} {kb n : Nat} {g : Nat → Value} {q : Nat} {v : Value} (h : KM3 wc w1 kb n g q v) (hb : Below w1.heap.size w1 w2) : KM3 wc w2 kb n g q v := ⟨h.or.elim (fun x => Or.inl (x.below hb)) (fun x => Or.inr (x.below hb))⟩
theorem KM3.fr {wc w1 : World} {kb n : Nat} {g : Nat → Value} {q : Nat} {v : Value} (h : KM3 wc w1 kb n g q v) : Fr (fun b => b = kb) wc w1 := h.or.elim (fun x => x.fr) (fun x => x.fr)
theorem KM3.ex {wc w1 : World} {kb n : Nat} {g : Nat → Value} {q : Nat} {v : Value} (h : KM3 wc w1 kb n g q v) : ∃ g', w1.rowIs kb 4 n g' := h.or.elim (fun x => ⟨_, x.row⟩) (fun x => ⟨_, x.row⟩)
theorem KM3.set {wc w1 : World} {kb n : Nat} {g : Nat → Value} {q : Nat} {v : Value} (h : KM3 wc w1 kb n g q v) : KM wc (w1.setCell ⟨kb, q, none⟩ v) kb n (fun i => if i = q then v else g i) := by
  refine ⟨h.fr.setCell _ _ (Or.inl rfl), ?_⟩
  rcases h.or with x | x
  · exact x.row.set q v
  · refine (x.row.set q v).congr (fun i _ => ?_)
    by_cases e : i = q
    · simp [e]
    · simp [e]

theorem holding_any (wb bb sb ob n wd M : Nat) (bt sz o : Nat → Nat) (f : Nat → Value) (hM : M = n * wd) (hn0 : 0 < n) (hn : n ≤ 256) (hw0 : 0 < wd) (hw : wd ≤ 5) (hbt : ∀ i, bt i < 2 ^ 64) (hO : OrdOk bt sz wd n o) (w : World) (hF : FamAt w bb sb n M bt sz) (hT : TabAt 1 Lib.deBruijn64tab w) (hW : w.rowIs wb 68 14 f) (h6 : f 6 = .slice none 0 0) (h8 : f 8 = .slice none 0 0) (h9 : f 9 = .slice none 0 0) (h10 : f 10 = .slice none 0 0) (hbb : bb ≠ wb) (hsb : sb ≠ wb) (hob : ob ≠ wb) (h1wb : 1 ≠ wb)
    (hR : w.rowIs ob 3 n (fun k => .int .i64 (o k : Int))) :
    Calls Tryd.prog 36 #[.agg (fam bb sb n wd M), .slice (some ⟨ob, 0, none⟩) n n, .pointer (some ⟨wb, 0, none⟩)] w fun e w' => ∃ hb f', e = .returned (.slice (some ⟨hb, 0, none⟩) n n) ∧ w.heap.size ≤ hb ∧ w'.rowIs hb 4 n (fun q => .bool (holdsS bt sz wd n q)) ∧ Fr (fun k => k = wb) w w' ∧ w'.rowIs wb 68 14 f' ∧ f' 7 = f 7 := by
  by_cases h16 : n ≤ 16
  · exact pairwise_any wb bb sb ob n wd M bt sz o f hM hn0 h16 hw0 hw hO w hF hW h6 hbb hsb hob hR
  · exact trie_any wb bb sb ob n wd M bt sz o f hM (by omega) hn hw0 hw hbt hO w hF hT hW h6 h8 h9 h10 hbb hsb hob h1wb hR

set_option maxHeartbeats 8000000 in
set_option maxRecDepth 100000 in
theorem mark_any (wb bb sb n wd M : Nat) (bt sz : Nat → Nat) (f : Nat → Value) (hM : M = n * wd) (hn0 : 0 < n) (hn : n ≤ 256) (hw0 : 0 < wd) (hw : wd ≤ 5) (hbt : ∀ i, bt i < 2 ^ 64) (w : World) (hF : FamAt w bb sb n M bt sz) (hT : TabAt 1 Lib.deBruijn64tab w) (hW : w.rowIs wb 68 14 f) (hf : ∀ i, 4 ≤ i → i ≤ 10 → f i = .slice none 0 0) (hbb : bb ≠ wb) (hsb : sb ≠ wb) (h1wb : 1 ≠ wb) :
    Calls Tryd.prog 27 #[.agg (fam bb sb n wd M), .pointer (some ⟨wb, 0, none⟩)] w fun e w' => ∃ ob kb, e = .returned (.tuple #[.slice (some ⟨ob, 0, none⟩) n n, .slice (some ⟨kb, 0, none⟩) n n]) ∧ w.heap.size ≤ kb ∧ w'.rowIs kb 4 n (fun q => .bool (keepF bt sz wd n q)) ∧ Fr (fun k => k = wb) w w' := by
  have hwb : wb < w.heap.size := hW.lt
  have hbbl : bb < w.heap.size := World.block_lt_of_cell? _ _ (hF.bit 0 (by rw [hM]; exact Nat.mul_pos hn0 hw0))
  have hsbl : sb < w.heap.size := World.block_lt_of_cell? _ _ (hF.siz 0 hn0)
  have h1l : 1 < w.heap.size := World.block_lt_of_cell? _ _ (hT 0 (by decide))
  have HO : Hid (OrdOk bt sz wd n (fun k => (ordOf bt sz wd n)[k]!)) := ord_ok bt sz wd n hw0
  have HK : Hid (∀ q, keepF bt sz wd n q = kTo bt sz wd n (fun k => (ordOf bt sz wd n)[k]!) n q) := fun q => rfl
  obtain ⟨o, ho⟩ : ∃ o : Nat → Nat, o = fun k => (ordOf bt sz wd n)[k]! := ⟨_, rfl⟩
  have HOr : Hid (∀ w, FamAt w bb sb n M bt sz → w.rowIs wb 68 14 f → Calls Tryd.prog 35 #[.agg (Qxb6613821aDoor.fam bb sb n wd M), .pointer (some ⟨wb, 0, none⟩)] w fun e w' => ∃ pb kb, e = .returned (.slice (some ⟨pb, 0, none⟩) n n) ∧ w.heap.size ≤ pb ∧ w'.rowIs pb 3 n (fun k => .int .i64 (o k : Int)) ∧ Fr (fun k => k = wb) w w' ∧
      w'.rowIs wb 68 14 (fun o => if o = 5 then .slice (some ⟨pb, 0, none⟩) n n else fOrd f wd M n bb sb (.slice (some ⟨kb, 0, none⟩) n n) o)) := fun w hF hW => by rw [ho]; exact order_any wb bb sb n wd M bt sz f hM hn0 hn hw0 hw w hF hW (hf 4 (by omega) (by omega)) (hf 5 (by omega) (by omega)) hbb hsb
  rw [← ho] at HO HK
  have HB0 : Hid (World.rowIs (w.alloc (.cells (Qxb6613821aDoor.fam bb sb n wd M) 39)) w.heap.size 39 3 (fun o => if o = 0 then .int .i64 (wd : Int) else if o = 1 then .slice (some ⟨bb, 0, none⟩) M M else .slice (some ⟨sb, 0, none⟩) n n)) := by
    refine rowIs_alloc' _ _ _ _ _ _ rfl rfl (fun i hi => ?_)
    have h3 : i = 0 ∨ i = 1 ∨ i = 2 := by omega
    rcases h3 with rfl | rfl | rfl <;> simp [fam]
  have HF0 : Hid (FamAt (w.alloc (.cells (Qxb6613821aDoor.fam bb sb n wd M) 39)) bb sb n M bt sz) := hF.keep (Nat.le_refl _) ((Below.refl _ _).alloc (Nat.le_refl _) _)
  have HW0 : Hid (World.rowIs (w.alloc (.cells (Qxb6613821aDoor.fam bb sb n wd M) 39)) wb 68 14 f) := hW.alloc _
  have HT0 : Hid (TabAt 1 Lib.deBruijn64tab (w.alloc (.cells (Qxb6613821aDoor.fam bb sb n wd M) 39))) := ((Fr.refl (fun _ => False) w).alloc _).tab hT (fun x => x)
  have HFr0 : Hid (Fr (fun k => k = wb) w (w.alloc (.cells (Qxb6613821aDoor.fam bb sb n wd M) 39))) := (Fr.refl _ w).alloc _
  have hs0 : (w.alloc (.cells (Qxb6613821aDoor.fam bb sb n wd M) 39)).heap.size = w.heap.size + 1 := by simp
  have HHo : Hid (∀ w3 ob g, FamAt w3 bb sb n M bt sz → TabAt 1 Lib.deBruijn64tab w3 → w3.rowIs wb 68 14 g → (∀ i, 6 ≤ i → i ≤ 10 → g i = .slice none 0 0) → ob ≠ wb → w3.rowIs ob 3 n (fun k => .int .i64 (o k : Int)) → Calls Tryd.prog 36 #[.agg (Qxb6613821aDoor.fam bb sb n wd M), .slice (some ⟨ob, 0, none⟩) n n, .pointer (some ⟨wb, 0, none⟩)] w3 fun e w' => ∃ hb f', e = .returned (.slice (some ⟨hb, 0, none⟩) n n) ∧ w3.heap.size ≤ hb ∧ w'.rowIs hb 4 n (fun q => .bool (holdsS bt sz wd n q)) ∧ Fr (fun k => k = wb) w3 w' ∧ w'.rowIs wb 68 14 f' ∧ f' 7 = g 7) := fun w3 ob g h1 h2 h3 h4 h5 h6 =>
    holding_any wb bb sb ob n wd M bt sz o g hM hn0 hn hw0 hw hbt HO.out w3 h1 h2 h3 (h4 6 (by omega) (by omega)) (h4 8 (by omega) (by omega)) (h4 9 (by omega) (by omega)) (h4 10 (by omega) (by omega)) hbb hsb h5 h1wb h6
  have HN : Hid (∀ i, 4 ≤ i → i ≤ 10 → f i = .slice none 0 0) := hf
  have HM : Hid (M = n * wd) := hM
  have CB : Hid (∀ w, Calls Tryd.prog 37 #[.slice none 0 0, .int .i64 (n : Int)] w fun e w' => e = .returned (.slice (some ⟨w.heap.size, 0, none⟩) n n) ∧ w' = w.alloc (.cells (madeCells #[.bool false] n) 4)) := fun w => reuseBool_any n hn0 (by omega) w
  clear hf hF hT hW hM ho hbt
  simp only [fam] at *
  go_enter Tryd.func27, Tryd.ntmps27
  go_upto_region 1 with fail
  generalize w.alloc (.cells #[.int .i64 (wd : Int), .slice (some ⟨bb, 0, none⟩) M M, .slice (some ⟨sb, 0, none⟩) n n] 39) = w0 at *
  have HBx : Hid (∀ w', Fr (fun k => k = wb) w0 w' → w'.cell? ⟨w.heap.size, 0, none⟩ = some (.int .i64 (wd : Int)) ∧ w'.cell? ⟨w.heap.size, 1, none⟩ = some (.slice (some ⟨bb, 0, none⟩) M M) ∧ w'.cell? ⟨w.heap.size, 2, none⟩ = some (.slice (some ⟨sb, 0, none⟩) n n)) := fun w' hf =>
    ⟨(hf.row HB0.out (by omega)).cell (i := 0) (by omega), (hf.row HB0.out (by omega)).cell (i := 1) (by omega), (hf.row HB0.out (by omega)).cell (i := 2) (by omega)⟩
  obtain ⟨b0, b1, b2⟩ := HBx.out w0 (Fr.refl _ _)
  go_upto_region 3 with (first
    | (go_at_call 35; refine (HOr.out _ HF0.out HW0.out).mono ?_
       rintro e w1 ⟨ob, kb, rfl, hob, hor, hfr, hrow⟩
       have HOb1 : Hid (w1.rowIs ob 3 n (fun k => .int .i64 (o k : Int))) := hor
       have HFr1 : Hid (Fr (fun k => k = wb) w0 w1) := hfr
       have HRow1 : Hid (w1.rowIs wb 68 14 _) := hrow
       obtain ⟨d0, d1, d2⟩ := HBx.out w1 hfr
       clear hor hfr hrow)
    | (go_at_call 36
       refine (HHo.out _ ob _ (HFr1.out.fam HF0.out hbb hsb) (HFr1.out.tab HT0.out h1wb) HRow1.out (fun i h1 h2 => by have := HN.out i (by omega) h2; simp only [fOrd]; rw [if_neg (by omega), if_neg (by omega), if_neg (by omega), if_neg (by omega), if_neg (by omega)]; exact this) (by omega) HOb1.out).mono ?_
       rintro e w2 ⟨hb, f', rfl, hhb, hhol, hfr, hrow, h7⟩
       have HHol2 : Hid (w2.rowIs hb 4 n (fun q => .bool (holdsS bt sz wd n q))) := hhol
       have HFr2 : Hid (Fr (fun k => k = wb) w1 w2) := hfr
       have HRow2 : Hid (w2.rowIs wb 68 14 f') := hrow
       have H72 : Hid (f' 7 = .slice none 0 0) := by show _ = _; rw [h7]; simp only [fOrd]; rw [if_neg (by omega), if_neg (by omega), if_neg (by omega), if_neg (by omega), if_neg (by omega)]; exact HN.out 7 (by omega) (by omega)
       obtain ⟨e0, e1, e2⟩ := HBx.out w2 (HFr1.out.trans hfr (fun b _ x => x))
       clear hhol hfr hrow h7))
  have n7 : w2.cell? ⟨wb, 7, none⟩ = some (.slice none 0 0) := by rw [HRow2.out.cell (i := 7) (by omega), H72.out]
  have hs1 := HFr1.out.size
  have hs2 := HFr2.out.size
  have hwlt : wb < w2.heap.size := HRow2.out.lt
  have HFr02 : Hid (Fr (fun k => k = wb) w0 w2) := HFr1.out.trans HFr2.out (fun b _ x => x)
  clear HOr HHo b0 b1 b2 d0 d1 d2
  go_cut [5] from 16 to 23 (fun v5 wx => v5 = .slice (some ⟨w2.heap.size, 0, none⟩) n n ∧ wx = (w2.alloc (.cells (madeCells #[.bool false] n) 4)).drew)
  case first =>
    go_region_with (go_at_call 37; refine (CB.out _).mono ?_; rintro e w' ⟨rfl, rfl⟩)
    all_goals
      go_wp2_with fail
      go_meet
      exact ⟨rfl, rfl⟩
  case rest =>
    obtain ⟨rfl, hwc⟩ := hcut
    have HKp : Hid (wc.rowIs w2.heap.size 4 n (fun q => .bool (kTo bt sz wd n o 0 q))) := by
      show World.rowIs _ _ _ _ _
      rw [hwc]
      exact ((rowIs_made' rfl).congr (fun i _ => by rw [kTo_zero])).drew
    have HFrc : Hid (Fr (fun k => k = wb) w2 wc) := by
      show Fr _ _ _
      rw [hwc]
      exact ((Fr.refl _ w2).alloc _).drewN 1
    have HHolc : Hid (wc.rowIs hb 4 n (fun q => .bool (holdsS bt sz wd n q))) := HFrc.out.row HHol2.out (by omega)
    have HObc : Hid (wc.rowIs ob 3 n (fun k => .int .i64 (o k : Int))) := HFrc.out.row (HFr2.out.row HOb1.out (by omega)) (by omega)
    have HRowc : Hid (wc.rowIs wb 68 14 f') := by
      show World.rowIs _ _ _ _ _
      rw [hwc]
      exact (HRow2.out.alloc _).drew
    have hobl : ob < w2.heap.size := Nat.lt_of_lt_of_le HOb1.out.lt hs2
    have hhbl : hb < w2.heap.size := HHol2.out.lt
    have hwcs : w2.heap.size < wc.heap.size := HKp.out.lt
    have HFr0c : Hid (Fr (fun k => k = wb) w0 wc) := HFr02.out.trans HFrc.out (fun b _ x => x)
    clear hwc CB n7 e0 e1 e2
    go_wp2
    go_loopw [26] (fun vk wr => ∃ k : Nat, vk = .int .i64 k ∧ k ≤ n ∧ Hid (Fr (fun b => b = w2.heap.size) wc wr) ∧ Hid (wr.rowIs w2.heap.size 4 n (fun q => .bool (kTo bt sz wd n o k q)))) (fun vk _ => n - (intOf vk).toNat)
    case atStart => exact ⟨0, rfl, Nat.zero_le _, Fr.refl _ _, HKp⟩
    case round =>
      clear HKp
      obtain ⟨k, rfl, hk, HFk, HKk⟩ := hrel
      by_cases hlt : k < n
      · have ck := (HFk.out.row HObc.out (by omega)).cell (i := k) hlt
        have hq := HO.out.lt k hlt
        have hh := (HFk.out.row HHolc.out (by omega)).cell (i := o k) hq
        have cq := HKk.out.cell (i := o k) hq
        have fq : wr.frozen? ⟨w2.heap.size, o k, none⟩ = false := HKk.out.frozen (o k)
        have HSt : Hid (∀ i, kTo bt sz wd n o (k + 1) i = if i = o k then kAt bt sz wd n o k else kTo bt sz wd n o k i) := fun i => kTo_step HO.out hlt i
        have HFin : Hid (∀ (wz : World) (t : Bool), t = kAt bt sz wd n o k → Fr (fun b => b = w2.heap.size) wc wz → wz.rowIs w2.heap.size 4 n (fun q => .bool (kTo bt sz wd n o k q)) → Fr (fun b => b = w2.heap.size) wc (wz.setCell ⟨w2.heap.size, o k, none⟩ (.bool t)) ∧ (wz.setCell ⟨w2.heap.size, o k, none⟩ (.bool t)).rowIs w2.heap.size 4 n (fun q => .bool (kTo bt sz wd n o (k + 1) q))) := fun wz t ht hf hr =>
          ⟨hf.setCell ⟨w2.heap.size, o k, none⟩ _ (Or.inl rfl), (hr.set (o k) _).congr (fun i _ => by
            rw [HSt.out i]
            by_cases e : i = o k
            · rw [if_pos e, if_pos e, ht]
            · rw [if_neg e, if_neg e])⟩
        have HKM : Hid (KM wc wr w2.heap.size n (fun q => .bool (kTo bt sz wd n o k q))) := ⟨HFk.out, HKk.out⟩
        have HMk : Hid (∀ W' : World, KM3 wc W' w2.heap.size n (fun q => .bool (kTo bt sz wd n o k q)) (o k) (.bool (compareF bt sz wd (o k) (o (k - 1)) != 0)) → KM3 wc W' w2.heap.size n (fun q => .bool (kTo bt sz wd n o k q)) (o k) (.bool (compareF bt sz wd (o k) (o (k - 1)) != 0)) ∧ W'.cell? ⟨hb, o k, none⟩ = some (.bool (holdsS bt sz wd n (o k))) ∧ W'.cell? ⟨w.heap.size, 0, none⟩ = some (.int .i64 (wd : Int)) ∧ W'.cell? ⟨w.heap.size, 1, none⟩ = some (.slice (some ⟨bb, 0, none⟩) M M) ∧ W'.cell? ⟨w.heap.size, 2, none⟩ = some (.slice (some ⟨sb, 0, none⟩) n n) ∧ W'.cell? ⟨ob, k - 1, none⟩ = some (.int .i64 (o (k - 1) : Int)) ∧ W'.cell? ⟨w2.heap.size, o k, none⟩ = some (cv0 W' ⟨w2.heap.size, o k, none⟩) ∧ W'.frozen? ⟨w2.heap.size, o k, none⟩ = false) := fun w3 h3 => by
          obtain ⟨x0, x1, x2⟩ := HBx.out wc HFr0c.out
          obtain ⟨g', hg'⟩ := h3.ex
          exact ⟨h3, (h3.fr.row HHolc.out (by omega)).cell (i := o k) hq, h3.fr.cell x0 (by simp; omega), h3.fr.cell x1 (by simp; omega), h3.fr.cell x2 (by simp; omega), (h3.fr.row HObc.out (by omega)).cell (by omega), cv0_some (hg'.cell hq), hg'.frozen _⟩
        have hq1 := HO.out.lt (k - 1) (by omega)
        have HC : Hid (∀ W' : World, KM3 wc W' w2.heap.size n (fun q => .bool (kTo bt sz wd n o k q)) (o k) (.bool (compareF bt sz wd (o k) (o (k - 1)) != 0)) → Calls Tryd.prog 38 #[.agg #[.int .i64 (wd : Int), .slice (some ⟨bb, 0, none⟩) M M, .slice (some ⟨sb, 0, none⟩) n n], .int .i64 (o k : Int), .int .i64 (o (k - 1) : Int)] W' fun e w'' => e = .returned (.int .i64 (compareF bt sz wd (o k) (o (k - 1)))) ∧ Below W'.heap.size W' w'') := fun w3 h3 => compare_any bb sb n wd M (o k) (o (k - 1)) bt sz HM.out hq hq1 hn hw0 hw w3 (h3.fr.fam (HFr0c.out.fam HF0.out hbb hsb) (by omega) (by omega))
        cases hS : holdsS bt sz wd n (o k) with
        | true =>
          have HA : Hid (false = kAt bt sz wd n o k) := by show _ = _; unfold kAt; rw [hS]; rfl
          rw [hS] at hh
          clear hS HMk HC
          go_wp2
          go_region
          all_goals
            go_wp2
            refine ⟨⟨k + 1, by go_num, by omega, (HFin.out _ false HA.out HFk.out HKk.out).1.drewN 1, (HFin.out _ false HA.out HFk.out HKk.out).2⟩, by simp [intOf]; omega⟩
        | false =>
          rw [hS] at HMk hh
          by_cases hk0 : k = 0
          · have HA : Hid (true = kAt bt sz wd n o k) := by show _ = _; unfold kAt; rw [hS]; simp [hk0]
            clear hS HMk HC
            subst hk0
            go_wp2
            go_region
            all_goals
              go_wp2
              refine ⟨⟨1, by go_num, by omega, (HFin.out _ true HA.out HFk.out HKk.out).1.drewN 1, (HFin.out _ true HA.out HFk.out HKk.out).2⟩, by simp [intOf]; omega⟩
          · have HA : Hid ((compareF bt sz wd (o k) (o (k - 1)) != 0) = kAt bt sz wd n o k) := by show _ = _; unfold kAt; rw [hS]; simp [hk0]
            have hk1 : ((k : Int) == 0) = false := by simp; omega
            have hk0' : (0 : Int) ≤ (k : Int) - 1 := by omega
            have hk2 : (k : Int) - 1 < (n : Int) := by omega
            have hkw : IntKind.i64.wrap ((k : Int) - 1) = (k : Int) - 1 := by simp [IntKind.wrap, IntKind.bits, IntKind.signed]; omega
            have hk3 : ((k : Int) - 1).toNat = k - 1 := by omega
            have hk4 : (1 : Int) ≤ (k : Int) := by omega
            have hk5 : 1 ≤ k := by omega
            have hk6 : 0 < k := by omega
            have hk8 : (k : Int) < (n : Int) + 1 := by omega
            have hk9 : k - 1 < n := by omega
            have hk10 : k < n + 1 := by omega
            generalize compareF bt sz wd (o k) (o (k - 1)) = cv at *
            generalize o (k - 1) = q1 at *
            clear hS hh cq fq
            go_wp2
            clear ck
            go_region_held2 (fun w' => KM3 wc w' w2.heap.size n (fun q => .bool (kTo bt sz wd n o k q)) (o k) (.bool (cv != 0)) ∧ w'.cell? ⟨hb, o k, none⟩ = some (.bool false) ∧ w'.cell? ⟨w.heap.size, 0, none⟩ = some (.int .i64 (wd : Int)) ∧ w'.cell? ⟨w.heap.size, 1, none⟩ = some (.slice (some ⟨bb, 0, none⟩) M M) ∧ w'.cell? ⟨w.heap.size, 2, none⟩ = some (.slice (some ⟨sb, 0, none⟩) n n) ∧ w'.cell? ⟨ob, k - 1, none⟩ = some (.int .i64 (q1 : Int)) ∧ w'.cell? ⟨w2.heap.size, o k, none⟩ = some (cv0 w' ⟨w2.heap.size, o k, none⟩) ∧ w'.frozen? ⟨w2.heap.size, o k, none⟩ = false)
              (first | exact HMk.out _ ⟨Or.inl (HKM.out.drewN 1)⟩ | exact HMk.out _ (KM3.below (And.left (by assumption)) (by assumption)) | exact HMk.out _ ⟨Or.inr (KM3.set (And.left (by assumption)))⟩)
              (first | (go_at_call 38; refine (HC.out _ (And.left (by assumption))).mono ?_; rintro e w3 ⟨rfl, hb2⟩))
            have HKM3 := (HKM.out.drewN 1).below hb2
            have HE := HFin.out w3 _ HA.out HKM3.fr HKM3.row
            have HE1 : Hid _ := HE.1
            have HE2 : Hid _ := HE.2
            clear HE HKM3
            go_wp2
            refine ⟨⟨k + 1, by go_num, by omega, HE1, HE2⟩, by simp [intOf]; omega⟩
      · have hkn : k = n := by omega
        have HKe : Hid (wr.rowIs w2.heap.size 4 n (fun q => .bool (keepF bt sz wd n q))) := HKk.out.congr (fun i _ => by rw [HK.out i, hkn])
        have HRw : Hid (wr.rowIs wb 68 14 f') := HFk.out.row HRowc.out (by omega)
        have c7 := HRw.out.cell (i := 7) (by omega)
        have z7 : wr.frozen? ⟨wb, 7, none⟩ = false := HRw.out.frozen 7
        go_wp2
        go_ret2
        refine ⟨ob, w2.heap.size, rfl, by omega, HKe.out.setOther (by simp; omega) _, ?_⟩
        exact ((HFr0.out.trans HFr0c.out (fun b _ x => x)).trans HFk.out (fun b hb2 x => by omega)).setCell _ _ (Or.inl rfl)
end Go.Proofs.Qxb6613821aDoor
