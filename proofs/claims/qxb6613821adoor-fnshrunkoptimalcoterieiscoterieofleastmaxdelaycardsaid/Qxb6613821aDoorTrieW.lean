/- (Family).holdingSmaller where there are many sets. -/
import Derived.Test.Qxb6613821aDoorSeek0
namespace Go.Proofs.Qxb6613821aDoor
set_option linter.unusedVariables false
set_option linter.unusedSimpArgs false
open Ieee Go.RowKit Go.Sort Go.Lib

/-- What the trie holds when k sets of the order are done. -/
def HasTo (bt sz : Nat → Nat) (wd n : Nat) (o : Nat → Nat) (T : Trie) (k : Nat) : Prop := ∀ l, T.Has l ↔ ∃ j, j < k ∧ holdsS bt sz wd n (o j) = false ∧ l = mlist bt (o j * wd) (64 * wd)
structure TOk (bt sz : Nat → Nat) (wd n : Nat) (o : Nat → Nat) (T : Trie) (k : Nat) : Prop where
  ok : T.N = 0 ∨ T.Ok
  cap : T.N ≤ 321 * k
  mb : ∀ c, c < T.N → T.mb c < 64 * wd
  has : HasTo bt sz wd n o T k
theorem TOk.skip {bt sz : Nat → Nat} {wd n : Nat} {o : Nat → Nat} {T : Trie} {k : Nat} (h : TOk bt sz wd n o T k) (hs : holdsS bt sz wd n (o k) = true ∨ ∃ j, j < k ∧ holdsS bt sz wd n (o j) = false ∧ mlist bt (o k * wd) (64 * wd) = mlist bt (o j * wd) (64 * wd)) : TOk bt sz wd n o T (k + 1) := by
  refine ⟨h.ok, Nat.le_trans h.cap (Nat.mul_le_mul_left _ (Nat.le_succ _)), h.mb, fun l => ?_⟩
  rw [h.has l]
  constructor
  · rintro ⟨j, h1, h2, h3⟩
    exact ⟨j, by omega, h2, h3⟩
  · rintro ⟨j, h1, h2, h3⟩
    by_cases e : j = k
    · subst e
      rcases hs with x | ⟨i, hi, hf, he⟩
      · rw [x] at h2; cases h2
      · exact ⟨i, hi, hf, h3.trans he⟩
    · exact ⟨j, by omega, h2, h3⟩
theorem TOk.ins {bt sz : Nat → Nat} {wd n : Nat} {o : Nat → Nat} {T T' : Trie} {k : Nat} (hwd : wd ≤ 5) (h : TOk bt sz wd n o T k) (hs : holdsS bt sz wd n (o k) = false) (hok : T'.Ok) (hh : ∀ l, T'.Has l ↔ T.Has l ∨ l = mlist bt (o k * wd) (64 * wd)) (hN : T'.N ≤ T.N + (mlist bt (o k * wd) (64 * wd)).length + 1) (hmb : ∀ c, c < T'.N → T'.mb c < 64 * wd) : TOk bt sz wd n o T' (k + 1) := by
  refine ⟨Or.inr hok, ?_, hmb, fun l => ?_⟩
  · have h1 := mlist_len bt (o k * wd) (64 * wd)
    have h2 := h.cap
    rw [Nat.mul_succ]
    omega
  · rw [hh l, h.has l]
    constructor
    · rintro (⟨j, h1, h2, h3⟩ | h1)
      · exact ⟨j, by omega, h2, h3⟩
      · exact ⟨k, by omega, hs, h1⟩
    · rintro ⟨j, h1, h2, h3⟩
      by_cases e : j = k
      · subst e; exact Or.inr h3
      · exact Or.inl ⟨j, by omega, h2, h3⟩

theorem TS.congr {wX wr : World} {base wb hb n : Nat} {f : Nat → Value} {T : Trie} {nv sv mv : Value} {l0 lm : List Nat} {g g' : Nat → Value} (h : TS wX wr base wb hb n f T nv sv mv l0 lm g) (e : ∀ i, g i = g' i) : TS wX wr base wb hb n f T nv sv mv l0 lm g' := by
  have : g = g' := funext e
  subst this; exact h
theorem ts_start (w : World) (wb bb sb n wd M : Nat) (f : Nat → Value) (g : Nat → Value) (hg : ∀ q, g q = .bool false) (hW : w.rowIs wb 68 14 f) (h8 : f 8 = .slice none 0 0) (h10 : f 10 = .slice none 0 0) :
    TS ((((w.setCell ⟨wb, 6, none⟩ (.slice (some ⟨w.heap.size + 1, 0, none⟩) n n)).setCell ⟨wb, 8, none⟩ (.slice none 0 0)).alloc (.cells (Qxb6613821aDoor.fam bb sb n wd M) 39)).alloc (.cells (madeCells #[.bool false] n) 4))
      ((((w.setCell ⟨wb, 6, none⟩ (.slice (some ⟨w.heap.size + 1, 0, none⟩) n n)).setCell ⟨wb, 8, none⟩ (.slice none 0 0)).alloc (.cells (Qxb6613821aDoor.fam bb sb n wd M) 39)).alloc (.cells (madeCells #[.bool false] n) 4))
      (w.heap.size + 2) wb (w.heap.size + 1) n (fun o => if o = 6 then .slice (some ⟨w.heap.size + 1, 0, none⟩) n n else f o) ⟨0, fun _ => 0, fun _ => 0, fun _ => false⟩ (.slice none 0 0) (.slice none 0 0) (.slice none 0 0) [] [] g := by
  refine ⟨((((hW.set 6 _).set 8 _).alloc _).alloc _).congr (fun i _ => ?_), World.ownsRow_nil _ _ _ _, World.ownsRow_nil _ _ _ _, World.ownsRow_nil _ _ _ _, Or.inl rfl, Or.inl rfl, Or.inl rfl, ?_, Fr.refl _ _, by simp⟩
  · unfold fTr
    by_cases e : i = 8
    · subst e; simp
    · by_cases e2 : i = 10
      · subst e2; simp [h10]
      · simp [e, e2]
  · exact (rowIs_made' (by simp)).congr (fun i _ => (hg i).symm)

set_option maxHeartbeats 8000000 in
set_option maxRecDepth 100000 in
theorem trie_any (wb bb sb ob n wd M : Nat) (bt sz o : Nat → Nat) (f : Nat → Value) (hM : M = n * wd) (hn16 : 16 < n) (hn : n ≤ 256) (hw0 : 0 < wd) (hw : wd ≤ 5) (hbt : ∀ i, bt i < 2 ^ 64) (hO : OrdOk bt sz wd n o) (w : World) (hF : FamAt w bb sb n M bt sz) (hT : TabAt 1 Lib.deBruijn64tab w) (hW : w.rowIs wb 68 14 f) (h6 : f 6 = .slice none 0 0) (h8 : f 8 = .slice none 0 0) (h9 : f 9 = .slice none 0 0) (h10 : f 10 = .slice none 0 0) (hbb : bb ≠ wb) (hsb : sb ≠ wb) (hob : ob ≠ wb) (h1wb : 1 ≠ wb)
    (hR : w.rowIs ob 3 n (fun k => .int .i64 (o k : Int))) :
    Calls Tryd.prog 36 #[.agg (fam bb sb n wd M), .slice (some ⟨ob, 0, none⟩) n n, .pointer (some ⟨wb, 0, none⟩)] w fun e w' => ∃ hb f', e = .returned (.slice (some ⟨hb, 0, none⟩) n n) ∧ w.heap.size ≤ hb ∧ w'.rowIs hb 4 n (fun q => .bool (holdsS bt sz wd n q)) ∧ Fr (fun k => k = wb) w w' ∧ w'.rowIs wb 68 14 f' ∧ f' 7 = f 7 := by
  have hwb : wb < w.heap.size := hW.lt
  have hn0 : 0 < n := by omega
  have hbbl : bb < w.heap.size := World.block_lt_of_cell? _ _ (hF.bit 0 (by rw [hM]; exact Nat.mul_pos hn0 hw0))
  have hsbl : sb < w.heap.size := World.block_lt_of_cell? _ _ (hF.siz 0 hn0)
  have hobl : ob < w.heap.size := hR.lt
  have h1l : 1 < w.heap.size := World.block_lt_of_cell? _ _ (hT 0 (by decide))
  have c6 := hW.cell (i := 6) (by omega)
  rw [h6] at c6
  have c8 := hW.cell (i := 8) (by omega)
  rw [h8] at c8
  have c9 := hW.cell (i := 9) (by omega)
  rw [h9] at c9
  have fz6 : w.frozen? ⟨wb, 6, none⟩ = false := hW.frozen 6
  have fz8 : w.frozen? ⟨wb, 8, none⟩ = false := hW.frozen 8
  have CB : Hid (∀ w, Calls Tryd.prog 37 #[.slice none 0 0, .int .i64 (n : Int)] w fun e w' => e = .returned (.slice (some ⟨w.heap.size, 0, none⟩) n n) ∧ w' = w.alloc (.cells (madeCells #[.bool false] n) 4)) := fun w => reuseBool_any n hn0 (by omega) w
  have HF : Hid (FamAt w bb sb n M bt sz) := hF
  have HT : Hid (TabAt 1 Lib.deBruijn64tab w) := hT
  have HW : Hid (w.rowIs wb 68 14 f) := hW
  have HR : Hid (w.rowIs ob 3 n (fun k => .int .i64 (o k : Int))) := hR
  have HO : Hid (OrdOk bt sz wd n o) := hO
  have HBT : Hid (∀ i, bt i < 2 ^ 64) := hbt
  have HM : Hid (M = n * wd) := hM
  have H8 : Hid (f 8 = .slice none 0 0 ∧ f 10 = .slice none 0 0) := ⟨h8, h10⟩
  clear hM hF hW h6 h8 h9 h10 hR hO hT hbt
  simp only [fam]
  go_enter Tryd.func36, Tryd.ntmps36
  go_upto_block 4 with (go_at_call 37; refine (CB.out _).mono ?_; rintro e w' ⟨rfl, rfl⟩)
  have HTS0 : Hid (TS _ ((((w.setCell ⟨wb, 6, none⟩ (.slice (some ⟨w.heap.size + 1, 0, none⟩) n n)).setCell ⟨wb, 8, none⟩ (.slice none 0 0)).alloc (.cells (Qxb6613821aDoor.fam bb sb n wd M) 39)).alloc (.cells (madeCells #[.bool false] n) 4)) (w.heap.size + 2) wb (w.heap.size + 1) n _ _ _ _ _ _ _ (fun q => .bool (hTo bt sz wd n o 0 q))) := ts_start w wb bb sb n wd M f (fun q => .bool (hTo bt sz wd n o 0 q)) (fun q => by rw [hTo_zero]) HW.out H8.out.1 H8.out.2
  have HBox : Hid (World.rowIs ((((w.setCell ⟨wb, 6, none⟩ (.slice (some ⟨w.heap.size + 1, 0, none⟩) n n)).setCell ⟨wb, 8, none⟩ (.slice none 0 0)).alloc (.cells (Qxb6613821aDoor.fam bb sb n wd M) 39)).alloc (.cells (madeCells #[.bool false] n) 4)) w.heap.size 39 3 (fun o => if o = 0 then .int .i64 (wd : Int) else if o = 1 then .slice (some ⟨bb, 0, none⟩) M M else .slice (some ⟨sb, 0, none⟩) n n)) := by
    refine World.rowIs.alloc (rowIs_alloc' _ _ _ _ _ _ (by simp) rfl (fun i hi => ?_)) _
    have h3 : i = 0 ∨ i = 1 ∨ i = 2 := by simp [fam] at hi; omega
    rcases h3 with rfl | rfl | rfl <;> simp [fam]
  have hfX : Fr (fun k => k = wb) w ((((w.setCell ⟨wb, 6, none⟩ (.slice (some ⟨w.heap.size + 1, 0, none⟩) n n)).setCell ⟨wb, 8, none⟩ (.slice none 0 0)).alloc (.cells (Qxb6613821aDoor.fam bb sb n wd M) 39)).alloc (.cells (madeCells #[.bool false] n) 4)) := ((((Fr.refl (fun k => k = wb) w).setCell ⟨wb, 6, none⟩ _ (Or.inl rfl)).setCell ⟨wb, 8, none⟩ _ (Or.inl rfl)).alloc _).alloc _
  have hXs : (((((w.setCell ⟨wb, 6, none⟩ (.slice (some ⟨w.heap.size + 1, 0, none⟩) n n)).setCell ⟨wb, 8, none⟩ (.slice none 0 0)).alloc (.cells (Qxb6613821aDoor.fam bb sb n wd M) 39)).alloc (.cells (madeCells #[.bool false] n) 4))).heap.size = w.heap.size + 2 := by simp
  simp only [fam] at HTS0 HBox hfX hXs
  generalize ((((w.setCell ⟨wb, 6, none⟩ (.slice (some ⟨w.heap.size + 1, 0, none⟩) n n)).setCell ⟨wb, 8, none⟩ (.slice none 0 0)).alloc (.cells #[.int .i64 (wd : Int), .slice (some ⟨bb, 0, none⟩) M M, .slice (some ⟨sb, 0, none⟩) n n] 39)).alloc (.cells (madeCells #[.bool false] n) 4)) = wX at *
  have HFX : Hid (FamAt wX bb sb n M bt sz) := hfX.fam HF.out hbb hsb
  have HRX : Hid (wX.rowIs ob 3 n (fun k => .int .i64 (o k : Int))) := hfX.row HR.out hob
  have HTX : Hid (TabAt 1 Lib.deBruijn64tab wX) := hfX.tab HT.out h1wb
  have HFrX : Hid (Fr (fun k => k = wb) w wX) := hfX
  have HT0 : Hid (TOk bt sz wd n o ⟨0, fun _ => 0, fun _ => 0, fun _ => false⟩ 0) := ⟨Or.inl rfl, Nat.le_refl _, fun c hc => absurd hc (by simp), fun l => ⟨fun ⟨v, hv, _⟩ => by simp at hv, fun ⟨j, hj, _⟩ => by omega⟩⟩
  obtain ⟨f6, HF6, HTS1⟩ : ∃ f6 : Nat → Value, Hid (f6 7 = f 7) ∧ Hid (TS wX wX (w.heap.size + 2) wb (w.heap.size + 1) n f6 ⟨0, fun _ => 0, fun _ => 0, fun _ => false⟩ (.slice none 0 0) (.slice none 0 0) (.slice none 0 0) [] [] (fun q => .bool (hTo bt sz wd n o 0 q))) := ⟨_, by show _ = _; simp, HTS0⟩
  have HOb : Hid (∀ (wr : World) (j : Nat), Fr (fun k => k = wb ∨ k = w.heap.size + 1) wX wr → j < n → wr.cell? ⟨ob, j, none⟩ = some (.int .i64 (o j : Int))) := fun wr j hf hj => (hf.row HRX.out (by omega)).cell hj
  have HBc : Hid (∀ (wr : World), Fr (fun k => k = wb ∨ k = w.heap.size + 1) wX wr → wr.cell? ⟨w.heap.size, 0, none⟩ = some (.int .i64 (wd : Int)) ∧ wr.cell? ⟨w.heap.size, 1, none⟩ = some (.slice (some ⟨bb, 0, none⟩) M M) ∧ wr.cell? ⟨w.heap.size, 2, none⟩ = some (.slice (some ⟨sb, 0, none⟩) n n)) := fun wr hf =>
    ⟨(hf.row HBox.out (by omega)).cell (i := 0) (by omega), (hf.row HBox.out (by omega)).cell (i := 1) (by omega), (hf.row HBox.out (by omega)).cell (i := 2) (by omega)⟩
  have HFa : Hid (∀ (wr : World), Fr (fun k => k = wb ∨ k = w.heap.size + 1) wX wr → FamAt wr bb sb n M bt sz) := fun wr hf => hf.fam HFX.out (by omega) (by omega)
  have HTa : Hid (∀ (wr : World), Fr (fun k => k = wb ∨ k = w.heap.size + 1) wX wr → TabAt 1 Lib.deBruijn64tab wr) := fun wr hf => hf.tab HTX.out (by omega)
  clear hfX CB c6 fz6 c8 c9 fz8 HTS0 HBox HFX HRX HTX HF HT HW HR H8
  rw [show decide ((n : Int) ≤ 16) = false from decide_eq_false (by omega)]
  go_wp2_with fail
  go_loopw [13, 14] (fun vm vs wr => ∃ (start : Nat) (T : Trie) (nv sv : Value) (l0 lm : List Nat), vs = .int .i64 start ∧ start < n ∧ Hid (TOk bt sz wd n o T start) ∧ Hid (∀ j, j < start → sz (o j) < sz (o start)) ∧ Hid (TS wX wr (w.heap.size + 2) wb (w.heap.size + 1) n f6 T nv sv vm l0 lm (fun q => .bool (hTo bt sz wd n o start q)))) (fun _ vs _ => n - (intOf vs).toNat)
  case atStart => exact ⟨0, _, _, _, _, _, rfl, hn0, HT0, fun j hj => absurd hj (by omega), HTS1⟩
  case round =>
    clear HTS1 HT0
    obtain ⟨start, T, nv, sv, l0, lm, rfl, hs, HTk, HLs, HTS⟩ := hrel
    go_upto_block 6 with fail
    try rw [show decide ((start : Int) < (n : Int)) = true from decide_eq_true (by omega)]
    go_cut [15] from 93 to 117 (fun v15 wx => ∃ e : Nat, v15 = .int .i64 e ∧ start < e ∧ e ≤ n ∧ Hid (∀ j, start ≤ j → j < e → sz (o j) = sz (o start)) ∧ Hid (e < n → sz (o start) < sz (o e)) ∧ Hid (TS wX wx (w.heap.size + 2) wb (w.heap.size + 1) n f6 T nv sv u13 l0 lm (fun q => .bool (hTo bt sz wd n o start q))))
    case first =>
      go_wp2_with fail
      go_loopw [15] (fun v15 wr => ∃ e : Nat, v15 = .int .i64 e ∧ start ≤ e ∧ e ≤ n ∧ Hid (∀ j, start ≤ j → j < e → sz (o j) = sz (o start)) ∧ Hid (TS wX wr (w.heap.size + 2) wb (w.heap.size + 1) n f6 T nv sv u13 l0 lm (fun q => .bool (hTo bt sz wd n o start q)))) (fun v15 _ => n - (intOf v15).toNat)
      case atStart => exact ⟨start, rfl, Nat.le_refl _, by omega, fun j h1 h2 => absurd h2 (by omega), HTS⟩
      case round =>
        clear HTS
        obtain ⟨e, rfl, hse, hen, HSame, HTS⟩ := hrel
        by_cases hlt : e < n
        · have ce := HOb.out wr e HTS.out.fr hlt
          have cs := HOb.out wr start HTS.out.fr hs
          obtain ⟨_, _, b2⟩ := HBc.out wr HTS.out.fr
          have hfa := HFa.out wr HTS.out.fr
          have hoe := HO.out.lt e hlt
          have hos := HO.out.lt start hs
          have se := hfa.siz (o e) hoe
          have ss := hfa.siz (o start) hos
          clear hfa
          by_cases hq : sz (o e) = sz (o start)
          · have HSame2 : Hid (∀ j, start ≤ j → j < e + 1 → sz (o j) = sz (o start)) := fun j h1 h2 => by
              by_cases x : j = e
              · subst x; exact hq
              · exact HSame.out j h1 (by omega)
            rw [hq] at se
            clear hq
            go_wp2
            go_quiet (fail)
            go_wp2
            go_roundw
            case rel => exact ⟨e + 1, by go_num, by omega, by omega, HSame2, HTS.out.drewN _⟩
            case measure => simp [intOf]; omega
          · have hqi : ((sz (o e) : Int) == (sz (o start) : Int)) = false := by simp; omega
            have HL : Hid (sz (o start) < sz (o e)) := by
              have := HO.out.sz_le hse hlt
              show _ < _
              omega
            have hne : start ≠ e := fun x => by subst x; exact hq rfl
            clear hq
            go_wp2
            go_quiet (fail)
            go_wp2
            go_meet
            exact ⟨e, rfl, by omega, hen, HSame, fun _ => HL.out, HTS.out.drewN _⟩
        · go_wp2
          go_quiet (fail)
          go_wp2
          go_meet
          exact ⟨e, rfl, by omega, hen, HSame, fun x => absurd x (by omega), HTS.out.drewN _⟩
    case rest =>
      obtain ⟨e, rfl, hse, hen, HSame, HLe, HTS2⟩ := hcut
      clear HTS
      go_upto_block 8 with fail
      go_cut [17] from 123 to 138 (fun _ wx => ∃ (sv2 : Value) (l2 : List Nat), Hid (TS wX wx (w.heap.size + 2) wb (w.heap.size + 1) n f6 T nv sv2 u13 l2 lm (fun q => .bool (hTo bt sz wd n o e q))))
      case first =>
        go_wp2_with fail
        go_loopw [17, 123] (fun _ vk wr => ∃ (k : Nat) (sv2 : Value) (l2 : List Nat), vk = .int .i64 k ∧ k ≤ e - start ∧ Hid (TS wX wr (w.heap.size + 2) wb (w.heap.size + 1) n f6 T nv sv2 u13 l2 lm (fun q => .bool (hTo bt sz wd n o (start + k) q)))) (fun _ vk _ => (e - start) - (intOf vk).toNat)
        case atStart => exact ⟨0, sv, l0, rfl, Nat.zero_le _, HTS2⟩
        case round =>
          clear HTS2
          obtain ⟨k, sv2, l2, rfl, hk, HTS⟩ := hrel
          by_cases hlt : k < e - start
          · have hkn : start + k < n := by omega
            have ck := HOb.out wr (start + k) HTS.out.fr hkn
            obtain ⟨b0, b1, b2⟩ := HBc.out wr HTS.out.fr
            have hq := HO.out.lt (start + k) hkn
            have HSt : Hid (∀ i, hTo bt sz wd n o (start + k + 1) i = if i = o (start + k) then holdsS bt sz wd n (o (start + k)) else hTo bt sz wd n o (start + k) i) := fun i => hTo_step HO.out hkn i
            have HTr : Hid ((∃ l, T.Has l ∧ ∀ m ∈ l, mem bt (o (start + k) * wd) m = true) ↔ holdsS bt sz wd n (o (start + k)) = true) :=
              holdsS_trie HBT.out HO.out (Nat.le_add_right _ _) hkn (HSame.out _ (by omega) (by omega)) HLs.out HTk.out.has
            generalize hqe : o (start + k) = q at *
            clear hqe
            obtain ⟨p, hp⟩ : ∃ p, p = q * wd := ⟨_, rfl⟩
            rw [← hp] at HTr
            have CA : Hid (∀ w, Calls Tryd.prog 61 #[.agg (Qxb6613821aDoor.fam bb sb n wd M), .int .i64 (q : Int)] w fun e w' => e = .returned (.slice (some ⟨bb, p, none⟩) wd (M - p)) ∧ Below w.heap.size w w') := fun w => set_any bb sb n wd M q p HM.out hp hq hn hw0 hw w
            have hpM : p + wd ≤ M := by rw [hp, HM.out, ← Nat.succ_mul]; exact Nat.mul_le_mul_right _ hq
            have CO : Hid (∀ w3, TS wX w3 (w.heap.size + 2) wb (w.heap.size + 1) n f6 T nv sv2 u13 l2 lm (fun q => .bool (hTo bt sz wd n o (start + k) q)) → Calls Tryd.prog 66 #[.pointer (some ⟨wb, 8, none⟩), .slice (some ⟨bb, p, none⟩) wd (M - p), .pointer (some ⟨wb, 10, none⟩)] w3 fun e w' => e = .returned (.bool (holdsS bt sz wd n q)) ∧ Sought w3 w' (w.heap.size + 2) wb (fTr f6 nv sv2) sv2) := fun w3 h3 => by
              have hc := HTk.out.cap
              refine (holdsOne_all wb (w.heap.size + 2) bb wd p (M - p) bt T HTk.out.ok (by omega) HTk.out.mb hw HBT.out (fTr f6 nv sv2) nv sv2 l2 w3 h3.row (by simp [fTr]) (by simp [fTr]) h3.nodes h3.stack h3.a1 (by omega) (by omega) h3.size (fun i hi => (HFa.out w3 h3.fr).bit (p + i) (by omega))).mono ?_
              rintro e w' ⟨b, rfl, hb1, hb2⟩
              refine ⟨?_, hb2⟩
              have : b = holdsS bt sz wd n q := by
                rw [Bool.eq_iff_iff]; exact hb1.trans HTr.out
              rw [this]
            clear hp HTr
            go_wp2
            go_region_with (first
              | (go_at_call 61; refine (CA.out _).mono ?_; rintro e w2 ⟨rfl, hb61⟩)
              | (go_at_call 66; refine (CO.out _ ((HTS.out.drewN 1).below hb61)).mono ?_; rintro e w4 ⟨rfl, hso⟩
                 obtain ⟨sv4, l4, HTS4'⟩ := ((HTS.out.drewN 1).below hb61).sought (by omega) (by omega) (by omega) hXs hso
                 have HTS4 : Hid (TS wX w4 (w.heap.size + 2) wb (w.heap.size + 1) n f6 T nv sv4 u13 l4 lm (fun q => .bool (hTo bt sz wd n o (start + k) q))) := HTS4'
                 have cq := HTS4'.hol.cell (i := q) hq
                 have fq : w4.frozen? ⟨w.heap.size + 1, q, none⟩ = false := HTS4'.hol.frozen q
                 clear hso HTS4'))
            all_goals
              clear CA CO HTS
              go_wp2
              refine ⟨⟨k + 1, sv4, l4, by go_num, by omega, ?_⟩, by simp [intOf]; omega⟩
              refine (HTS4.out.stored (by omega) (by omega) q (.bool (holdsS bt sz wd n q))).congr (fun i => ?_)
              rw [← Nat.add_assoc, HSt.out i]
              by_cases x : i = q
              · rw [if_pos x, if_pos x]
              · rw [if_neg x, if_neg x]
          · go_wp2
            go_meet
            exact ⟨sv2, l2, by have h := HTS.out; rw [show start + k = e from by omega] at h; exact h⟩
      case rest =>
        obtain ⟨sv2, l2, HTS⟩ := hcut
        clear HTS2
        by_cases hend : e = n
        · subst hend
          obtain ⟨mo, mc, rfl⟩ : ∃ mo mc, u13 = .slice mo lm.length mc := by
            rcases HTS.out.mem.2 with ⟨x, y⟩ | ⟨g, cap, _, x, _⟩
            · exact ⟨none, 0, by rw [x, y]⟩
            · exact ⟨_, cap, x⟩
          have HRow : Hid (wc.rowIs wb 68 14 (fTr f6 nv sv2)) := HTS.out.row
          have c9 := HRow.out.cell (i := 9) (by omega)
          have fz9 : wc.frozen? ⟨wb, 9, none⟩ = false := HRow.out.frozen 9
          have HHol : Hid (wc.rowIs (w.heap.size + 1) 4 e (fun q => .bool (holdsS bt sz wd e q))) := HTS.out.hol.congr (fun i hi => by rw [hTo_end HO.out hi])
          have HFrc : Hid (Fr (fun k => k = wb) w wc) := HFrX.out.trans HTS.out.fr (fun b hb2 x => by omega)
          go_wp2
          go_ret
          refine ⟨w.heap.size + 1, _, rfl, by omega, HHol.out.setOther (by simp; omega) _, HFrc.out.setCell _ _ (Or.inl rfl), HRow.out.set 9 _, ?_⟩
          have := HF6.out
          simpa [fTr] using this
        · go_upto_block 10 with fail
          rw [show ((e : Int) == (n : Int)) = false from by simp; omega]
          go_cut [13, 18, 19] from 144 to 181 (fun vm _ _ wx => ∃ (T2 : Trie) (nv2 : Value) (lm2 : List Nat), Hid (TOk bt sz wd n o T2 e) ∧ Hid (TS wX wx (w.heap.size + 2) wb (w.heap.size + 1) n f6 T2 nv2 sv2 vm l2 lm2 (fun q => .bool (hTo bt sz wd n o e q))))
          case first =>
            go_wp2_with fail
            go_loopw [13, 18, 19] (fun vm vk _ wr => ∃ (k : Nat) (T2 : Trie) (nv2 : Value) (lm2 : List Nat), vk = .int .i64 k ∧ start ≤ k ∧ k ≤ e ∧ Hid (TOk bt sz wd n o T2 k) ∧ Hid (TS wX wr (w.heap.size + 2) wb (w.heap.size + 1) n f6 T2 nv2 sv2 vm l2 lm2 (fun q => .bool (hTo bt sz wd n o e q)))) (fun _ vk _ _ => e - (intOf vk).toNat)
            case atStart => exact ⟨start, T, nv, lm, rfl, Nat.le_refl _, by omega, HTk, HTS⟩
            case round =>
              clear HTS HTk
              obtain ⟨k, T2, nv2, lm2, rfl, hsk, hke, HTk, HTS⟩ := hrel
              by_cases hlt : k < e
              · have hkn : k < n := by omega
                have ck := HOb.out wr k HTS.out.fr hkn
                obtain ⟨b0, b1, b2⟩ := HBc.out wr HTS.out.fr
                have hq := HO.out.lt k hkn
                have hh := HTS.out.hol.cell (i := o k) hq
                rw [hTo_done HO.out hlt (by omega)] at hh
                obtain ⟨t, ht⟩ : ∃ t : Bool, t = (!holdsS bt sz wd n (o k) && (decide (k = start) || compareF bt sz wd (o k) (o (k - 1)) != 0)) := ⟨_, rfl⟩
                have HT : Hid (t = (!holdsS bt sz wd n (o k) && (decide (k = start) || compareF bt sz wd (o k) (o (k - 1)) != 0))) := ht
                clear ht
                go_upto_region 33 with fail
                try rw [show decide ((k : Int) < (e : Int)) = true from decide_eq_true (by omega)]
                go_cut [173] from 153 to 173 (fun v wx => v = .bool t ∧ Hid (TS wX wx (w.heap.size + 2) wb (w.heap.size + 1) n f6 T2 nv2 sv2 u13 l2 lm2 (fun q => .bool (hTo bt sz wd n o e q))))
                case first =>
                  cases hS : holdsS bt sz wd n (o k) with
                  | true =>
                    have HT2 : Hid (t = false) := by show _ = _; rw [HT.out, hS]; rfl
                    rw [hS] at hh
                    go_quiet (fail)
                    go_wp2_with fail
                    go_meet
                    exact ⟨by rw [HT2.out], HTS.out.drewN _⟩
                  | false =>
                    rw [hS] at hh
                    by_cases hks : k = start
                    · have HT2 : Hid (t = true) := by show _ = _; rw [HT.out, hS]; simp [hks]
                      subst hks
                      go_quiet (fail)
                      go_wp2_with fail
                      go_meet
                      exact ⟨by rw [HT2.out], HTS.out.drewN _⟩
                    · have HT2 : Hid (t = (compareF bt sz wd (o k) (o (k - 1)) != 0)) := by show _ = _; rw [HT.out, hS]; simp [hks]
                      have hk1 : ((k : Int) == (start : Int)) = false := by simp; omega
                      have ck1 := HOb.out wr (k - 1) HTS.out.fr (by omega)
                      have hq1 := HO.out.lt (k - 1) (by omega)
                      have HMk : Hid (∀ w3, TS wX w3 (w.heap.size + 2) wb (w.heap.size + 1) n f6 T2 nv2 sv2 u13 l2 lm2 (fun q => .bool (hTo bt sz wd n o e q)) → TS wX w3 (w.heap.size + 2) wb (w.heap.size + 1) n f6 T2 nv2 sv2 u13 l2 lm2 (fun q => .bool (hTo bt sz wd n o e q)) ∧ w3.cell? ⟨w.heap.size + 1, o k, none⟩ = some (.bool false) ∧ w3.cell? ⟨w.heap.size, 0, none⟩ = some (.int .i64 (wd : Int)) ∧ w3.cell? ⟨w.heap.size, 1, none⟩ = some (.slice (some ⟨bb, 0, none⟩) M M) ∧ w3.cell? ⟨w.heap.size, 2, none⟩ = some (.slice (some ⟨sb, 0, none⟩) n n) ∧ w3.cell? ⟨ob, k - 1, none⟩ = some (.int .i64 (o (k - 1) : Int))) := fun w3 h3 => by
                        obtain ⟨x0, x1, x2⟩ := HBc.out w3 h3.fr
                        refine ⟨h3, ?_, x0, x1, x2, HOb.out w3 (k - 1) h3.fr (by omega)⟩
                        rw [h3.hol.cell (i := o k) hq, hTo_done HO.out hlt (by omega), hS]
                      have HC : Hid (∀ w3, TS wX w3 (w.heap.size + 2) wb (w.heap.size + 1) n f6 T2 nv2 sv2 u13 l2 lm2 (fun q => .bool (hTo bt sz wd n o e q)) ∧ w3.cell? ⟨w.heap.size + 1, o k, none⟩ = some (.bool false) ∧ w3.cell? ⟨w.heap.size, 0, none⟩ = some (.int .i64 (wd : Int)) ∧ w3.cell? ⟨w.heap.size, 1, none⟩ = some (.slice (some ⟨bb, 0, none⟩) M M) ∧ w3.cell? ⟨w.heap.size, 2, none⟩ = some (.slice (some ⟨sb, 0, none⟩) n n) ∧ w3.cell? ⟨ob, k - 1, none⟩ = some (.int .i64 (o (k - 1) : Int)) → Calls Tryd.prog 38 #[.agg (Qxb6613821aDoor.fam bb sb n wd M), .int .i64 (o k : Int), .int .i64 (o (k - 1) : Int)] w3 fun e w' => e = .returned (.int .i64 (compareF bt sz wd (o k) (o (k - 1)))) ∧ Below w3.heap.size w3 w') := fun w3 h3 => compare_any bb sb n wd M (o k) (o (k - 1)) bt sz HM.out hq hq1 hn hw0 hw w3 (HFa.out w3 h3.1.fr)
                      have hk0 : (0 : Int) ≤ (k : Int) - 1 := by omega
                      have hk2 : (k : Int) - 1 < (n : Int) := by omega
                      have hkw : IntKind.i64.wrap ((k : Int) - 1) = (k : Int) - 1 := by simp [IntKind.wrap, IntKind.bits, IntKind.signed]; omega
                      have hk3 : ((k : Int) - 1).toNat = k - 1 := by omega
                      have hk4 : (1 : Int) ≤ (k : Int) := by omega
                      have hk5 : 1 ≤ k := by omega
                      have hk6 : 0 < k := by omega
                      have hk7 : ¬ k = 0 := by omega
                      have hk8 : (k : Int) < (n : Int) + 1 := by omega
                      have hk9 : k - 1 < n := by omega
                      have hk10 : k < n + 1 := by omega
                      clear hh ck1 b0 b1 b2 ck hS
                      generalize compareF bt sz wd (o k) (o (k - 1)) = cv at *
                      generalize o (k - 1) = q1 at *
                      go_region_held2 (fun w' => TS wX w' (w.heap.size + 2) wb (w.heap.size + 1) n f6 T2 nv2 sv2 u13 l2 lm2 (fun q => .bool (hTo bt sz wd n o e q)) ∧ w'.cell? ⟨w.heap.size + 1, o k, none⟩ = some (.bool false) ∧ w'.cell? ⟨w.heap.size, 0, none⟩ = some (.int .i64 (wd : Int)) ∧ w'.cell? ⟨w.heap.size, 1, none⟩ = some (.slice (some ⟨bb, 0, none⟩) M M) ∧ w'.cell? ⟨w.heap.size, 2, none⟩ = some (.slice (some ⟨sb, 0, none⟩) n n) ∧ w'.cell? ⟨ob, k - 1, none⟩ = some (.int .i64 (q1 : Int)))
                        (first | exact HMk.out _ (HTS.out.drewN 1) | exact HMk.out _ (TS.below (And.left (by assumption)) (by assumption)))
                        (first | (go_at_call 38; refine (HC.out _ (by assumption)).mono ?_; rintro e w2 ⟨rfl, hb2⟩))
                      go_wp2_with fail
                      go_simp
                      go_meet
                      exact ⟨by rw [HT2.out], And.left (by assumption)⟩
                case rest =>
                  obtain ⟨rfl, HTS2⟩ := hcut
                  clear HTS
                  cases t with
                  | false =>
                    have HSk : Hid (TOk bt sz wd n o T2 (k + 1)) := by
                      refine HTk.out.skip ?_
                      cases hS : holdsS bt sz wd n (o k) with
                      | true => exact Or.inl rfl
                      | false =>
                        have h1 := HT.out
                        rw [hS] at h1
                        simp at h1
                        have h2 := compareF_zero h1.2
                        refine Or.inr ⟨k - 1, by omega, ?_, mlist_same h2.2⟩
                        rw [← holdsS_same h1.2]; exact hS
                    clear HT
                    go_wp2
                    go_roundw
                    case rel => exact ⟨k + 1, T2, nv2, lm2, by go_num, by omega, by omega, HSk, HTS2⟩
                    case measure => simp [intOf]; omega
                  | true =>
                    have HS : Hid (holdsS bt sz wd n (o k) = false) := by
                      have h1 := HT.out
                      cases hS : holdsS bt sz wd n (o k) with
                      | true => rw [hS] at h1; simp at h1
                      | false => rfl
                    obtain ⟨x0, x1, x2⟩ := HBc.out wc HTS2.out.fr
                    go_upto_region 34 with fail
                    go_cut [13] from 174 to 178 (fun vm wx => Hid (TS wX wx (w.heap.size + 2) wb (w.heap.size + 1) n f6 T2 nv2 sv2 vm l2 (mlist bt (o k * wd) (64 * wd)) (fun q => .bool (hTo bt sz wd n o e q))))
                    case first =>
                      have CM : Hid (∀ w3 v, Fr (fun k => k = wb ∨ k = w.heap.size + 1) wX w3 → w.heap.size + 2 ≤ w3.heap.size → w3.ownsRow (w.heap.size + 2) 3 1 v 0 [] → Calls Tryd.prog 67 #[.agg (Qxb6613821aDoor.fam bb sb n wd M), v, .int .i64 (o k : Int)] w3 fun e w' => ∃ v', e = .returned v' ∧ w'.ownsRow (w.heap.size + 2) 3 1 v' (mlist bt (o k * wd) (64 * wd)).length (ints (mlist bt (o k * wd) (64 * wd))) ∧ Moved w3 w' v.ownBlock v'.ownBlock) := fun w3 v h3 hs3 ho =>
                        members_any bb sb n wd M (o k) (w.heap.size + 2) bt sz HM.out hq hn hw0 hw w3 (HFa.out w3 h3) HBT.out (HTa.out w3 h3) v ho hs3 (by omega) (by omega) (by omega)
                      rcases HTS2.out.mem.2 with ⟨hu, hl⟩ | ⟨mg, mcap, cur, hu, _, _, hml, _⟩
                      · subst hu
                        go_region_with (go_at_call 67; refine (CM.out _ (.slice none 0 0) (HTS2.out.drewN 1).fr (HTS2.out.drewN 1).size (World.ownsRow_nil _ _ _ _)).mono ?_; rintro e w2 ⟨v', rfl, hown, hmv⟩)
                        all_goals
                          go_wp2_with fail
                          go_meet
                          exact (HTS2.out.drewN 1).moved (by omega) (by omega) hXs rfl hown hmv
                      · subst hu
                        have HOc : Hid ((wc.drewN 1).ownsRow (w.heap.size + 2) 3 1 (.slice (some ⟨mg, 0, none⟩) 0 mcap) 0 []) := by
                          have := own_cut (HTS2.out.drewN 1).mem 0 (Nat.zero_le _)
                          rw [ints_take] at this
                          exact this
                        go_region_with (go_at_call 67; refine (CM.out _ (.slice (some ⟨mg, 0, none⟩) 0 mcap) (HTS2.out.drewN 1).fr (HTS2.out.drewN 1).size HOc.out).mono ?_; rintro e w2 ⟨v', rfl, hown, hmv⟩)
                        all_goals
                          go_wp2_with fail
                          go_meet
                          exact (HTS2.out.drewN 1).moved (by omega) (by omega) hXs rfl hown hmv
                    case rest =>
                      clear HTS2 x0 x1 x2
                      have HTS3 : Hid (TS wX wc (w.heap.size + 2) wb (w.heap.size + 1) n f6 T2 nv2 sv2 u13 l2 (mlist bt (o k * wd) (64 * wd)) (fun q => .bool (hTo bt sz wd n o e q))) := hcut
                      have CI : Hid (Calls Tryd.prog 68 #[.pointer (some ⟨wb, 8, none⟩), u13] wc fun ee w' => ee = .returned (.tuple #[]) ∧ ∃ T' nv', T'.Ok ∧ (∀ l, T'.Has l ↔ T2.Has l ∨ l = mlist bt (o k * wd) (64 * wd)) ∧ T'.N ≤ T2.N + (mlist bt (o k * wd) (64 * wd)).length + 1 ∧ (∀ c, c < T'.N → T'.mb c < 64 * wd) ∧ InsAt wc w' (w.heap.size + 2) wb (fTr f6 nv2 sv2) nv2 nv' T') := by
                        have hc := HTk.out.cap
                        have hl := mlist_len bt (o k * wd) (64 * wd)
                        exact insert_any wb (w.heap.size + 2) (64 * wd) T2 HTk.out.ok (by omega) HTk.out.mb (fTr f6 nv2 sv2) nv2 u13 _ (fun m hm => ((mlist_mem _ _ _ _).1 hm).1) (by omega) (by omega) (by omega) wc HTS3.out.row (by simp [fTr]) HTS3.out.nodes HTS3.out.mem HTS3.out.a2 (by omega) HTS3.out.size
                      clear hcut HT
                      go_wp2_with (go_at_call 68; refine CI.out.mono ?_; rintro ee w2 ⟨rfl, T', nv', hok, hhas, hcap, hmb, hins⟩; have HTS4 : Hid (TS wX w2 (w.heap.size + 2) wb (w.heap.size + 1) n f6 T' nv' sv2 u13 l2 (mlist bt (o k * wd) (64 * wd)) (fun q => .bool (hTo bt sz wd n o e q))) := HTS3.out.inserted (by omega) (by omega) (by omega) hXs hins; have HTk4 : Hid (TOk bt sz wd n o T' (k + 1)) := HTk.out.ins hw HS.out hok hhas hcap hmb; clear hok hhas hcap hmb hins)
                      go_roundw
                      case rel => exact ⟨k + 1, T', nv', _, by go_num, by omega, by omega, HTk4, HTS4⟩
                      case measure => simp [intOf]; omega
              · go_wp2
                go_meet
                exact ⟨T2, nv2, lm2, by have h := HTk.out; rw [show k = e from by omega] at h; exact h, HTS⟩
          case rest =>
            obtain ⟨T2, nv2, lm2, HTk2, HTS2⟩ := hcut
            go_wp2
            go_roundw
            case rel => exact ⟨e, T2, nv2, sv2, l2, lm2, rfl, by omega, HTk2, fun j hj => by
              have h1 := HLe.out (by omega)
              by_cases x : start ≤ j
              · rw [HSame.out j x hj]; exact h1
              · have := HLs.out j (by omega); omega, HTS2⟩
            case measure => simp [intOf]; omega
end Go.Proofs.Qxb6613821aDoor
