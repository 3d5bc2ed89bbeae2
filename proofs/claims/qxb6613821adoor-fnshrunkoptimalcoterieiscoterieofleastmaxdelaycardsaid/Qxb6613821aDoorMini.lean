/- (Family).Minimal and Minimal. -/
import Derived.Test.Qxb6613821aDoorMark
import Derived.Test.Qxb6613821aDoorNew
import Derived.Test.Qxb6613821aDoorBalls
namespace Go.Proofs.Qxb6613821aDoor
set_option linter.unusedVariables false
set_option linter.unusedSimpArgs false
open Ieee Go.RowKit Go.Sort Go.Lib

def klist (bt sz : Nat → Nat) (wd n k : Nat) : List Nat := (List.range k).filter (keepF bt sz wd n)
theorem klist_succ (bt sz : Nat → Nat) (wd n k : Nat) : klist bt sz wd n (k + 1) = klist bt sz wd n k ++ (if keepF bt sz wd n k then [k] else []) := by
  unfold klist
  rw [List.range_succ, List.filter_append]
  cases h : keepF bt sz wd n k <;> simp [h]
theorem klist_len (bt sz : Nat → Nat) (wd n k : Nat) : (klist bt sz wd n k).length ≤ k := by
  unfold klist
  exact Nat.le_trans (List.length_filter_le _ _) (by simp)

set_option maxHeartbeats 4000000 in
theorem fminimal_any (bb sb n wd M : Nat) (bt sz : Nat → Nat) (hM : M = n * wd) (hn0 : 0 < n) (hn : n ≤ 256) (hw0 : 0 < wd) (hw : wd ≤ 5) (hbt : ∀ i, bt i < 2 ^ 64) (w : World) (hF : FamAt w bb sb n M bt sz) (hT : TabAt 1 Lib.deBruijn64tab w) :
    Calls Tryd.prog 21 #[.agg (fam bb sb n wd M)] w fun e w' => ∃ v, e = .returned v ∧ w'.ownsRow w.heap.size 3 1 v (klist bt sz wd n n).length (ints (klist bt sz wd n n)) ∧ Below w.heap.size w w' := by
  have hbbl : bb < w.heap.size := World.block_lt_of_cell? _ _ (hF.bit 0 (by rw [hM]; exact Nat.mul_pos hn0 hw0))
  have hsbl : sb < w.heap.size := World.block_lt_of_cell? _ _ (hF.siz 0 hn0)
  have h1l : 1 < w.heap.size := World.block_lt_of_cell? _ _ (hT 0 (by decide))
  have HF : Hid (FamAt w bb sb n M bt sz) := hF
  have HT : Hid (TabAt 1 Lib.deBruijn64tab w) := hT
  have HCM : Hid (∀ (w3 : World) (wb : Nat) (f : Nat → Value), FamAt w3 bb sb n M bt sz → TabAt 1 Lib.deBruijn64tab w3 → w3.rowIs wb 68 14 f → (∀ i, 4 ≤ i → i ≤ 10 → f i = .slice none 0 0) → bb ≠ wb → sb ≠ wb → 1 ≠ wb → Calls Tryd.prog 27 #[.agg (Qxb6613821aDoor.fam bb sb n wd M), .pointer (some ⟨wb, 0, none⟩)] w3 fun e w' => ∃ ob kb, e = .returned (.tuple #[.slice (some ⟨ob, 0, none⟩) n n, .slice (some ⟨kb, 0, none⟩) n n]) ∧ w3.heap.size ≤ kb ∧ w'.rowIs kb 4 n (fun q => .bool (keepF bt sz wd n q)) ∧ Fr (fun k => k = wb) w3 w') := fun w3 wb f h1 h2 h3 h4 h5 h6 h7 =>
    mark_any wb bb sb n wd M bt sz f hM hn0 hn hw0 hw hbt w3 h1 h2 h3 h4 h5 h6 h7
  clear hF hT hM hbt
  simp only [fam]
  go_enter Tryd.func21, Tryd.ntmps21
  go_wp2_with fail
  obtain ⟨zw, hzw⟩ : ∃ zw : Array Value, zw = #[.slice none 0 0, .int .i64 0, .slice none 0 0, .slice none 0 0, .slice none 0 0, .slice none 0 0, .slice none 0 0, .slice none 0 0, .slice none 0 0, .slice none 0 0, .slice none 0 0, .slice none 0 0, .int .u32 0, .slice none 0 0] := ⟨_, rfl⟩
  obtain ⟨w0, hw0e⟩ : ∃ w0, w0 = w.alloc (.cells #[.int .i64 (wd : Int), .slice (some ⟨bb, 0, none⟩) M M, .slice (some ⟨sb, 0, none⟩) n n] 39) := ⟨_, rfl⟩
  have hs0 : w0.heap.size = w.heap.size + 1 := by rw [hw0e]; simp
  have HWk : Hid ((w0.alloc (.cells zw 68)).rowIs (w.heap.size + 1) 68 14 (fun i => if i = 1 then .int .i64 0 else if i = 12 then .int .u32 0 else .slice none 0 0)) := by
    refine rowIs_alloc' _ _ _ _ _ _ hs0.symm (by rw [hzw]; rfl) (fun i hi => ?_)
    rw [hzw]
    have h3 : i = 0 ∨ i = 1 ∨ i = 2 ∨ i = 3 ∨ i = 4 ∨ i = 5 ∨ i = 6 ∨ i = 7 ∨ i = 8 ∨ i = 9 ∨ i = 10 ∨ i = 11 ∨ i = 12 ∨ i = 13 := by omega
    rcases h3 with rfl | rfl | rfl | rfl | rfl | rfl | rfl | rfl | rfl | rfl | rfl | rfl | rfl | rfl <;> simp
  have HFz : Hid (Fr (fun _ => False) w (w0.alloc (.cells zw 68))) := by
    show Fr _ _ _
    rw [hw0e]
    exact ((Fr.refl _ w).alloc _).alloc _
  have hsz : (w0.alloc (.cells zw 68)).heap.size = w.heap.size + 2 := by simp [hs0]
  rw [← hw0e, ← hzw]
  generalize w0.alloc (.cells zw 68) = w1 at *
  clear hw0e hzw
  go_wp2_with (
    go_at_call 27
    refine (HCM.out w1 (w.heap.size + 1) _ (HFz.out.fam HF.out (fun x => x) (fun x => x)) (HFz.out.tab HT.out (fun x => x)) HWk.out (fun i h1 h2 => by rw [if_neg (by omega), if_neg (by omega)]) (by omega) (by omega) (by omega)).mono ?_
    rintro e w2 ⟨ob, kb, rfl, hkb, hkeep, hfr⟩
    have HKp : Hid (w2.rowIs kb 4 n (fun q => .bool (keepF bt sz wd n q))) := hkeep
    have HB2 : Hid (Below w.heap.size w w2) := by
      have h1 := HFz.out.trans (T := fun k => k = w.heap.size + 1) hfr (fun b hb x => by omega)
      exact ⟨h1.os, h1.tape, h1.output, h1.size, fun k hk => h1.block k hk (fun x => x)⟩
    have hs2 := hfr.size
    clear hkeep hfr)
  have hkl : kb < w2.heap.size := HKp.out.lt
  go_loopw [3, 16] (fun vl vk wr => ∃ k : Nat, vk = .int .i64 k ∧ k ≤ n ∧ Hid (wr.ownsRow w2.heap.size 3 1 vl (klist bt sz wd n k).length (ints (klist bt sz wd n k))) ∧ Hid (Below w2.heap.size w2 wr)) (fun _ vk _ => n - (intOf vk).toNat)
  case atStart => exact ⟨0, rfl, Nat.zero_le _, World.ownsRow_nil _ _ _ _, Below.refl _ _⟩
  case round =>
    obtain ⟨k, rfl, hk, HO, HB⟩ := hrel
    by_cases hlt : k < n
    · have ck := (HKp.out.of_block (HB.out.block kb hkl)).cell (i := k) hlt
      have hlen := klist_len bt sz wd n k
      have hbz := HB.out.size
      cases hS : keepF bt sz wd n k with
      | false =>
        rw [hS] at ck
        have HE : Hid (klist bt sz wd n (k + 1) = klist bt sz wd n k) := by show _ = _; rw [klist_succ, hS]; simp
        go_wp2
        go_roundw
        case rel => exact ⟨k + 1, by go_num, by omega, by show World.ownsRow _ _ _ _ _ _ _; rw [HE.out]; exact HO.out, HB⟩
        case measure => simp [intOf]; omega
      | true =>
        rw [hS] at ck
        have HE : Hid (klist bt sz wd n (k + 1) = klist bt sz wd n k ++ [k]) := by show _ = _; rw [klist_succ, hS]; simp
        go_wp2_with (
          at_builtin
          refine wpList_append_int rfl _ _ rfl w2.heap.size u3 (klist bt sz wd n k) rfl (HO.out.alloc _) _ _ k rfl (by simp) (by omega) (by simp; omega) ?_
          intro g' c' w3 hown' hg' hw'
          have HO3 : Hid _ := hown'
          have HB3 : Hid (Below w2.heap.size w2 w3) := (HB.out.trans ((Below.refl _ _).alloc (by omega) _)).trans (Below.of_grown hg' (fun j hj => (HO.out.lt j hj).1) (by simp; omega))
          clear hown' hg' hw')
        go_roundw
        case rel => exact ⟨k + 1, by go_num, by omega, by show World.ownsRow _ _ _ _ _ _ _; rw [HE.out]; exact HO3.out, HB3⟩
        case measure => simp [intOf]; omega
    · have HE : Hid (k = n) := by show _ = _; omega
      go_wp2
      go_ret
      refine ⟨_, rfl, ?_, HB2.out.trans (HB.out.mono HB2.out.size)⟩
      have h := HO.out
      rw [HE.out] at h
      exact ⟨h.1, h.2.elim Or.inl (fun ⟨g, cap, cur, a, b, c⟩ => Or.inr ⟨g, cap, cur, a, Nat.le_trans HB2.out.size b, c⟩)⟩

theorem klist_lt (bt sz : Nat → Nat) (wd n k i x : Nat) (h : (klist bt sz wd n k)[i]? = some x) : x < k := by
  have := List.mem_of_getElem? h
  unfold klist at this
  simp at this
  exact this.1

/-- Which of the sets are kept. -/
def kept (L : List (List Nat)) (n : Nat) : List Nat := klist (btOf L (n / 64 + 1)) (szOf (btOf L (n / 64 + 1)) (n / 64 + 1)) (n / 64 + 1) n n

set_option maxHeartbeats 4000000 in
theorem minimal_any (B n : Nat) (vs : List Value) (L : List (List Nat)) (hn0 : 0 < n) (hn : n ≤ 256) (hL : L.length = n) (hlt : ∀ (q : Nat) (l : List Nat) (v : Nat), L[q]? = some l → v ∈ l → v < n) (hlen : ∀ (q : Nat) (l : List Nat), L[q]? = some l → l.length ≤ 256) (w : World) (hN : Nest w B vs L) (hT : TabAt 1 Lib.deBruijn64tab w) :
    Calls Tryd.prog 16 #[.int .i64 (n : Int), .slice (some ⟨B, 0, none⟩) n n] w fun e w' => ∃ rb, e = .returned (.slice (some ⟨rb, 0, none⟩) (kept L n).length (kept L n).length) ∧ w.heap.size ≤ rb ∧ w'.rowIs rb 29 (kept L n).length (fun k => vs.getD ((kept L n).getD k 0) (.slice none 0 0)) ∧ Below w.heap.size w w' := by
  have hBl : B < w.heap.size := hN.lt
  have hvl : vs.length = n := by rw [hN.rows.len, hL]
  have h1l : 1 < w.heap.size := World.block_lt_of_cell? _ _ (hT 0 (by decide))
  have HN : Hid (Nest w B vs L) := hN
  have HT : Hid (TabAt 1 Lib.deBruijn64tab w) := hT
  have HNew : Hid (Calls Tryd.prog 20 #[.int .i64 (n : Int), .slice (some ⟨B, 0, none⟩) n n] w fun e w' => ∃ bb sb, e = .returned (.agg (fam bb sb n (n / 64 + 1) (n * (n / 64 + 1)))) ∧ w.heap.size ≤ bb ∧ w.heap.size ≤ sb ∧ bb ≠ sb ∧
      w'.rowIs bb 51 (n * (n / 64 + 1)) (fun i => .int .u64 (btOf L (n / 64 + 1) i : Int)) ∧ w'.rowIs sb 3 n (fun k => .int .i64 (szOf (btOf L (n / 64 + 1)) (n / 64 + 1) k : Int)) ∧ Below w.heap.size w w') := new_any B n vs L hn0 hn hL hlt hlen w hN
  have HCM : Hid (∀ (w3 : World) (bb sb : Nat), FamAt w3 bb sb n (n * (n / 64 + 1)) (btOf L (n / 64 + 1)) (szOf (btOf L (n / 64 + 1)) (n / 64 + 1)) → TabAt 1 Lib.deBruijn64tab w3 → Calls Tryd.prog 21 #[.agg (fam bb sb n (n / 64 + 1) (n * (n / 64 + 1)))] w3 fun e w' => ∃ v, e = .returned v ∧ w'.ownsRow w3.heap.size 3 1 v (kept L n).length (ints (kept L n)) ∧ Below w3.heap.size w3 w') := fun w3 bb sb h1 h2 =>
    fminimal_any bb sb n (n / 64 + 1) _ _ _ rfl hn0 hn (by omega) (by omega) (fun i => setBits_lt _ _) w3 h1 h2
  have hkl : (kept L n).length ≤ n := klist_len _ _ _ _ _
  have HKlt : Hid (∀ i x, (kept L n)[i]? = some x → x < n) := fun i x h => klist_lt _ _ _ _ _ _ _ h
  generalize kept L n = kl at *
  have hmk : ∀ w : World, (Instr.makeSlice 25 (.int .i64 (kl.length : Int)) (.int .i64 (kl.length : Int))).run Tryd.prog w = .ok (.slice (some ⟨w.heap.size, 0, none⟩) kl.length kl.length) (w.alloc (.cells (madeCells #[.slice none 0 0] kl.length) 29)) := fun w =>
    run_make_row' (P := Tryd.prog) 25 29 (.slice none 0 0) 24 Tryd.underlying25 info29 rfl .i64 .i64 kl.length (by omega) (by omega) w
  clear hN hT hlt hlen
  go_enter Tryd.func16, Tryd.ntmps16
  go_wp2_with (first
    | (go_at_call 20
       refine HNew.out.mono ?_
       rintro e w1 ⟨bb, sb, rfl, hbb, hsb, _, hrb, hrs, hb1⟩
       have HF1 : Hid (FamAt w1 bb sb n (n * (n / 64 + 1)) (btOf L (n / 64 + 1)) (szOf (btOf L (n / 64 + 1)) (n / 64 + 1))) := ⟨fun i hi => hrb.cell hi, fun k hk => hrs.cell hk⟩
       have HB1 : Hid (Below w.heap.size w w1) := hb1
       have HT1 : Hid (TabAt 1 Lib.deBruijn64tab w1) := tab_grown HT.out (grown_below hb1 none) (by simp)
       clear hrb hrs hb1)
    | (go_at_call 21
       refine (HCM.out w1 bb sb HF1.out HT1.out).mono ?_
       rintro e w2 ⟨kv, rfl, hown, hb2⟩
       have HO2 : Hid (w2.ownsRow w1.heap.size 3 1 kv kl.length (ints kl)) := hown
       have HB2 : Hid (Below w.heap.size w w2) := HB1.out.trans (hb2.mono HB1.out.size)
       have hs1 := HB1.out.size
       have hs2 := hb2.size
       obtain ⟨ko, kc, rfl⟩ : ∃ ko kc, kv = .slice ko kl.length kc := by
         rcases hown.2 with ⟨x, y⟩ | ⟨g, cap, _, x, _⟩
         · exact ⟨none, 0, by rw [x, y]⟩
         · exact ⟨_, cap, x⟩
       clear hown hb2))
  clear hmk HNew HCM
  go_loopw [18] (fun vk wr => ∃ k : Nat, vk = .int .i64 k ∧ k ≤ kl.length ∧ Hid (Below w2.heap.size w2 wr) ∧ Hid (wr.rowIs w2.heap.size 29 kl.length (fun i => if i < k then vs.getD (kl.getD i 0) (.slice none 0 0) else .slice none 0 0))) (fun vk _ => kl.length - (intOf vk).toNat)
  case atStart => exact ⟨0, rfl, Nat.zero_le _, (Below.refl _ _).alloc (Nat.le_refl _) _, (rowIs_made' rfl).congr (fun i _ => by simp)⟩
  case round =>
    obtain ⟨k, rfl, hk, HB, HR⟩ := hrel
    by_cases hlt : k < kl.length
    · obtain ⟨x, hx⟩ : ∃ x, kl[k]? = some x := ⟨kl[k], List.getElem?_eq_getElem hlt⟩
      have hxn := HKlt.out k x hx
      obtain ⟨kg, rfl, hkc, hkg⟩ : ∃ kg, ko = some ⟨kg, 0, none⟩ ∧ kl.length ≤ kc ∧ kg < w2.heap.size := by
        obtain ⟨g, cap, e, h2, _, h4⟩ := own_form' HO2.out (by omega)
        cases e; exact ⟨g, rfl, h2, h4⟩
      have ck := (HB.out.cell (p := ⟨kg, k, none⟩) hkg).trans (own_cell HO2.out (ints_get kl hx))
      obtain ⟨v, hv⟩ : ∃ v, vs[x]? = some v := ⟨vs[x]'(by omega), List.getElem?_eq_getElem (by omega)⟩
      have cb := (HB.out.cell (p := ⟨B, x, none⟩) (Nat.lt_of_lt_of_le hBl (by omega))).trans (((HB2.out.cell (p := ⟨B, x, none⟩) hBl)).trans ((HN.out.cell x).trans hv))
      have pc := HR.out.cell (i := k) hlt
      have pz : wr.frozen? ⟨w2.heap.size, k, none⟩ = false := HR.out.frozen k
      have HV : Hid (vs.getD (kl.getD k 0) (.slice none 0 0) = v) := by
        show _ = _
        rw [List.getD_eq_getElem?_getD, List.getD_eq_getElem?_getD, hx]
        simp [hv]
      obtain ⟨vo, vn, vc, rfl⟩ : ∃ vo vn vc, v = .slice vo vn vc := by
        have hl : x < L.length := by omega
        rcases (HN.out.rows.own x v _ hv (List.getElem?_eq_getElem hl)).2 with ⟨y, _⟩ | ⟨g, cap, _, y, _⟩
        · exact ⟨none, 0, 0, y⟩
        · exact ⟨_, _, _, y⟩
      clear hx hv
      go_wp2
      go_roundw
      case rel =>
        refine ⟨k + 1, by go_num, by omega, HB.out.setCell (Nat.le_refl _) _, (HR.out.set k _).congr (fun i _ => ?_)⟩
        by_cases e : i = k
        · rw [if_pos e, if_pos (by omega), e, HV.out]
        · by_cases e2 : i < k
          · simp [e, e2, show i < k + 1 from by omega]
          · simp [e, e2, show ¬ i < k + 1 from by omega]
      case measure => simp [intOf]; omega
    · go_wp2
      go_ret
      exact ⟨w2.heap.size, rfl, by omega, HR.out.congr (fun i hi => by rw [if_pos (by omega)]), HB2.out.trans (HB.out.mono HB2.out.size)⟩
end Go.Proofs.Qxb6613821aDoor
