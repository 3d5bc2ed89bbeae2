/- The family of lists of members (sets.New). -/
import Derived.Test.Qxb6613821aDoorFam
namespace Go.Proofs.Qxb6613821aDoor
set_option linter.unusedVariables false
set_option linter.unusedSimpArgs false
open Ieee Go.RowKit

set_option maxHeartbeats 4000000 in
theorem ofWords_any (bb m wd M : Nat) (bt : Nat → Nat) (hM : M = m * wd) (hm0 : 0 < m) (hm : m ≤ 256) (hw0 : 0 < wd) (hw : wd ≤ 5) (w : World) (hB : ∀ i, i < M → w.cell? ⟨bb, i, none⟩ = some (.int .u64 (bt i : Int))) (hbb : bb < w.heap.size) :
    Calls Tryd.prog 26 #[.int .i64 (wd : Int), .slice (some ⟨bb, 0, none⟩) M M] w fun e w' => ∃ sb, e = .returned (.agg (fam bb sb m wd M)) ∧ w.heap.size ≤ sb ∧ w'.rowIs sb 3 m (fun k => .int .i64 (szOf bt wd k : Int)) ∧ Below w.heap.size w w' := by
  have C : Hid (∀ (wb : Nat) (w' : World), Below w.heap.size w w' → w'.cell? ⟨wb, 0, none⟩ = some (.slice none 0 0) → w'.frozen? ⟨wb, 0, none⟩ = false → Calls Tryd.prog 34 #[.pointer (some ⟨wb, 0, none⟩), .int .i64 (wd : Int), .slice (some ⟨bb, 0, none⟩) M M] w' fun e w'' => ∃ sb, e = .returned (.agg (fam bb sb m wd M)) ∧ w'.heap.size ≤ sb ∧ w''.rowIs sb 3 m (fun k => .int .i64 (szOf bt wd k : Int)) ∧ w'.grownBy w'' (some wb)) :=
    fun wb w' hb h1 h2 => workOfWords_any wb bb m wd M bt hM hm0 hm hw0 hw w' (fun i hi => (hb.cell (p := ⟨bb, i, none⟩) hbb).trans (hB i hi)) (Nat.lt_of_lt_of_le hbb hb.size) h1 h2
  clear hB hM
  go_enter Tryd.func26, Tryd.ntmps26
  go_wp2_with fail
  refine (C.out (w.heap.size + 1) _ ?_ ?_ ?_).mono ?_
  · ((repeat (first | refine Below.drew ?_ | refine Below.drewN' ?_ _ | refine Below.alloc ?_ (by simp <;> omega) _)); exact Below.refl _ _)
  · simp
  · simp
  rintro e w1 ⟨sb, rfl, hsb, hrow, hg⟩
  have hz : w1.heap[w.heap.size]? = some (.cells #[.int .i64 0, .slice none 0 0, .slice none 0 0] 39 (0, 0)) := (hg.block w.heap.size (by simp <;> omega) (by simp)).trans (by (repeat (first | refine blk_drew ?_ | refine blk_new (by simp <;> omega) | refine blk_old ?_)))
  have hz0 := cell_of_row w1 w.heap.size 0 _ _ _ hz
  have hz1 := cell_of_row w1 w.heap.size 1 _ _ _ hz
  have hz2 := cell_of_row w1 w.heap.size 2 _ _ _ hz
  have hzf0 := frozen_of_row w1 w.heap.size 0 _ _ hz
  have hzf1 := frozen_of_row w1 w.heap.size 1 _ _ hz
  have hzf2 := frozen_of_row w1 w.heap.size 2 _ _ hz
  simp at hz0 hz1 hz2 hsb
  have hbel : Below w.heap.size w w1 := Below.trans (b := _) (by ((repeat (first | refine Below.drew ?_ | refine Below.drewN' ?_ _ | refine Below.alloc ?_ (by simp <;> omega) _)); exact Below.refl _ _)) (Below.of_grown hg (fun k hk => by cases hk; omega) (by simp; omega))
  have HZ : Hid _ := hz
  have HR : Hid _ := hrow
  have HB : Hid (Below w.heap.size w w1) := hbel
  clear hz hrow hg hbel
  go_wp2
  have hfin := set3 (x := .int .i64 (wd : Int)) (y := .slice (some ⟨bb, 0, none⟩) M M) (z := .slice (some ⟨sb, 0, none⟩) m m) HZ.out
  refine bodyPost_ret (v := .agg (fam bb sb m wd M)) (results_cell_row rfl _ _ w.heap.size 39 _ (0, 0) _ rfl hfin Tryd.underlying39 rfl (by kernel_rfl)) rfl ⟨sb, rfl, by omega, ?_, ?_⟩
  · refine World.rowIs.setOther (World.rowIs.setOther (World.rowIs.setOther HR.out ?_ _) ?_ _) ?_ _
    · simp; omega
    · simp; omega
    · simp; omega
  · exact ((HB.out.setCell (Nat.le_refl _) _).setCell (Nat.le_refl _) _).setCell (Nat.le_refl _) _
/-! ### the words of a list of members -/
def setBits (l : List Nat) (j : Nat) : Nat := l.foldl (fun a v => if v / 64 = j then a ||| 2 ^ (v % 64) else a) 0
theorem setBits_snoc (l : List Nat) (v j : Nat) : setBits (l ++ [v]) j = if v / 64 = j then setBits l j ||| 2 ^ (v % 64) else setBits l j := by
  unfold setBits; rw [List.foldl_append]; rfl
theorem setBits_lt' (l : List Nat) (j : Nat) : ∀ a, a < 2 ^ 64 → l.foldl (fun a v => if v / 64 = j then a ||| 2 ^ (v % 64) else a) a < 2 ^ 64 := by
  induction l with
  | nil => intro a h; exact h
  | cons v l ih =>
    intro a h
    rw [List.foldl_cons]
    apply ih
    split
    · exact Nat.or_lt_two_pow h (Nat.pow_lt_pow_right (by omega) (Nat.mod_lt _ (by omega)))
    · exact h
theorem setBits_lt (l : List Nat) (j : Nat) : setBits l j < 2 ^ 64 := setBits_lt' l j 0 (by omega)
theorem setBits_bit' (l : List Nat) (j k : Nat) (hk : k < 64) : ∀ a : Nat, (l.foldl (fun a v => if v / 64 = j then a ||| 2 ^ (v % 64) else a) a).testBit k = (a.testBit k || decide (64 * j + k ∈ l)) := by
  induction l with
  | nil => intro a; simp
  | cons v l ih =>
    intro a
    rw [List.foldl_cons, ih]
    by_cases h : v / 64 = j
    · rw [if_pos h, Nat.testBit_or, Nat.testBit_two_pow]
      have : (v % 64 = k) ↔ (64 * j + k = v) := by omega
      simp [this, Bool.or_assoc]
    · rw [if_neg h]
      have : ¬ (64 * j + k = v) := by omega
      simp [this]
theorem setBits_bit (l : List Nat) (j k : Nat) (hk : k < 64) : (setBits l j).testBit k = decide (64 * j + k ∈ l) := by
  unfold setBits; rw [setBits_bit' l j k hk]; simp
/-- The words of a list of sets. -/
def btOf (L : List (List Nat)) (wd i : Nat) : Nat := setBits (L.getD (i / wd) []) (i % wd)
def btPart (L : List (List Nat)) (wd q t i : Nat) : Nat := if i / wd < q then btOf L wd i else if i / wd = q then setBits ((L.getD q []).take t) (i % wd) else 0
theorem btPart_lt (L : List (List Nat)) (wd q t i : Nat) : btPart L wd q t i < 2 ^ 64 := by
  unfold btPart
  split
  · exact setBits_lt _ _
  · split
    · exact setBits_lt _ _
    · omega
theorem btPart_zero (L : List (List Nat)) (wd i : Nat) : btPart L wd 0 0 i = 0 := by unfold btPart; simp [setBits]
theorem btPart_end (L : List (List Nat)) (wd q i : Nat) (l : List Nat) (h : L[q]? = some l) : btPart L wd q l.length i = btPart L wd (q + 1) 0 i := by
  have e : L.getD q [] = l := by simp [List.getD, h]
  unfold btPart
  rw [e, List.take_length]
  by_cases h1 : i / wd < q
  · rw [if_pos h1, if_pos (by omega)]
  · rw [if_neg h1]
    by_cases h2 : i / wd = q
    · rw [if_pos h2, if_pos (by omega)]
      unfold btOf; rw [h2, e]
    · rw [if_neg h2, if_neg (by omega)]
      split
      · simp [setBits]
      · rfl
theorem btPart_all (L : List (List Nat)) (wd m i : Nat) (hw0 : 0 < wd) (hi : i < m * wd) : btPart L wd m 0 i = btOf L wd i := by
  unfold btPart
  rw [if_pos ((Nat.div_lt_iff_lt_mul hw0).2 hi)]
theorem btPart_step (L : List (List Nat)) (wd q t i v : Nat) (l : List Nat) (hw0 : 0 < wd) (h : L[q]? = some l) (ht : l[t]? = some v) (hv : v / 64 < wd) :
    btPart L wd q (t + 1) i = if i = q * wd + v / 64 then btPart L wd q t (q * wd + v / 64) ||| 2 ^ (v % 64) else btPart L wd q t i := by
  have e : L.getD q [] = l := by simp [List.getD, h]
  have e2 : l.take (t + 1) = l.take t ++ [v] := by rw [List.take_add_one, ht]; rfl
  have d1 : (q * wd + v / 64) / wd = q := by rw [Nat.mul_comm, Nat.mul_add_div hw0, Nat.div_eq_of_lt hv]; simp
  have d2 : (q * wd + v / 64) % wd = v / 64 := by rw [Nat.mul_comm, Nat.mul_add_mod, Nat.mod_eq_of_lt hv]
  unfold btPart
  rw [e, e2]
  by_cases h1 : i = q * wd + v / 64
  · subst h1
    rw [if_pos rfl, d1, d2, if_neg (by omega), if_pos rfl, setBits_snoc, if_pos rfl]
    simp
  · rw [if_neg h1]
    by_cases h2 : i / wd < q
    · rw [if_pos h2, if_pos h2]
    · rw [if_neg h2, if_neg h2]
      by_cases h3 : i / wd = q
      · rw [if_pos h3, if_pos h3, setBits_snoc, if_neg]
        intro h4
        apply h1
        have := Nat.div_add_mod i wd
        rw [h3, Nat.mul_comm] at this
        omega
      · rw [if_neg h3, if_neg h3]
theorem own_form {w : World} {base : Nat} {v : Value} {l : List Nat} (h : w.ownsRow base 3 1 v l.length (ints l)) :
    ∃ ov cap, v = .slice ov l.length cap ∧ ∀ (t x : Nat), l[t]? = some x → ∃ g, ov = some ⟨g, 0, none⟩ ∧ base ≤ g ∧ w.cell? ⟨g, t, none⟩ = some (.int .i64 (x : Int)) := by
  rcases h.2 with ⟨rfl, h0⟩ | ⟨g, cap, cur, rfl, hb, hg, hn, hc, hs, ht⟩
  · refine ⟨none, 0, by rw [h0], fun t x hx => ?_⟩
    have := (List.getElem?_eq_some_iff.1 hx).1
    omega
  · refine ⟨_, cap, rfl, fun t x hx => ⟨g, rfl, hb, ?_⟩⟩
    have hcell := h.cells (g := g) rfl t (.int .i64 (x : Int)) (by simp [ints, hx])
    cases t with
    | zero => simpa [Addr.add] using hcell
    | succ t => simpa [Addr.add] using hcell

theorem infoU64 : (Tryd.prog.info? 51).map (fun i => (i.zero, i.size, i.bytes)) = some (some (.int .u64 0), 1, 8) := by kernel_rfl

set_option maxHeartbeats 4000000 in
theorem new_any (B n : Nat) (vs : List Value) (L : List (List Nat)) (hn0 : 0 < n) (hn : n ≤ 256) (hL : L.length = n) (hlt : ∀ (q : Nat) (l : List Nat) (v : Nat), L[q]? = some l → v ∈ l → v < n) (hlen : ∀ (q : Nat) (l : List Nat), L[q]? = some l → l.length ≤ 256) (w : World) (hN : Nest w B vs L) :
    Calls Tryd.prog 20 #[.int .i64 (n : Int), .slice (some ⟨B, 0, none⟩) n n] w fun e w' => ∃ bb sb, e = .returned (.agg (fam bb sb n (n / 64 + 1) (n * (n / 64 + 1)))) ∧ w.heap.size ≤ bb ∧ w.heap.size ≤ sb ∧ bb ≠ sb ∧
      w'.rowIs bb 51 (n * (n / 64 + 1)) (fun i => .int .u64 (btOf L (n / 64 + 1) i : Int)) ∧ w'.rowIs sb 3 n (fun k => .int .i64 (szOf (btOf L (n / 64 + 1)) (n / 64 + 1) k : Int)) ∧ Below w.heap.size w w' := by
  obtain ⟨wd, hwd⟩ : ∃ wd, wd = n / 64 + 1 := ⟨_, rfl⟩
  have CW : Hid (∀ w, Calls Tryd.prog 25 #[.int .i64 (n : Int)] w fun e w' => e = .returned (.int .i64 (wd : Int)) ∧ w' = w) := fun w => by rw [hwd]; exact setWords_any n hn w
  have hw0 : 0 < wd := by omega
  have hw5 : wd ≤ 5 := by omega
  have Hwd : Hid (∀ v, v < n → v / 64 < wd) := fun v hv => by rw [hwd]; omega
  rw [← hwd]
  obtain ⟨M, hM⟩ : ∃ M, M = n * wd := ⟨_, rfl⟩
  have HMul : Hid (∀ q, q < n → q * wd + wd ≤ M) := fun q hq => by rw [hM, ← Nat.succ_mul]; exact Nat.mul_le_mul_right _ hq
  have hM2 : M ≤ 1280 := by rw [hM]; exact Nat.le_trans (Nat.mul_le_mul hn hw5) (by omega)
  have hM0 : 0 < M := by rw [hM]; exact Nat.mul_pos hn0 hw0
  have hMi : (n : Int) * (wd : Int) = (M : Int) := by rw [hM]; simp
  have HMe : Hid (M = n * wd) := hM
  rw [← hM]
  have CO : Hid (∀ bb (w : World), (∀ i, i < M → w.cell? ⟨bb, i, none⟩ = some (.int .u64 (btOf L wd i : Int))) → bb < w.heap.size → Calls Tryd.prog 26 #[.int .i64 (wd : Int), .slice (some ⟨bb, 0, none⟩) M M] w fun e w' => ∃ sb, e = .returned (.agg (fam bb sb n wd M)) ∧ w.heap.size ≤ sb ∧ w'.rowIs sb 3 n (fun k => .int .i64 (szOf (btOf L wd) wd k : Int)) ∧ Below w.heap.size w w') :=
    fun bb w h1 h2 => ofWords_any bb n wd M (btOf L wd) hM hn0 hn hw0 hw5 w h1 h2
  have hmk : ∀ w : World, (Instr.makeSlice 37 (.int .i64 (M : Int)) (.int .i64 (M : Int))).run Tryd.prog w = .ok (.slice (some ⟨w.heap.size, 0, none⟩) M M) (w.alloc (.cells (madeCells #[.int .u64 0] M) 51)) := fun w =>
    run_make_row' (P := Tryd.prog) 37 51 (.int .u64 0) 8 Tryd.underlying37 infoU64 rfl .i64 .i64 M (by omega) (by omega) w
  have HN : Hid (Nest w B vs L) := hN
  have HL : Hid (L.length = n) := hL
  have HLt : Hid (∀ (q : Nat) (l : List Nat) (v : Nat), L[q]? = some l → v ∈ l → v < n) := hlt
  have HLe : Hid (∀ (q : Nat) (l : List Nat), L[q]? = some l → l.length ≤ 256) := hlen
  clear hM hwd hN hL hlt hlen
  go_enter Tryd.func20, Tryd.ntmps20
  go_wp2_with (go_at_call 25; refine (CW.out _).mono ?_; rintro e w' ⟨rfl, hw'⟩; rw [hw']; clear hw')
  clear hmk
  go_loopw [21] (fun vq wr => ∃ (q : Nat), q ≤ n ∧ vq = .int .i64 q ∧ Hid (Below w.heap.size w wr) ∧ Hid (wr.heap[w.heap.size]? = some (.cells #[.int .i64 0, .slice none 0 0, .slice none 0 0] 39 (0, 0))) ∧ Hid (wr.rowIs (w.heap.size + 1) 51 M (fun i => .int .u64 (btPart L wd q 0 i : Int)))) (fun vq _ => n - (intOf vq).toNat)
  case atStart =>
    refine ⟨0, Nat.zero_le _, rfl, (show Below _ _ _ from by ((repeat (first | refine Below.drew ?_ | refine Below.drewN' ?_ _ | refine Below.alloc ?_ (by simp <;> omega) _)); exact Below.refl _ _)), (show _ = _ from by (repeat (first | refine blk_drew ?_ | refine blk_new (by simp <;> omega) | refine blk_old ?_))), World.rowIs.congr (f := fun _ => .int .u64 0) (by (repeat (first | refine World.rowIs.drew ?_ | refine rowIs_made' (by simp <;> omega) | refine World.rowIs.alloc ?_ _))) (fun i _ => by simp [btPart_zero])⟩
  case round =>
    obtain ⟨q, hq, rfl, HB, HZ, HR⟩ := hrel
    by_cases hlt : q < n
    · obtain ⟨v, l, hv, hll, hown⟩ := HN.out.rows.has (i := q) (by rw [HL.out]; exact hlt)
      have hcell := HN.out.cell q
      rw [hv] at hcell
      have hc1 := (HB.out.cell (p := ⟨B, q, none⟩) HN.out.lt).trans hcell
      have hle := HLe.out q l hll
      have hpM := HMul.out q hlt
      obtain ⟨p, hp⟩ : ∃ p, p = q * wd := ⟨_, rfl⟩
      have hpi : (q : Int) * (wd : Int) = (p : Int) := by rw [hp]; simp
      have hpi2 : ((q : Int) + 1) * (wd : Int) = ((p + wd : Nat) : Int) := by rw [Int.add_mul, hpi]; simp
      have HP : Hid (p = q * wd) := hp
      rw [← hp] at hpM
      obtain ⟨ov, cap, rfl, hel⟩ := own_form hown
      have HE : Hid _ := hel
      have HLL : Hid (L[q]? = some l) := hll
      clear hp hll hown hcell hv hel
      go_wp2
      clear hc1
      go_loopw [37] (fun vt wr => ∃ (t : Nat), t ≤ l.length ∧ vt = .int .i64 t ∧ Hid (Below w.heap.size w wr) ∧ Hid (wr.heap[w.heap.size]? = some (.cells #[.int .i64 0, .slice none 0 0, .slice none 0 0] 39 (0, 0))) ∧ Hid (wr.rowIs (w.heap.size + 1) 51 M (fun i => .int .u64 (btPart L wd q t i : Int)))) (fun vt _ => l.length - (intOf vt).toNat)
      case atStart => exact ⟨0, Nat.zero_le _, rfl, HB, HZ, HR⟩
      case round =>
        clear HB HZ HR
        obtain ⟨t, ht, rfl, HB, HZ, HR⟩ := hrel
        by_cases htl : t < l.length
        · obtain ⟨x, hx⟩ : ∃ x, l[t]? = some x := ⟨_, List.getElem?_eq_getElem htl⟩
          obtain ⟨g, rfl, hgB, hcx⟩ := HE.out t x hx
          have hxn : x < n := HLt.out q l x HLL.out (List.mem_of_getElem? hx)
          have hxw := Hwd.out x hxn
          have hcx2 := (HB.out.cell (p := ⟨g, t, none⟩) (World.block_lt_of_cell? w _ hcx)).trans hcx
          have HS : Hid (∀ i, btPart L wd q (t + 1) i = if i = p + x / 64 then btPart L wd q t (p + x / 64) ||| 2 ^ (x % 64) else btPart L wd q t i) := fun i => by rw [HP.out]; exact btPart_step L wd q t i x l hw0 HLL.out hx hxw
          have hcy := HR.out.cell (i := p + x / 64) (by omega)
          have hfy := HR.out.frozen (p + x / 64)
          obtain ⟨y, hy⟩ : ∃ y, y = btPart L wd q t (p + x / 64) := ⟨_, rfl⟩
          have hyl : y < 2 ^ 64 := by rw [hy]; exact btPart_lt _ _ _ _ _
          have hor := or_bit (k := x % 64) hyl (Nat.mod_lt _ (by omega))
          obtain ⟨z, hz⟩ : ∃ z, z = y ||| 2 ^ (x % 64) := ⟨_, rfl⟩
          rw [← hz] at hor
          rw [← hy] at hcy HS
          rw [← hz] at HS
          clear hy hz hyl hcx hx
          go_wp2_with fail
          go_region
          all_goals
            go_wp2
            go_roundw
            case rel =>
              refine ⟨t + 1, by omega, by go_num, (HB.out.setCell (by simp) _).drewN' _, (heap_setCell_other wr ⟨w.heap.size + 1, p + x / 64, none⟩ w.heap.size _ (by simp)).trans HZ.out, World.rowIs.congr (World.rowIs.drew (HR.out.set (p + x / 64) _)) (fun i _ => ?_)⟩
              rw [HS.out i]
              split <;> rfl
            case measure => simp [intOf]; omega
        · have HT : Hid (t = l.length) := by show _ = _; omega
          go_wp2
          go_roundw
          case rel => exact ⟨q + 1, by omega, by go_num, HB, HZ, HR.out.congr (fun i _ => by rw [HT.out, btPart_end L wd q i l HLL.out])⟩
          case measure => simp [intOf]; omega
    · have HQ : Hid (q = n) := by show _ = _; omega
      have hC := CO.out (w.heap.size + 1) wr (fun i hi => by rw [HR.out.cell hi, HQ.out, btPart_all L wd n i hw0 (by rw [← HMe.out]; exact hi)]) HR.out.lt
      have HC : Hid (Calls Tryd.prog 26 #[.int .i64 (wd : Int), .slice (some ⟨w.heap.size + 1, 0, none⟩) M M] wr fun e w' => ∃ sb, e = .returned (.agg (fam (w.heap.size + 1) sb n wd M)) ∧ wr.heap.size ≤ sb ∧ w'.rowIs sb 3 n (fun k => .int .i64 (szOf (btOf L wd) wd k : Int)) ∧ Below wr.heap.size wr w') := hC
      clear hC
      go_wp2_with fail
      refine HC.out.mono ?_
      rintro e w1 ⟨sb, rfl, hsb, hrow, hbel⟩
      have hz := (hbel.block w.heap.size (Array.getElem?_eq_some_iff.1 HZ.out).1).trans HZ.out
      have hz0 := cell_of_row w1 w.heap.size 0 _ _ _ hz
      have hz1 := cell_of_row w1 w.heap.size 1 _ _ _ hz
      have hz2 := cell_of_row w1 w.heap.size 2 _ _ _ hz
      have hzf0 := frozen_of_row w1 w.heap.size 0 _ _ hz
      have hzf1 := frozen_of_row w1 w.heap.size 1 _ _ hz
      have hzf2 := frozen_of_row w1 w.heap.size 2 _ _ hz
      simp at hz0 hz1 hz2
      have HZ1 : Hid _ := hz
      have HSb : Hid (w.heap.size + 1 < sb) := Nat.lt_of_lt_of_le HR.out.lt hsb
      have HRow : Hid _ := hrow
      have HRb : Hid (w1.rowIs (w.heap.size + 1) 51 M (fun i => .int .u64 (btOf L wd i : Int))) := (HR.out.of_block (hbel.block _ HR.out.lt)).congr (fun i hi => by rw [HQ.out, btPart_all L wd n i hw0 (by rw [← HMe.out]; exact hi)])
      have HB1 : Hid (Below w.heap.size w w1) := HB.out.trans (hbel.mono HB.out.size)
      clear hz hrow hbel hsb
      go_wp2
      have hfin := set3 (x := .int .i64 (wd : Int)) (y := .slice (some ⟨w.heap.size + 1, 0, none⟩) M M) (z := .slice (some ⟨sb, 0, none⟩) n n) HZ1.out
      have hs := HSb.out
      refine bodyPost_ret (v := .agg (fam (w.heap.size + 1) sb n wd M)) (results_cell_row rfl _ _ w.heap.size 39 _ (0, 0) _ rfl hfin Tryd.underlying39 rfl (by kernel_rfl)) rfl ⟨w.heap.size + 1, sb, rfl, by omega, by omega, by omega, ?_, ?_, ?_⟩
      · refine World.rowIs.setOther (World.rowIs.setOther (World.rowIs.setOther HRb.out ?_ _) ?_ _) ?_ _ <;> (simp)
      · refine World.rowIs.setOther (World.rowIs.setOther (World.rowIs.setOther HRow.out ?_ _) ?_ _) ?_ _ <;> (simp; omega)
      · exact ((HB1.out.setCell (Nat.le_refl _) _).setCell (Nat.le_refl _) _).setCell (Nat.le_refl _) _
end Go.Proofs.Qxb6613821aDoor
