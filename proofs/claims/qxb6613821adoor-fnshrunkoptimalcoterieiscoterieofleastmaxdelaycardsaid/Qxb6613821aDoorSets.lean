import Derived.Test.Qxb6613821aDoorMem
import Derived.Deep.RegionHeld2
import Derived.Deep.DeepCutAuto
namespace Go.Proofs.Qxb6613821aDoor
set_option linter.unusedVariables false
set_option linter.unusedSimpArgs false
open Ieee Go.RowKit

theorem setWords_any (n : Nat) (hn : n ≤ 256) (w : World) :
    Calls Tryd.prog 25 #[.int .i64 (n : Int)] w fun e w' => e = .returned (.int .i64 ((n / 64 + 1 : Nat) : Int)) ∧ w' = w := by
  go_enter Tryd.func25, Tryd.ntmps25
  go_wp2
  go_ret
  exact ⟨by simp, rfl⟩

theorem reuseInt_any (n : Nat) (h0 : 0 < n) (hn : n ≤ 65536) (w : World) :
    Calls Tryd.prog 60 #[.slice none 0 0, .int .i64 (n : Int)] w fun e w' => e = .returned (.slice (some ⟨w.heap.size, 0, none⟩) n n) ∧ w' = w.alloc (.cells (madeCells #[.int .i64 0] n) 3) := by
  have hmk : ∀ w : World, (Instr.makeSlice 29 (.int .i64 (n : Int)) (.int .i64 (n : Int))).run Tryd.prog w = .ok (.slice (some ⟨w.heap.size, 0, none⟩) n n) (w.alloc (.cells (madeCells #[.int .i64 0] n) 3)) := fun w =>
    run_make_row' (P := Tryd.prog) 29 3 (.int .i64 0) 8 Tryd.underlying29 info3 rfl .i64 .i64 n (by omega) (by omega) w
  go_enter Tryd.func60, Tryd.ntmps60
  go_wp2
  go_ret
  exact ⟨rfl, rfl⟩

theorem infoBool : (Tryd.prog.info? 4).map (fun i => (i.zero, i.size, i.bytes)) = some (some (.bool false), 1, 1) := by kernel_rfl
theorem reuseBool_any (n : Nat) (h0 : 0 < n) (hn : n ≤ 65536) (w : World) :
    Calls Tryd.prog 37 #[.slice none 0 0, .int .i64 (n : Int)] w fun e w' => e = .returned (.slice (some ⟨w.heap.size, 0, none⟩) n n) ∧ w' = w.alloc (.cells (madeCells #[.bool false] n) 4) := by
  have hmk : ∀ w : World, (Instr.makeSlice 53 (.int .i64 (n : Int)) (.int .i64 (n : Int))).run Tryd.prog w = .ok (.slice (some ⟨w.heap.size, 0, none⟩) n n) (w.alloc (.cells (madeCells #[.bool false] n) 4)) := fun w =>
    run_make_row' (P := Tryd.prog) 53 4 (.bool false) 1 Tryd.underlying53 infoBool rfl .i64 .i64 n (by omega) (by omega) w
  go_enter Tryd.func37, Tryd.ntmps37
  go_wp2
  go_ret
  exact ⟨rfl, rfl⟩

/-- A family's value: wd words to a set, m sets, M = m * wd words in all; the words lie in block bb, the sizes in block sb. -/
abbrev fam (bb sb m wd M : Nat) : Array Value := #[.int .i64 (wd : Int), .slice (some ⟨bb, 0, none⟩) M M, .slice (some ⟨sb, 0, none⟩) m m]

/-- A family in memory: word i is bt i; set k has sz k members. -/
structure FamAt (w : World) (bb sb m M : Nat) (bt sz : Nat → Nat) : Prop where
  bit : ∀ i, i < M → w.cell? ⟨bb, i, none⟩ = some (.int .u64 (bt i : Int))
  siz : ∀ k, k < m → w.cell? ⟨sb, k, none⟩ = some (.int .i64 (sz k : Int))
theorem FamAt.keep {w w' : World} {bb sb m M : Nat} {bt sz : Nat → Nat} (h : FamAt w bb sb m M bt sz) {B : Nat} (hB : w.heap.size ≤ B) (hb : Below B w w') : FamAt w' bb sb m M bt sz :=
  ⟨fun i hi => (hb.cell (Nat.lt_of_lt_of_le (World.block_lt_of_cell? _ _ (h.bit i hi)) hB)).trans (h.bit i hi),
   fun k hk => (hb.cell (Nat.lt_of_lt_of_le (World.block_lt_of_cell? _ _ (h.siz k hk)) hB)).trans (h.siz k hk)⟩

theorem set_any (bb sb m wd M k p : Nat) (hM : M = m * wd) (hp : p = k * wd) (hk : k < m) (hm : m ≤ 256) (hw0 : 0 < wd) (hw : wd ≤ 5) (w : World) :
    Calls Tryd.prog 61 #[.agg (fam bb sb m wd M), .int .i64 (k : Int)] w fun e w' => e = .returned (.slice (some ⟨bb, p, none⟩) wd (M - p)) ∧ Below w.heap.size w w' := by
  have h1 : p + wd ≤ M := by
    rw [hp, hM, ← Nat.succ_mul]; exact Nat.mul_le_mul_right _ hk
  have h2 : M ≤ 1280 := by
    rw [hM]; exact Nat.le_trans (Nat.mul_le_mul hm hw) (by omega)
  have e1 : (k : Int) * (wd : Int) = (p : Int) := by rw [hp]; simp
  have e2 : ((k : Int) + 1) * (wd : Int) = ((p + wd : Nat) : Int) := by rw [Int.add_mul, e1]; simp
  clear hp hM
  go_enter Tryd.func61, Tryd.ntmps61
  go_wp2
  go_ret
  refine ⟨?_, (Below.refl _ _).alloc (Nat.le_refl _) _⟩
  show Ending.returned _ = _
  simp

/-- Does set a hold every member of set b? -/
def holdsB (bt : Nat → Nat) (wd a b : Nat) : Bool := (List.range wd).all fun k => bits .andNot .u64 (bt (b * wd + k) : Int) (bt (a * wd + k) : Int) == 0

theorem keep3 {B g : Nat} {w0 w w' : World} {x y z : Value} (hB : g < B) (h : w.cell? ⟨g, 0, none⟩ = some x ∧ w.cell? ⟨g, 1, none⟩ = some y ∧ w.cell? ⟨g, 2, none⟩ = some z ∧ Below B w0 w) (hz : B ≤ w0.heap.size) (hb : Below w.heap.size w w') :
    w'.cell? ⟨g, 0, none⟩ = some x ∧ w'.cell? ⟨g, 1, none⟩ = some y ∧ w'.cell? ⟨g, 2, none⟩ = some z ∧ Below B w0 w' :=
  have hs : B ≤ w.heap.size := Nat.le_trans hz h.2.2.2.size
  ⟨(hb.cell (p := ⟨g, 0, none⟩) (by simp; omega)).trans h.1, (hb.cell (p := ⟨g, 1, none⟩) (by simp; omega)).trans h.2.1, (hb.cell (p := ⟨g, 2, none⟩) (by simp; omega)).trans h.2.2.1, h.2.2.2.trans (hb.mono hs)⟩

set_option maxHeartbeats 2000000 in
theorem holds_any (bb sb m wd M a b : Nat) (bt sz : Nat → Nat) (hM : M = m * wd) (ha : a < m) (hb : b < m) (hm : m ≤ 256) (hw0 : 0 < wd) (hw : wd ≤ 5) (w : World) (hF : FamAt w bb sb m M bt sz) :
    Calls Tryd.prog 65 #[.agg (fam bb sb m wd M), .int .i64 (a : Int), .int .i64 (b : Int)] w fun e w' => e = .returned (.bool (holdsB bt wd a b)) ∧ Below w.heap.size w w' := by
  obtain ⟨p, hp⟩ : ∃ p, p = a * wd := ⟨_, rfl⟩
  obtain ⟨r, hr⟩ : ∃ r, r = b * wd := ⟨_, rfl⟩
  have h1 : p + wd ≤ M := by rw [hp, hM, ← Nat.succ_mul]; exact Nat.mul_le_mul_right _ ha
  have h2 : r + wd ≤ M := by rw [hr, hM, ← Nat.succ_mul]; exact Nat.mul_le_mul_right _ hb
  have CA := fun w => set_any bb sb m wd M a p hM hp ha hm hw0 hw w
  have CB := fun w => set_any bb sb m wd M b r hM hr hb hm hw0 hw w
  have CA' : Hid _ := CA
  have CB' : Hid _ := CB
  have HF : Hid (FamAt w bb sb m M bt sz) := hF
  have HH : Hid (holdsB bt wd a b = (List.range wd).all fun k => bits .andNot .u64 (bt (r + k) : Int) (bt (p + k) : Int) == 0) := by rw [hp, hr]; rfl
  clear CA CB hF hp hr hM
  simp only [fam]
  go_enter Tryd.func65, Tryd.ntmps65
  go_upto_region 1 with fail
  go_cut [7, 8] (fun v7 v8 wx => v7 = .slice (some ⟨bb, p, none⟩) wd (M - p) ∧ v8 = .slice (some ⟨bb, r, none⟩) wd (M - r) ∧ Hid (Below w.heap.size w wx))
  case first =>
    have hS0 : (w.alloc (.cells (fam bb sb m wd M) 39)).cell? ⟨w.heap.size, 0, none⟩ = some (.int .i64 (wd : Int)) ∧ (w.alloc (.cells (fam bb sb m wd M) 39)).cell? ⟨w.heap.size, 1, none⟩ = some (.slice (some ⟨bb, 0, none⟩) M M) ∧
        (w.alloc (.cells (fam bb sb m wd M) 39)).cell? ⟨w.heap.size, 2, none⟩ = some (.slice (some ⟨sb, 0, none⟩) m m) ∧ Below (w.heap.size + 1) (w.alloc (.cells (fam bb sb m wd M) 39)) (w.alloc (.cells (fam bb sb m wd M) 39)) := ⟨by simp, by simp, by simp, Below.refl _ _⟩
    simp only [fam] at hS0
    have hzz : w.heap.size + 1 ≤ (w.alloc (.cells (fam bb sb m wd M) 39)).heap.size := by simp
    simp only [fam] at hzz
    generalize hW0 : w.alloc (.cells #[.int .i64 (wd : Int), .slice (some ⟨bb, 0, none⟩) M M, .slice (some ⟨sb, 0, none⟩) m m] 39) = W0 at *
    go_region_held2 (fun w' => w'.cell? ⟨w.heap.size, 0, none⟩ = some (.int .i64 (wd : Int)) ∧ w'.cell? ⟨w.heap.size, 1, none⟩ = some (.slice (some ⟨bb, 0, none⟩) M M) ∧ w'.cell? ⟨w.heap.size, 2, none⟩ = some (.slice (some ⟨sb, 0, none⟩) m m) ∧ Below (w.heap.size + 1) W0 w')
      (first | exact ⟨hS0.1, hS0.2.1, hS0.2.2.1, hS0.2.2.2.drew⟩ | exact keep3 (by omega) (by assumption) hzz (by assumption))
      (first
        | (go_at_call_of 61 a; refine (CA'.out _).mono ?_; rintro e w' ⟨rfl, hbx⟩)
        | (go_at_call_of 61 b; refine (CB'.out _).mono ?_; rintro e w' ⟨rfl, hby⟩))
    go_wp2_with fail
    go_meet
    have hbw : Below w.heap.size w W0 := by rw [← hW0]; exact (Below.refl _ _).alloc (Nat.le_refl _) _
    refine ⟨rfl, rfl, ?_⟩
    have hh : Below (w.heap.size + 1) W0 _ := (by assumption : _ ∧ _ ∧ _ ∧ _).2.2.2
    exact hbw.trans (hh.mono (by omega))
  case rest =>
    obtain ⟨rfl, rfl, HB⟩ := hcut
    go_wp2
    go_loopw [18] (fun vi wr => ∃ k n : Nat, k ≤ wd ∧ vi = .int .i64 k ∧ wr = wc.drewN n ∧ Hid (∀ j, j < k → bits .andNot .u64 (bt (r + j) : Int) (bt (p + j) : Int) = 0)) (fun vi _ => wd - (intOf vi).toNat)
    case atStart => exact ⟨0, 0, Nat.zero_le _, rfl, rfl, fun j hj => by omega⟩
    case round =>
      obtain ⟨k, n, hk, rfl, rfl, HK⟩ := hrel
      by_cases hlt : k < wd
      · have hx := (HF.out.keep (Nat.le_refl _) HB.out).bit (p + k) (by omega)
        have hy := (HF.out.keep (Nat.le_refl _) HB.out).bit (r + k) (by omega)
        obtain ⟨Z, hZ⟩ : ∃ Z, Z = bits .andNot .u64 (bt (r + k) : Int) (bt (p + k) : Int) := ⟨_, rfl⟩
        have HZ : Hid (Z = bits .andNot .u64 (bt (r + k) : Int) (bt (p + k) : Int)) := hZ
        cases hz : (Z == 0) with
        | true =>
          have hz2 : (bits .andNot .u64 (bt (r + k) : Int) (bt (p + k) : Int) != 0) = false := by rw [← hZ]; simpa using hz
          clear hZ hz
          go_wp2
          go_quiet (fail)
          go_wp2
          go_roundw
          case rel =>
            refine ⟨k + 1, _, by omega, by go_num, rfl, fun j hj => ?_⟩
            by_cases e : j = k
            · subst e; simpa using hz2
            · exact HK.out j (by omega)
          case measure => simp [intOf]; omega
        | false =>
          have hz2 : (bits .andNot .u64 (bt (r + k) : Int) (bt (p + k) : Int) != 0) = true := by rw [← hZ]; simpa using hz
          have HN : Hid (holdsB bt wd a b = false) := by
            show _ = _
            rw [HH.out, List.all_eq_false]
            exact ⟨k, by simp [hlt], by rw [← hZ, hz]; simp⟩
          clear hZ hz
          go_wp2
          go_quiet (fail)
          go_wp2
          go_ret
          exact ⟨by rw [HN.out]; rfl, (HB.out.drewN' _).drewN' _⟩
      · have HN : Hid (holdsB bt wd a b = true) := by
          show _ = _
          rw [HH.out, List.all_eq_true]
          intro j hj
          rw [HK.out j (by have : j < wd := by simpa using hj
                           omega)]
          rfl
        go_wp2
        go_ret
        exact ⟨by rw [HN.out]; rfl, HB.out.drewN' _⟩

/-! ### compare -/
def cmpI (x y : Nat) : Int := if x < y then -1 else if y < x then 1 else 0
def cmpWF (bt : Nat → Nat) (p r : Nat) : Nat → Nat → Int
  | 0, _ => 0
  | k + 1, j => if bt (p + j) = bt (r + j) then cmpWF bt p r k (j + 1) else cmpI (bt (p + j)) (bt (r + j))
def compareF (bt sz : Nat → Nat) (wd a b : Nat) : Int := if sz a = sz b then cmpWF bt (a * wd) (b * wd) wd 0 else cmpI (sz a) (sz b)

theorem isNaNInt_any (x : Int) (w : World) : Calls Tryd.prog 79 #[.int .i64 x] w fun e w' => e = .returned (.bool false) ∧ w' = w := by
  go_enter Tryd.func79, Tryd.ntmps79
  go_wp2
  go_ret
  exact ⟨by simp, rfl⟩
theorem isNaNU_any (x : Int) (w : World) : Calls Tryd.prog 80 #[.int .u64 x] w fun e w' => e = .returned (.bool false) ∧ w' = w := by
  go_enter Tryd.func80, Tryd.ntmps80
  go_wp2
  go_ret
  exact ⟨by simp, rfl⟩
theorem cmpInt_any (x y : Nat) (w : World) : Calls Tryd.prog 69 #[.int .i64 (x : Int), .int .i64 (y : Int)] w fun e w' => e = .returned (.int .i64 (cmpI x y)) ∧ w' = w := by
  have HC : Hid (cmpI x y = if x < y then -1 else if y < x then 1 else 0) := rfl
  by_cases h1 : x < y
  · go_enter Tryd.func69, Tryd.ntmps69
    go_wp2_with (go_at_call 79; refine (isNaNInt_any _ _).mono ?_; rintro e w' ⟨rfl, rfl⟩)
    go_ret
    exact ⟨by rw [HC.out, if_pos h1]; rfl, rfl⟩
  · by_cases h2 : y < x
    · go_enter Tryd.func69, Tryd.ntmps69
      go_wp2_with (go_at_call 79; refine (isNaNInt_any _ _).mono ?_; rintro e w' ⟨rfl, rfl⟩)
      go_ret
      exact ⟨by rw [HC.out, if_neg h1, if_pos h2]; rfl, rfl⟩
    · go_enter Tryd.func69, Tryd.ntmps69
      go_wp2_with (go_at_call 79; refine (isNaNInt_any _ _).mono ?_; rintro e w' ⟨rfl, rfl⟩)
      go_ret
      exact ⟨by rw [HC.out, if_neg h1, if_neg h2]; rfl, rfl⟩
theorem cmpU_any (x y : Nat) (w : World) : Calls Tryd.prog 70 #[.int .u64 (x : Int), .int .u64 (y : Int)] w fun e w' => e = .returned (.int .i64 (cmpI x y)) ∧ w' = w := by
  have HC : Hid (cmpI x y = if x < y then -1 else if y < x then 1 else 0) := rfl
  by_cases h1 : x < y
  · go_enter Tryd.func70, Tryd.ntmps70
    go_wp2_with (go_at_call 80; refine (isNaNU_any _ _).mono ?_; rintro e w' ⟨rfl, rfl⟩)
    go_ret
    exact ⟨by rw [HC.out, if_pos h1]; rfl, rfl⟩
  · by_cases h2 : y < x
    · go_enter Tryd.func70, Tryd.ntmps70
      go_wp2_with (go_at_call 80; refine (isNaNU_any _ _).mono ?_; rintro e w' ⟨rfl, rfl⟩)
      go_ret
      exact ⟨by rw [HC.out, if_neg h1, if_pos h2]; rfl, rfl⟩
    · go_enter Tryd.func70, Tryd.ntmps70
      go_wp2_with (go_at_call 80; refine (isNaNU_any _ _).mono ?_; rintro e w' ⟨rfl, rfl⟩)
      go_ret
      exact ⟨by rw [HC.out, if_neg h1, if_neg h2]; rfl, rfl⟩

set_option maxHeartbeats 4000000 in
theorem compare_any (bb sb m wd M a b : Nat) (bt sz : Nat → Nat) (hM : M = m * wd) (ha : a < m) (hb : b < m) (hm : m ≤ 256) (hw0 : 0 < wd) (hw : wd ≤ 5) (w : World) (hF : FamAt w bb sb m M bt sz) :
    Calls Tryd.prog 38 #[.agg (fam bb sb m wd M), .int .i64 (a : Int), .int .i64 (b : Int)] w fun e w' => e = .returned (.int .i64 (compareF bt sz wd a b)) ∧ Below w.heap.size w w' := by
  obtain ⟨p, hp⟩ : ∃ p, p = a * wd := ⟨_, rfl⟩
  obtain ⟨r, hr⟩ : ∃ r, r = b * wd := ⟨_, rfl⟩
  have h1 : p + wd ≤ M := by rw [hp, hM, ← Nat.succ_mul]; exact Nat.mul_le_mul_right _ ha
  have h2 : r + wd ≤ M := by rw [hr, hM, ← Nat.succ_mul]; exact Nat.mul_le_mul_right _ hb
  have CA := fun w => set_any bb sb m wd M a p hM hp ha hm hw0 hw w
  have CB := fun w => set_any bb sb m wd M b r hM hr hb hm hw0 hw w
  have CA' : Hid _ := CA
  have CB' : Hid _ := CB
  have HF : Hid (FamAt w bb sb m M bt sz) := hF
  have hF0 := hF.keep (Nat.le_refl _) ((Below.refl _ w).alloc (Nat.le_refl _) (.cells (fam bb sb m wd M) 39))
  have hsa := hF0.siz a ha
  have hsb := hF0.siz b hb
  have HH : Hid (compareF bt sz wd a b = if sz a = sz b then cmpWF bt p r wd 0 else cmpI (sz a) (sz b)) := by rw [hp, hr]; rfl
  clear CA CB hF hp hr hM hF0
  simp only [fam] at *
  by_cases hs : sz a = sz b
  · have HS : Hid (compareF bt sz wd a b = cmpWF bt p r wd 0) := by show _ = _; rw [HH.out, if_pos hs]
    have hs1 : ((sz a : Int) != (sz b : Int)) = false := by simp [hs]
    clear hs
    go_enter Tryd.func38, Tryd.ntmps38
    go_wp2
    go_quiet (fail)
    have hB1 := ((Below.refl w.heap.size w).alloc (Nat.le_refl _) (.cells #[.int .i64 (wd : Int), .slice (some ⟨bb, 0, none⟩) M M, .slice (some ⟨sb, 0, none⟩) m m] 39)).drewN' nq
    have hS0 : ((w.alloc (.cells #[.int .i64 (wd : Int), .slice (some ⟨bb, 0, none⟩) M M, .slice (some ⟨sb, 0, none⟩) m m] 39)).drewN nq).cell? ⟨w.heap.size, 0, none⟩ = some (.int .i64 (wd : Int)) ∧ ((w.alloc (.cells #[.int .i64 (wd : Int), .slice (some ⟨bb, 0, none⟩) M M, .slice (some ⟨sb, 0, none⟩) m m] 39)).drewN nq).cell? ⟨w.heap.size, 1, none⟩ = some (.slice (some ⟨bb, 0, none⟩) M M) ∧
        ((w.alloc (.cells #[.int .i64 (wd : Int), .slice (some ⟨bb, 0, none⟩) M M, .slice (some ⟨sb, 0, none⟩) m m] 39)).drewN nq).cell? ⟨w.heap.size, 2, none⟩ = some (.slice (some ⟨sb, 0, none⟩) m m) := ⟨by simp, by simp, by simp⟩
    have hzz : w.heap.size + 1 ≤ ((w.alloc (.cells #[.int .i64 (wd : Int), .slice (some ⟨bb, 0, none⟩) M M, .slice (some ⟨sb, 0, none⟩) m m] 39)).drewN nq).heap.size := by simp [World.drewN]
    clear hsa hsb
    go_wp2
    generalize (w.alloc (.cells #[.int .i64 (wd : Int), .slice (some ⟨bb, 0, none⟩) M M, .slice (some ⟨sb, 0, none⟩) m m] 39)).drewN nq = W1 at *
    have HB1 : Hid (Below w.heap.size w W1) := hB1
    clear hB1
    go_cut [7, 8] (fun v7 v8 wx => v7 = .slice (some ⟨bb, p, none⟩) wd (M - p) ∧ v8 = .slice (some ⟨bb, r, none⟩) wd (M - r) ∧ Hid (Below w.heap.size w wx))
    case first =>
      go_region_held2 (fun w' => w'.cell? ⟨w.heap.size, 0, none⟩ = some (.int .i64 (wd : Int)) ∧ w'.cell? ⟨w.heap.size, 1, none⟩ = some (.slice (some ⟨bb, 0, none⟩) M M) ∧ w'.cell? ⟨w.heap.size, 2, none⟩ = some (.slice (some ⟨sb, 0, none⟩) m m) ∧ Below (w.heap.size + 1) W1 w')
        (first | exact ⟨hS0.1, hS0.2.1, hS0.2.2, (Below.refl _ _).drew⟩ | exact keep3 (by omega) (by assumption) hzz (by assumption))
        (first
          | (go_at_call_of 61 a; refine (CA'.out _).mono ?_; rintro e w' ⟨rfl, hbx⟩)
          | (go_at_call_of 61 b; refine (CB'.out _).mono ?_; rintro e w' ⟨rfl, hby⟩))
      go_wp2_with fail
      go_meet
      refine ⟨rfl, rfl, ?_⟩
      have hh : Below (w.heap.size + 1) W1 _ := (by assumption : _ ∧ _ ∧ _ ∧ Below (w.heap.size + 1) W1 _).2.2.2
      exact HB1.out.trans (hh.mono (by omega))
    case rest =>
      obtain ⟨rfl, rfl, HB⟩ := hcut
      go_wp2
      go_loopw [40] (fun vi wr => ∃ k n : Nat, k ≤ wd ∧ vi = .int .i64 k ∧ wr = wc.drewN n ∧ Hid (cmpWF bt p r wd 0 = cmpWF bt p r (wd - k) k)) (fun vi _ => wd - (intOf vi).toNat)
      case atStart => exact ⟨0, 0, Nat.zero_le _, rfl, rfl, rfl⟩
      case round =>
        obtain ⟨k, n, hk, rfl, rfl, HK⟩ := hrel
        by_cases hlt : k < wd
        · have hx := (HF.out.keep (Nat.le_refl _) HB.out).bit (p + k) (by omega)
          have hy := (HF.out.keep (Nat.le_refl _) HB.out).bit (r + k) (by omega)
          have HW : Hid (cmpWF bt p r wd 0 = if bt (p + k) = bt (r + k) then cmpWF bt p r (wd - (k + 1)) (k + 1) else cmpI (bt (p + k)) (bt (r + k))) := by
            show _ = _
            rw [HK.out, show wd - k = (wd - (k + 1)) + 1 from by omega]
            rfl
          by_cases he : bt (p + k) = bt (r + k)
          · have hne : ((bt (p + k) : Int) != (bt (r + k) : Int)) = false := by simp [he]
            have HW2 : Hid (cmpWF bt p r wd 0 = cmpWF bt p r (wd - (k + 1)) (k + 1)) := by show _ = _; rw [HW.out, if_pos he]
            clear he
            go_wp2
            go_quiet (fail)
            go_wp2
            go_roundw
            case rel => exact ⟨k + 1, _, by omega, by go_num, rfl, HW2⟩
            case measure => simp [intOf]; omega
          · have hne : ((bt (p + k) : Int) != (bt (r + k) : Int)) = true := by simp; omega
            have HW2 : Hid (cmpWF bt p r wd 0 = cmpI (bt (p + k)) (bt (r + k))) := by show _ = _; rw [HW.out, if_neg he]
            clear he
            go_wp2
            go_quiet (fail)
            go_wp2
            have hx2 : ((wc.drewN n).drewN nq).cell? ⟨bb, p + k, none⟩ = some (.int .u64 (bt (p + k) : Int)) := hx
            have hy2 : ((wc.drewN n).drewN nq).cell? ⟨bb, r + k, none⟩ = some (.int .u64 (bt (r + k) : Int)) := hy
            have hb2 := (HB.out.drewN' n).drewN' nq
            generalize (wc.drewN n).drewN nq = W9 at *
            have HB9 : Hid (Below w.heap.size w W9) := hb2
            clear hb2 hx hy
            go_quiet ((go_at_call 70; exact Calls.quiet_of_same (cmpU_any _ _ _)))
            go_wp2
            go_ret
            exact ⟨by rw [HS.out, HW2.out]; rfl, HB9.out.drewN' _⟩
        · have HZ : Hid (cmpWF bt p r wd 0 = 0) := by
            show _ = _
            rw [HK.out, show wd - k = 0 from by omega]; rfl
          go_wp2
          go_ret
          exact ⟨by rw [HS.out, HZ.out]; rfl, HB.out.drewN' _⟩
  · have HS : Hid (compareF bt sz wd a b = cmpI (sz a) (sz b)) := by show _ = _; rw [HH.out, if_neg hs]
    have hs1 : ((sz a : Int) != (sz b : Int)) = true := by simp; omega
    clear hs
    go_enter Tryd.func38, Tryd.ntmps38
    go_wp2
    go_quiet (fail)
    go_wp2
    have hB1 := ((Below.refl w.heap.size w).alloc (Nat.le_refl _) (.cells #[.int .i64 (wd : Int), .slice (some ⟨bb, 0, none⟩) M M, .slice (some ⟨sb, 0, none⟩) m m] 39)).drewN' nq
    have hbox : ((w.alloc (.cells #[.int .i64 (wd : Int), .slice (some ⟨bb, 0, none⟩) M M, .slice (some ⟨sb, 0, none⟩) m m] 39)).drewN nq).cell? ⟨w.heap.size, 2, none⟩ = some (.slice (some ⟨sb, 0, none⟩) m m) := by simp
    have hsa2 : ((w.alloc (.cells #[.int .i64 (wd : Int), .slice (some ⟨bb, 0, none⟩) M M, .slice (some ⟨sb, 0, none⟩) m m] 39)).drewN nq).cell? ⟨sb, a, none⟩ = some (.int .i64 (sz a : Int)) := hsa
    have hsb2 : ((w.alloc (.cells #[.int .i64 (wd : Int), .slice (some ⟨bb, 0, none⟩) M M, .slice (some ⟨sb, 0, none⟩) m m] 39)).drewN nq).cell? ⟨sb, b, none⟩ = some (.int .i64 (sz b : Int)) := hsb
    generalize (w.alloc (.cells #[.int .i64 (wd : Int), .slice (some ⟨bb, 0, none⟩) M M, .slice (some ⟨sb, 0, none⟩) m m] 39)).drewN nq = W1 at *
    have HB1 : Hid (Below w.heap.size w W1) := hB1
    clear hB1 hsa hsb
    go_quiet ((go_at_call 69; exact Calls.quiet_of_same (cmpInt_any _ _ _)))
    go_wp2
    go_ret
    exact ⟨by rw [HS.out]; rfl, HB1.out.drewN' _⟩
end Go.Proofs.Qxb6613821aDoor
