/- 'atMost' of doubled distances: plain. -/
import Derived.Test.Qxb6613821aDoorRung
import Derived.Test.Qxb6613821aDoorTwice
namespace Go.Proofs.Qxb6613821aDoor
set_option linter.unusedVariables false
set_option linter.unusedSimpArgs false
open Ieee

/-! ### Words below infinity as rungs -/
theorem twAm_one : TwAm (q one) := by
  intro a b a2 b2 ha hb
  unfold am
  rw [fle_q ha.ny hb.ny, fle_q ha.nx hb.nx, ha.two, hb.two]
  by_cases h : q a ≤ q b
  · rw [decide_eq_true h, decide_eq_true (show 2 * q a ≤ 2 * q b by omega)]; rfl
  · have hlt : q b < q a := by omega
    rw [decide_eq_false h, decide_eq_false (show ¬ 2 * q a ≤ 2 * q b by omega), Bool.false_or, Bool.false_or]
    have h1 : q one ≤ q a := by have := ha.unit; omega
    have ho : 0 < q one := by rw [q_one]; exact Nat.two_pow_pos _
    -- the greatest of the three
    have nM : nf (fmax (fmax one (absB a)) (absB b)) = true := nf_fmax (nf_fmax nf_one (nf_abs ha.nx)) (nf_abs hb.nx)
    have nM2 : nf (fmax (fmax one (absB a2)) (absB b2)) = true := nf_fmax (nf_fmax nf_one (nf_abs ha.ny)) (nf_abs hb.ny)
    have qM : q (fmax (fmax one (absB a)) (absB b)) = q a := by
      rw [q_fmax (nf_fmax nf_one (nf_abs ha.nx)) (nf_abs hb.nx), q_fmax nf_one (nf_abs ha.nx), q_abs ha.nx, q_abs hb.nx]; omega
    have qM2 : q (fmax (fmax one (absB a2)) (absB b2)) = 2 * q a := by
      rw [q_fmax (nf_fmax nf_one (nf_abs ha.ny)) (nf_abs hb.ny), q_fmax nf_one (nf_abs ha.ny), q_abs ha.ny, q_abs hb.ny, ha.two, hb.two]; omega
    rw [fsub_near ha.nx hb.nx hlt, fsub_near ha.ny hb.ny (by rw [ha.two, hb.two]; omega), fmul_near nM (by omega), fmul_near nM2 (by omega), qM, qM2, ha.two, hb.two]
    rw [show 2 * q a - 2 * q b = 2 * (q a - q b) from by omega, show 4835703278458517 * (2 * q a) = 2 * (4835703278458517 * q a) from by omega]
    -- the difference is at least 2^1022
    have hd : 2 ^ e1022 ≤ q a - q b := by
      obtain ⟨k, hk⟩ := q_unit ha.nx (by rw [← q_one]; exact h1)
      obtain ⟨l, hl⟩ : ∃ l, q b = l * 2 ^ e1022 := by
        rcases hb.unit with hz | hz
        · exact ⟨0, by rw [hz, Nat.zero_mul]⟩
        · exact q_unit hb.nx (by rw [← q_one]; exact hz)
      rw [hk, hl] at hlt ⊢
      have := Nat.lt_of_mul_lt_mul_right hlt
      rw [← Nat.sub_mul]
      exact Nat.le_mul_of_pos_left _ (by omega)
    have h74 := e1074_eq
    have h22 := e1022_eq
    have h98 := e2098_eq
    have hd52 : 2 ^ 52 ≤ q a - q b := Nat.le_trans (Nat.pow_le_pow_right (by omega) (by omega)) hd
    have hdl : e1022 ≤ (q a - q b).log2 := (Nat.le_log2 (by have := Nat.two_pow_pos e1022; omega)).2 hd
    have hp : 2 ^ e1074 ≤ 4835703278458517 * q a := by
      have : 2 ^ e1074 ≤ q a := by rw [← q_one]; exact h1
      omega
    have hp52 : 2 ^ 52 ≤ 4835703278458517 * q a := Nat.le_trans (Nat.pow_le_pow_right (by omega) (by omega)) hp
    have hpl : e1074 ≤ (4835703278458517 * q a).log2 := (Nat.le_log2 (by have := Nat.two_pow_pos e1074; omega)).2 hp
    have hpu : (4835703278458517 * q a).log2 < 2151 := by
      rw [Nat.log2_lt (by have := Nat.two_pow_pos e1074; omega)]
      have := q_lt ha.nx
      calc 4835703278458517 * q a < 4835703278458517 * 2 ^ e2098 := Nat.mul_lt_mul_of_pos_left this (by omega)
        _ ≤ 2 ^ 53 * 2 ^ e2098 := Nat.mul_le_mul_right _ (by decide)
        _ = 2 ^ 2151 := by rw [← Nat.pow_add]; congr 1; omega
    obtain ⟨r1, e1, f1, _⟩ := near_rung (q a - q b) (-1074) hd52 (by omega)
    obtain ⟨r2, e2, f2, g2⟩ := near_rung (4835703278458517 * q a) (-1156) hp52 (by omega)
    rw [e1, e2, f1, f2]
    have hr2 : r2 + B < 2047 * B := by
      have : ((-1156 + ((4835703278458517 * q a).log2 : Int) - 52 + 1074).toNat + 2) ≤ 2019 := by omega
      have := Nat.le_trans g2 (Nat.mul_le_mul_right B this)
      have := B_pos
      omega
    rw [Nat.min_eq_left (show r2 ≤ 2047 * B by omega), Nat.min_eq_left (show r2 + B ≤ 2047 * B by omega)]
    rw [fle_rung (Nat.min_le_right _ _) (by omega), fle_rung (Nat.min_le_right _ _) (by omega)]
    rw [Bool.eq_iff_iff, decide_eq_true_eq, decide_eq_true_eq]
    exact min_step r1 r2 _ _ hr2
end Go.Proofs.Qxb6613821aDoor
