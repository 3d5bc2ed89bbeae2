/- The tolerance: plain. No Go text here. -/
import Derived.Test.Qxb6613821aDoorAm
namespace Go.Proofs.Qxb6613821aDoor
set_option linter.unusedVariables false
set_option linter.unusedSimpArgs false
open Ieee

def tole : Nat := 4487126258331716666
theorem nf_tole : nf tole = true := by decide +kernel
theorem tole_read : double.read tole = .number false 6044629098073146 (-79) := by decide +kernel
theorem tole_rung : tole < 2047 * B := by decide +kernel
theorem q_tole : q tole * 604462909807314587353088 = 6044629098073146 * q one := by decide +kernel
theorem ftol_near {x : Nat} (hx : nf x = true) (h : 0 < q x) : fmul tole x = double.nearest false (6044629098073146 * q x) (-1153) := by
  obtain ⟨s, m, i, hr, hs, hi⟩ := nf_read hx
  have hqa : q x = m * 2 ^ (i + 1074).toNat := by unfold q; rw [hr]
  have hm : m ≠ 0 := fun hh => by rw [hqa, hh] at h; simp at h
  have hsf : s = false := by
    cases s with
    | false => rfl
    | true => exact absurd (hs rfl) hm
  subst hsf
  unfold fmul Format.mul
  rw [hr, tole_read]
  simp only [Datum.product, Option.map_some, Option.getD_some]
  show double.nearest (false ^^ false) (6044629098073146 * m) (-79 + i) = _
  rw [Bool.xor_false, ← nearest_shift false (6044629098073146 * m) (i + 1074).toNat (-79 + i) (by omega), Nat.mul_assoc, ← hqa]
  congr 1
  omega
theorem half_core {qD qr : Nat} (h : qr < qD) (hb : 4835703278458516698824704 * 4503599627370496 * (qD - qr) ≤ 4835703278458517 * 4503599627370498 * qD) : qD ≤ 2 * qr := by omega
theorem lit_a : (4835703278458516698824704 * 4503599627370496 : Nat) = 36028797018963968 * 604462909807314587353088 := by decide
theorem tol_core {P X M o k : Nat} (hP : P = 604462909807314587353088 * X) (hb : 4835703278458516698824704 * 4503599627370496 * X ≤ 4835703278458517 * 4503599627370498 * M) (hM : M ≤ 2 * o) (hk : k = 6044629098073146 * o) (hkP : k ≤ P) (ho : 0 < o) : False := by
  rw [lit_a, Nat.mul_assoc, ← hP] at hb
  have h1 : 4835703278458517 * 4503599627370498 * M ≤ 4835703278458517 * 4503599627370498 * (2 * o) := Nat.mul_le_mul_left _ hM
  have h2 : 36028797018963968 * k ≤ 36028797018963968 * P := Nat.mul_le_mul_left _ hkP
  have h3 := Nat.le_trans h2 (Nat.le_trans hb h1)
  rw [hk] at h3
  clear hb h1 h2 hk hkP hP
  omega
theorem tol_low_core {t o X' X M : Nat} (hX : X' ≤ X) (ht : t ≤ X') (hq : t * 604462909807314587353088 = 6044629098073146 * o) (hb : 4835703278458516698824704 * 4503599627370496 * X ≤ 4835703278458517 * 4503599627370498 * M) (hM : M ≤ 2 * o) (ho : 0 < o) : False :=
  tol_core rfl hb hM rfl (by rw [← hq, Nat.mul_comm t]; exact Nat.mul_le_mul_left _ (Nat.le_trans ht hX)) ho
theorem tol_high_core {qe X' X M z : Nat} (hX : X' ≤ X) (ht : 2 * (6044629098073146 * qe) ≤ 604462909807314587353088 * z) (hz : z ≤ 2 * X') (hb : 4835703278458516698824704 * 4503599627370496 * X ≤ 4835703278458517 * 4503599627370498 * M) (hM : M ≤ 2 * qe) (ho : 0 < qe) : False := by
  refine tol_core rfl hb hM rfl ?_ ho
  have h1 : 604462909807314587353088 * z ≤ 604462909807314587353088 * (2 * X) := Nat.mul_le_mul_left _ (Nat.le_trans hz (Nat.mul_le_mul_left _ hX))
  have h2 := Nat.le_trans ht h1
  rw [Nat.mul_left_comm 604462909807314587353088 2 X] at h2
  exact Nat.le_of_mul_le_mul_left h2 (by decide)
theorem max_half {M o d e r : Nat} (hM : M = max o d) (h1 : r ≤ e) (h2 : e < d) (hb : 4835703278458516698824704 * 4503599627370496 * (d - r) ≤ 4835703278458517 * 4503599627370498 * M) : o < d → d ≤ 2 * e := fun h => by
  have hMd : M = d := by omega
  rw [hMd] at hb
  have := half_core (Nat.lt_of_le_of_lt h1 h2) hb
  omega
theorem tol_ok {D e r : Nat} (hD : nf D = true) (he : nf e = true) (hr : nf r = true) (h1 : q r ≤ q e) (h2 : q e < q D) (ham : am D r = true) : fle (fsub D e) (if flt one e then fmul tole e else tole) = true := by
  have hob := one_big
  have ho : 0 < q one := Nat.lt_of_lt_of_le (Nat.two_pow_pos 200) hob
  obtain ⟨M, hM⟩ : ∃ M, M = max (q one) (q D) := ⟨_, rfl⟩
  have hb := am_bound hD hr (Nat.lt_of_le_of_lt h1 h2) hM ham
  have hlt := flt_q nf_one he
  have qt := q_tole
  rw [q_Q tole_rung] at qt
  rw [fsub_near hD he h2]
  obtain ⟨x, hx, x1, x2⟩ := near_spec (q D - q e) 0 (Nat.sub_pos_of_lt h2)
  rw [show (-1074 : Int) - ((0 : Nat) : Int) = -1074 from rfl] at hx
  rw [Nat.pow_zero, Nat.one_mul] at x2
  rw [hx]
  have hMe := max_half hM h1 h2 hb
  by_cases h3 : q one < q e
  · rw [hlt, decide_eq_true h3, if_pos rfl, ftol_near he (Nat.lt_trans ho h3)]
    obtain ⟨z, hz, z1, z2⟩ := near_spec (6044629098073146 * q e) 79 (Nat.mul_pos (by decide) (Nat.lt_trans ho h3))
    rw [show (-1074 : Int) - ((79 : Nat) : Int) = -1153 from rfl] at hz
    have hzI : z < 2047 * B := rung_small (Nat.mul_le_mul_left _ (Nat.le_of_lt (q_lt he))) (by decide) (by decide) z2
    rw [hz, fle_min hzI, decide_eq_true_eq]
    by_cases hle : x ≤ z
    · exact hle
    · exfalso
      have a3 := x2 (Nat.lt_of_le_of_lt (Nat.zero_le _) (Nat.lt_of_not_le hle))
      have a1 : Q z ≤ Q (x - 1) := Q_le (Nat.le_sub_one_of_lt (Nat.lt_of_not_le hle))
      have a2 : Q (z + 1) ≤ Q x := Q_le (Nat.lt_of_not_le hle)
      have e79 : (2 : Nat) ^ 79 = 604462909807314587353088 := by decide
      rw [e79] at z1
      have a4 : Q z + Q (z + 1) ≤ 2 * (q D - q e) := Nat.le_trans (Nat.add_le_add a1 a2) a3
      have a5 : q D ≤ 2 * q e := hMe (Nat.lt_trans h3 h2)
      exact tol_high_core (X' := q D - q e) (X := q D - q r) (Nat.sub_le_sub_left h1 _) z1 a4 hb (by rw [hM]; exact Nat.max_le.2 ⟨Nat.le_trans (Nat.le_of_lt h3) (Nat.le_mul_of_pos_left _ (by decide)), a5⟩) (Nat.lt_trans ho h3)
  · rw [hlt, decide_eq_false h3]
    rw [if_neg (by decide)]
    have ht : fle (min x (2047 * B)) tole = decide (x ≤ tole) := by
      have := fle_min (x := x) tole_rung
      rwa [Nat.min_eq_left (Nat.le_of_lt tole_rung)] at this
    rw [ht, decide_eq_true_eq]
    by_cases hle : x ≤ tole
    · exact hle
    · exfalso
      have a3 := x2 (Nat.lt_of_le_of_lt (Nat.zero_le _) (Nat.lt_of_not_le hle))
      have a1 : Q tole ≤ Q (x - 1) := Q_le (Nat.le_sub_one_of_lt (Nat.lt_of_not_le hle))
      have a2 : Q tole ≤ Q x := Q_le (Nat.le_of_lt (Nat.lt_of_not_le hle))
      have a4 : Q tole ≤ q D - q e := by
        have := Nat.le_trans (Nat.add_le_add a1 a2) a3
        rw [← Nat.two_mul] at this
        exact Nat.le_of_mul_le_mul_left this (by decide)
      have hM2 : M ≤ 2 * q one := by
        rw [hM]
        refine Nat.max_le.2 ⟨Nat.le_mul_of_pos_left _ (by decide), ?_⟩
        by_cases h4 : q one < q D
        · exact Nat.le_trans (hMe h4) (Nat.mul_le_mul_left _ (Nat.le_of_not_lt h3))
        · exact Nat.le_trans (Nat.le_of_not_lt h4) (Nat.le_mul_of_pos_left _ (by decide))
      exact tol_low_core (X' := q D - q e) (X := q D - q r) (Nat.sub_le_sub_left h1 _) a4 qt hb hM2 ho
end Go.Proofs.Qxb6613821aDoor
