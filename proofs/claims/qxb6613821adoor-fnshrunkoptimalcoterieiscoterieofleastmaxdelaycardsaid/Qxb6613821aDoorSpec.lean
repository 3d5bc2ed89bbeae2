/- What the nearest word is: between the neighbours' midpoints. No Go text here. -/
import Derived.Test.Qxb6613821aDoorRung
namespace Go.Proofs.Qxb6613821aDoor
set_option linter.unusedVariables false
set_option linter.unusedSimpArgs false
open Ieee

/-- The value of a rung. -/
def Q (r : Nat) : Nat := if r < B then r else (B + r % B) * 2 ^ (r / B - 1)
theorem q_Q {r : Nat} (h : r < 2047 * B) : q r = Q r := by
  unfold Q
  by_cases e : r < B
  · rw [if_pos e, q_low e]
  · rw [if_neg e, q_high (by omega) h]
theorem Q_at (E k : Nat) (h1 : k ≤ 2 * B) (h2 : B ≤ k ∨ E = 0) : Q (E * B + k) = k * 2 ^ E := by
  have hB := B_pos
  unfold Q
  by_cases e0 : E = 0 ∧ k < B
  · obtain ⟨rfl, hk⟩ := e0
    rw [if_pos (by omega)]; simp
  · have hk : B ≤ k := by omega
    have hge : ¬ E * B + k < B := by have := Nat.zero_le (E * B); omega
    rw [if_neg hge]
    by_cases e2 : k = 2 * B
    · subst e2
      rw [show E * B + 2 * B = (E + 2) * B from by rw [Nat.add_mul], Nat.mul_mod_left, Nat.mul_div_cancel _ hB, show E + 2 - 1 = E + 1 from by omega, Nat.pow_succ, Nat.add_zero, Nat.mul_comm 2 B, Nat.mul_assoc, Nat.mul_comm 2 (2 ^ E)]
    · obtain ⟨j, rfl⟩ : ∃ j, k = B + j := ⟨k - B, by omega⟩
      have hj : j < B := by omega
      have e3 : E * B + (B + j) = j + (E + 1) * B := by rw [Nat.add_mul]; omega
      rw [e3, Nat.add_mul_mod_self_right, Nat.mod_eq_of_lt hj, Nat.add_mul_div_right _ _ hB, Nat.div_eq_of_lt hj]
      simp
theorem Q_low {r : Nat} (h : r ≤ 2 * B) : Q r = r := by have := Q_at 0 r h (Or.inr rfl); simpa using this
theorem Q_form {r : Nat} (h : B ≤ r) : ∃ E k, r = E * B + k ∧ B ≤ k ∧ k < 2 * B := by
  have hB := B_pos
  have h1 : 1 ≤ r / B := (Nat.le_div_iff_mul_le hB).2 (by omega)
  refine ⟨r / B - 1, B + r % B, ?_, by omega, by have := Nat.mod_lt r hB; omega⟩
  have := Nat.div_add_mod r B
  rw [Nat.sub_mul, Nat.one_mul]
  have h2 : B ≤ r / B * B := Nat.le_mul_of_pos_left _ h1
  rw [Nat.mul_comm] at this
  omega
/-- One rung up. -/
theorem Q_gap (r : Nat) : ∃ g, Q (r + 1) = Q r + g ∧ 0 < g ∧ (B ≤ r → g * B ≤ Q r) := by
  have hB := B_pos
  by_cases h : B ≤ r
  · obtain ⟨E, k, rfl, h1, h2⟩ := Q_form h
    refine ⟨2 ^ E, ?_, Nat.two_pow_pos E, fun _ => ?_⟩
    · rw [Nat.add_assoc, Q_at E (k + 1) (by omega) (Or.inl (by omega)), Q_at E k (by omega) (Or.inl h1), Nat.add_mul, Nat.one_mul]
    · rw [Q_at E k (by omega) (Or.inl h1), Nat.mul_comm]
      exact Nat.mul_le_mul_right _ h1
  · refine ⟨1, ?_, by omega, fun h2 => absurd h2 h⟩
    rw [Q_low (by omega), Q_low (by omega)]
theorem Q_lt {r s : Nat} (h : r < s) : Q r < Q s := by
  obtain ⟨d, rfl⟩ : ∃ d, s = r + 1 + d := ⟨s - (r + 1), by omega⟩
  induction d with
  | zero => obtain ⟨g, e, h0, _⟩ := Q_gap r; rw [Nat.add_zero, e]; omega
  | succ d ih => obtain ⟨g, e, h0, _⟩ := Q_gap (r + 1 + d); rw [← Nat.add_assoc, e]; have := ih (by omega); omega
theorem Q_le {r s : Nat} (h : r ≤ s) : Q r ≤ Q s := by
  by_cases e : r = s
  · subst e; exact Nat.le_refl _
  · exact Nat.le_of_lt (Q_lt (by omega))

/-- The cut to the nearest. -/
theorem cut_spec (v d : Nat) (h : d ≤ v.log2 + 2) : ∃ k, Toward.even.cut false v d = k ∧ 2 * v ≤ 2 * (k * 2 ^ d) + 2 ^ d ∧ 2 * (k * 2 ^ d) ≤ 2 * v + 2 ^ d ∧ v / 2 ^ d ≤ k ∧ k ≤ v / 2 ^ d + 1 := by
  unfold Toward.cut
  simp only [Nat.one_shiftLeft, Nat.min_eq_left h]
  have hg : 0 < 2 ^ d := Nat.two_pow_pos d
  generalize 2 ^ d = g at *
  have e := Nat.div_add_mod v g
  have hm := Nat.mod_lt v hg
  generalize v % g = rest at *
  generalize v / g = low at *
  have e2 : low * g = g * low := Nat.mul_comm _ _
  cases hb : (decide (g < 2 * rest) || g == 2 * rest && low % 2 == 1) with
  | true =>
    have hr : g ≤ 2 * rest := by
      simp only [Bool.or_eq_true, decide_eq_true_eq, Bool.and_eq_true, beq_iff_eq] at hb
      omega
    refine ⟨low + 1, rfl, ?_, ?_, by omega, by omega⟩
    · rw [Nat.add_mul, Nat.one_mul]; omega
    · rw [Nat.add_mul, Nat.one_mul]; omega
  | false =>
    have hr : 2 * rest ≤ g := by
      simp only [Bool.or_eq_false_iff, decide_eq_false_iff_not] at hb
      omega
    refine ⟨low, rfl, ?_, ?_, by omega, by omega⟩
    · omega
    · omega
theorem cut_tiny (v d : Nat) (hv : 0 < v) (h : v.log2 + 2 < d) : Toward.even.cut false v d = 0 ∧ 2 * v ≤ 2 ^ d := by
  have hl : v < 2 ^ (v.log2 + 1) := Nat.lt_log2_self
  have h2 : 2 * v < 2 ^ (v.log2 + 2) := by rw [show v.log2 + 2 = (v.log2 + 1) + 1 from rfl, Nat.pow_succ]; omega
  refine ⟨?_, Nat.le_trans (Nat.le_of_lt h2) (Nat.pow_le_pow_right (by omega) (by omega))⟩
  unfold Toward.cut
  simp only [Nat.one_shiftLeft, Nat.min_eq_right (Nat.le_of_lt h)]
  generalize 2 ^ (v.log2 + 2) = g at *
  rw [Nat.div_eq_of_lt (by omega), Nat.mod_eq_of_lt (by omega)]
  have a1 : decide (g < 2 * v) = false := decide_eq_false (by omega)
  rw [a1]
  simp

/-- THE NEAREST WORD TO v / 2^s units: its rung r, between the midpoints. -/
theorem near_spec (v s : Nat) (hv : 0 < v) : ∃ r, double.nearest false v (-1074 - (s : Int)) = min r (2047 * B) ∧ 2 * v ≤ 2 ^ s * (Q r + Q (r + 1)) ∧ (0 < r → 2 ^ s * (Q (r - 1) + Q r) ≤ 2 * v) := by
  have hB := B_pos
  have hfb : (double.fractionBits : Int) = 52 := rfl
  unfold Format.nearest
  rw [if_neg (Nat.ne_of_gt hv), hfb, lp_eq, binade_eq, inf_eq]
  simp only
  by_cases hc : s + 52 ≤ v.log2
  · obtain ⟨E, hE⟩ : ∃ E, v.log2 = E + s + 52 := ⟨v.log2 - s - 52, by omega⟩
    have m1 : max (-1074 - (s : Int) + (v.log2 : Int) - 52) (-1074) = -1074 + (E : Int) := by omega
    have t1 : (-1074 - (s : Int) - (-1074 + (E : Int))).toNat = 0 := by omega
    have t2 : (-1074 + (E : Int) - (-1074 - (s : Int))).toNat = E + s := by omega
    have t3 : (-1074 + (E : Int) - -1074).toNat = E := by omega
    rw [m1, t1, t2, t3, Nat.shiftLeft_zero]
    obtain ⟨k, hk, k1, k2, k3, k4⟩ := cut_spec v (E + s) (by omega)
    rw [hk]
    have hlo : 2 ^ 52 * 2 ^ (E + s) ≤ v := by
      rw [← Nat.pow_add]
      have := Nat.log2_self_le (Nat.ne_of_gt hv)
      rw [hE] at this
      rwa [show 52 + (E + s) = E + s + 52 from by omega]
    have hhi : v < 2 ^ 53 * 2 ^ (E + s) := by
      rw [← Nat.pow_add]
      have := Nat.lt_log2_self (n := v)
      rw [hE] at this
      rwa [show 53 + (E + s) = E + s + 52 + 1 from by omega]
    have hg : 0 < 2 ^ (E + s) := Nat.two_pow_pos _
    have l1 : 2 ^ 52 ≤ v / 2 ^ (E + s) := (Nat.le_div_iff_mul_le hg).2 hlo
    have l2 : v / 2 ^ (E + s) < 2 ^ 53 := Nat.div_lt_of_lt_mul (by rw [Nat.mul_comm]; exact hhi)
    have hBk : B ≤ k := by rw [B_eq]; omega
    have hBk2 : k ≤ 2 * B := by rw [B_eq]; omega
    have e1 : Q (E * B + k) = k * 2 ^ E := Q_at E k hBk2 (Or.inl hBk)
    have e2 : ∀ x : Nat, 2 ^ s * (x * 2 ^ E) = x * 2 ^ (E + s) := fun x => by rw [Nat.pow_add, Nat.mul_comm (2 ^ s), Nat.mul_assoc]
    refine ⟨E * B + k, word_false _, ?_, fun h0 => ?_⟩
    · have e3 : (k + 1) * 2 ^ E ≤ Q (E * B + k + 1) := by
        by_cases e : k = 2 * B
        · subst e
          obtain ⟨g, hg1, _, _⟩ := Q_gap (E * B + 2 * B)
          have : Q (E * B + 2 * B + 1) = (B + 1) * 2 ^ (E + 1) := by
            rw [show E * B + 2 * B + 1 = (E + 1) * B + (B + 1) from by rw [Nat.add_mul]; omega, Q_at (E + 1) (B + 1) (by omega) (Or.inl (by omega))]
          rw [this, Nat.pow_succ, Nat.mul_comm (2 ^ E) 2, ← Nat.mul_assoc]
          exact Nat.mul_le_mul_right _ (by omega)
        · rw [Nat.add_assoc, Q_at E (k + 1) (by omega) (Or.inl (by omega))]
          exact Nat.le_refl _
      calc 2 * v ≤ 2 * (k * 2 ^ (E + s)) + 2 ^ (E + s) := k1
        _ = k * 2 ^ (E + s) + (k + 1) * 2 ^ (E + s) := by rw [Nat.add_mul, Nat.one_mul]; omega
        _ = 2 ^ s * (k * 2 ^ E) + 2 ^ s * ((k + 1) * 2 ^ E) := by rw [e2, e2]
        _ ≤ 2 ^ s * Q (E * B + k) + 2 ^ s * Q (E * B + k + 1) := by rw [e1]; exact Nat.add_le_add_left (Nat.mul_le_mul_left _ e3) _
        _ = _ := by rw [Nat.mul_add]
    · rw [e1, Nat.mul_add, e2]
      by_cases e : k = B
      · subst e
        have h3 : Q (E * B + B - 1) ≤ B * 2 ^ E := by rw [← e1]; exact Q_le (by omega)
        have h4 : 2 ^ s * Q (E * B + B - 1) ≤ B * 2 ^ (E + s) := by rw [← e2]; exact Nat.mul_le_mul_left _ h3
        have : B * 2 ^ (E + s) ≤ v := by rw [B_eq]; exact hlo
        omega
      · rw [Nat.add_sub_assoc (by omega), Q_at E (k - 1) (by omega) (Or.inl (by omega)), e2]
        have : (k - 1) * 2 ^ (E + s) + 2 ^ (E + s) = k * 2 ^ (E + s) := by
          rw [show k * 2 ^ (E + s) = (k - 1 + 1) * 2 ^ (E + s) from by rw [show k - 1 + 1 = k from by omega], Nat.add_mul, Nat.one_mul]
        omega
  · have m1 : max (-1074 - (s : Int) + (v.log2 : Int) - 52) (-1074) = -1074 := by omega
    have t1 : (-1074 - (s : Int) - -1074).toNat = 0 := by omega
    have t2 : (-1074 - (-1074 - (s : Int))).toNat = s := by omega
    have t3 : ((-1074 : Int) - -1074).toNat = 0 := by omega
    rw [m1, t1, t2, t3, Nat.shiftLeft_zero, Nat.zero_mul, Nat.zero_add]
    by_cases ht : v.log2 + 2 < s
    · obtain ⟨h1, h2⟩ := cut_tiny v s hv ht
      rw [h1]
      refine ⟨0, word_false _, ?_, fun h => absurd h (by omega)⟩
      rw [Q_low (by omega), Q_low (by omega)]
      omega
    · obtain ⟨k, hk, k1, k2, k3, k4⟩ := cut_spec v s (by omega)
      rw [hk]
      have hg : 0 < 2 ^ s := Nat.two_pow_pos _
      have hkB : k ≤ B := by
        have hv2 : v < 2 ^ 52 * 2 ^ s := by
          rw [← Nat.pow_add]
          exact Nat.lt_of_lt_of_le Nat.lt_log2_self (Nat.pow_le_pow_right (by omega) (by omega))
        have : v / 2 ^ s < 2 ^ 52 := Nat.div_lt_of_lt_mul (by rw [Nat.mul_comm]; exact hv2)
        rw [B_eq]; omega
      refine ⟨k, word_false _, ?_, fun h0 => ?_⟩
      · rw [Q_low (by omega), Q_low (by omega), Nat.mul_comm (2 ^ s), Nat.add_mul, Nat.add_mul, Nat.one_mul]
        omega
      · rw [Q_low (by omega), Q_low (by omega), Nat.mul_comm (2 ^ s), Nat.add_mul]
        have : (k - 1) * 2 ^ s + 2 ^ s = k * 2 ^ s := by
          rw [show k * 2 ^ s = (k - 1 + 1) * 2 ^ s from by rw [show k - 1 + 1 = k from by omega], Nat.add_mul, Nat.one_mul]
        omega
/-- A lesser value has no higher rung. -/
theorem near_mono {v s v' s' r r' : Nat} (h : 2 ^ s' * v < 2 ^ s * v') (h2 : 0 < r → 2 ^ s * (Q (r - 1) + Q r) ≤ 2 * v) (h1 : 2 * v' ≤ 2 ^ s' * (Q r' + Q (r' + 1))) : r ≤ r' := by
  by_cases e : r ≤ r'
  · exact e
  · exfalso
    have h3 := h2 (by omega)
    have a1 : Q r' ≤ Q (r - 1) := Q_le (by omega)
    have a2 : Q (r' + 1) ≤ Q r := Q_le (by omega)
    have b1 : 2 ^ s * (2 * v') ≤ 2 ^ s * (2 ^ s' * (Q r' + Q (r' + 1))) := Nat.mul_le_mul_left _ h1
    have b2 : 2 ^ s' * (2 ^ s * (Q r' + Q (r' + 1))) ≤ 2 ^ s' * (2 * v) := Nat.mul_le_mul_left _ (Nat.le_trans (Nat.mul_le_mul_left _ (by omega)) h3)
    have b3 : 2 ^ s * (2 ^ s' * (Q r' + Q (r' + 1))) = 2 ^ s' * (2 ^ s * (Q r' + Q (r' + 1))) := Nat.mul_left_comm _ _ _
    have b4 : 2 ^ s * (2 * v') = 2 * (2 ^ s * v') := Nat.mul_left_comm _ _ _
    have b5 : 2 ^ s' * (2 * v) = 2 * (2 ^ s' * v) := Nat.mul_left_comm _ _ _
    omega
end Go.Proofs.Qxb6613821aDoor
