/- Rounding looks at the value alone, and doubles with it: plain. -/
import Derived.Test.Qxb6613821aDoorFloat
namespace Go.Proofs.Qxb6613821aDoor
set_option linter.unusedVariables false
set_option linter.unusedSimpArgs false
open Ieee

theorem cut_shift (neg : Bool) (n k drop : Nat) (hn : 0 < n) : Toward.even.cut neg (n * 2 ^ k) (drop + k) = Toward.even.cut neg n drop := by
  have hlog : (n * 2 ^ k).log2 = n.log2 + k := by
    have h1 : n * 2 ^ k ≠ 0 := Nat.ne_of_gt (Nat.mul_pos hn (Nat.two_pow_pos k))
    rw [Nat.log2_eq_iff h1]
    have h2 := Nat.log2_self_le (Nat.ne_of_gt hn)
    have h3 := Nat.lt_log2_self (n := n)
    rw [Nat.pow_add]
    refine ⟨Nat.mul_le_mul_right _ h2, ?_⟩
    rw [show n.log2 + k + 1 = (n.log2 + 1) + k from by omega, Nat.pow_add]
    exact Nat.mul_lt_mul_of_pos_right h3 (Nat.two_pow_pos k)
  unfold Toward.cut
  simp only [Nat.one_shiftLeft]
  rw [hlog, show min (drop + k) (n.log2 + k + 2) = min drop (n.log2 + 2) + k from by omega, Nat.pow_add]
  generalize 2 ^ min drop (n.log2 + 2) = g
  have hk := Nat.two_pow_pos k
  have e1 : n * 2 ^ k / (g * 2 ^ k) = n / g := Nat.mul_div_mul_right _ _ hk
  have e2 : n * 2 ^ k % (g * 2 ^ k) = n % g * 2 ^ k := Nat.mul_mod_mul_right _ _ _
  rw [e1, e2]
  congr 2
  have a1 : (decide (g * 2 ^ k < 2 * (n % g * 2 ^ k))) = decide (g < 2 * (n % g)) := by
    congr 1
    refine propext ⟨fun h => ?_, fun h => ?_⟩
    · rw [← Nat.mul_assoc] at h; exact Nat.lt_of_mul_lt_mul_right h
    · rw [← Nat.mul_assoc]; exact Nat.mul_lt_mul_of_pos_right h hk
  have a2 : (g * 2 ^ k == 2 * (n % g * 2 ^ k)) = (g == 2 * (n % g)) := by
    rw [Bool.eq_iff_iff, beq_iff_eq, beq_iff_eq, ← Nat.mul_assoc]
    exact ⟨fun h => Nat.eq_of_mul_eq_mul_right hk h, fun h => congrArg (fun x => x * 2 ^ k) h⟩
  rw [a1, a2]
theorem log2_shift (n k : Nat) (hn : 0 < n) : (n * 2 ^ k).log2 = n.log2 + k := by
  have h1 : n * 2 ^ k ≠ 0 := Nat.ne_of_gt (Nat.mul_pos hn (Nat.two_pow_pos k))
  rw [Nat.log2_eq_iff h1]
  have h2 := Nat.log2_self_le (Nat.ne_of_gt hn)
  have h3 := Nat.lt_log2_self (n := n)
  rw [Nat.pow_add]
  refine ⟨Nat.mul_le_mul_right _ h2, ?_⟩
  rw [show n.log2 + k + 1 = (n.log2 + 1) + k from by omega, Nat.pow_add]
  exact Nat.mul_lt_mul_of_pos_right h3 (Nat.two_pow_pos k)

/-- The digits that are kept depend on the value alone. -/
theorem kept_shift (neg : Bool) (n k : Nat) (place last : Int) (hn : 0 < n) :
    Toward.even.cut neg ((n * 2 ^ k) <<< (place - k - last).toNat) (last - (place - k)).toNat = Toward.even.cut neg (n <<< (place - last).toNat) (last - place).toNat := by
  rw [Nat.shiftLeft_eq, Nat.shiftLeft_eq]
  by_cases h1 : last + k ≤ place
  · have e1 : (last - (place - k)).toNat = 0 := by omega
    have e2 : (last - place).toNat = 0 := by omega
    have e3 : (place - last).toNat = (place - k - last).toNat + k := by omega
    rw [e1, e2, e3, Nat.pow_add, Nat.mul_assoc, Nat.mul_comm (2 ^ k)]
  · have e1 : (place - k - last).toNat = 0 := by omega
    rw [e1, Nat.pow_zero, Nat.mul_one]
    by_cases h2 : last ≤ place
    · obtain ⟨s, hs⟩ : ∃ s : Nat, place - last = s := ⟨(place - last).toNat, by omega⟩
      have e2 : (last - place).toNat = 0 := by omega
      have e3 : (place - last).toNat = s := by omega
      have e4 : (last - (place - k)).toNat = 0 + (k - s) := by omega
      have e5 : n * 2 ^ k = n * 2 ^ s * 2 ^ (k - s) := by rw [Nat.mul_assoc, ← Nat.pow_add, show s + (k - s) = k from by omega]
      rw [e2, e3, e4, e5]
      exact cut_shift neg _ _ 0 (Nat.mul_pos hn (Nat.two_pow_pos s))
    · have e2 : (place - last).toNat = 0 := by omega
      have e3 : (last - (place - k)).toNat = (last - place).toNat + k := by omega
      rw [e2, e3, Nat.pow_zero, Nat.mul_one]
      exact cut_shift neg n k _ hn
theorem nearest_shift (neg : Bool) (n k : Nat) (place : Int) (hn : 0 < n) : double.nearest neg (n * 2 ^ k) (place - k) = double.nearest neg n place := by
  unfold Format.nearest
  have h1 : n * 2 ^ k ≠ 0 := Nat.ne_of_gt (Nat.mul_pos hn (Nat.two_pow_pos k))
  rw [if_neg h1, if_neg (Nat.ne_of_gt hn), log2_shift n k hn]
  have e : place - (k : Int) + ((n.log2 + k : Nat) : Int) - (double.fractionBits : Int) = place + (n.log2 : Int) - (double.fractionBits : Int) := by omega
  simp only [e]
  rw [kept_shift neg n k place _ hn]
/-- Twice the value, where the result is normal: one binade up. -/
theorem nearest_two (neg : Bool) (n : Nat) (place : Int) (hn : 0 < n) (hp : double.leastPlace ≤ place + n.log2 - double.fractionBits) :
    ∃ rung, double.nearest neg n place = double.word neg (min rung double.infRung) ∧ double.nearest neg n (place + 1) = double.word neg (min (rung + double.binade) double.infRung) := by
  refine ⟨(max (place + n.log2 - double.fractionBits) double.leastPlace - double.leastPlace).toNat * double.binade + Toward.even.cut neg (n <<< (place - max (place + n.log2 - double.fractionBits) double.leastPlace).toNat) (max (place + n.log2 - double.fractionBits) double.leastPlace - place).toNat, ?_, ?_⟩
  rotate_left
  · unfold Format.nearest
    rw [if_neg (Nat.ne_of_gt hn)]
    have e1 : max (place + 1 + (n.log2 : Int) - (double.fractionBits : Int)) double.leastPlace = max (place + (n.log2 : Int) - (double.fractionBits : Int)) double.leastPlace + 1 := by omega
    simp only [e1]
    rw [show place + 1 - (max (place + (n.log2 : Int) - (double.fractionBits : Int)) double.leastPlace + 1) = place - max (place + (n.log2 : Int) - (double.fractionBits : Int)) double.leastPlace from by omega, show max (place + (n.log2 : Int) - (double.fractionBits : Int)) double.leastPlace + 1 - (place + 1) = max (place + (n.log2 : Int) - (double.fractionBits : Int)) double.leastPlace - place from by omega, show (max (place + (n.log2 : Int) - (double.fractionBits : Int)) double.leastPlace + 1 - double.leastPlace).toNat = (max (place + (n.log2 : Int) - (double.fractionBits : Int)) double.leastPlace - double.leastPlace).toNat + 1 from by omega, Nat.add_mul, Nat.one_mul, Nat.add_right_comm]
  · unfold Format.nearest
    rw [if_neg (Nat.ne_of_gt hn)]
end Go.Proofs.Qxb6613821aDoor
