/- The doubled distance: plain. -/
import Derived.Test.Qxb6613821aDoorDbl
import Derived.Test.Qxb6613821aDoorGen
namespace Go.Proofs.Qxb6613821aDoor
set_option linter.unusedVariables false
set_option linter.unusedSimpArgs false
open Ieee

/-- The float 2. -/
def two : Nat := 4611686018427387904
theorem nf_two : nf two = true := by decide +kernel
theorem two_read : double.read two = .number false B (-51) := by decide +kernel
def dbl (x : Nat) : Nat := fmul two x
theorem mul_two {x : Nat} (h : nf x = true) : double.mul two x = some (dbl x) := mul_some nf_two h
theorem q_2046 : q 9214364837600034816 = q (2046 * B) := by
  rw [show 9214364837600034816 = 2046 * B from by decide +kernel]
theorem nf_2046 : nf 9214364837600034816 = true := by decide +kernel
theorem dbl_zero {x : Nat} (h : nf x = true) (h0 : q x = 0) : nf (dbl x) = true ∧ q (dbl x) = 0 := by
  obtain ⟨s, m, i, hr, hs, hi⟩ := nf_read h
  have hqa : q x = m * 2 ^ (i + 1074).toNat := by unfold q; rw [hr]
  have hm : m = 0 := by
    rw [hqa] at h0
    rcases Nat.mul_eq_zero.1 h0 with h | h
    · exact h
    · exact absurd h (Nat.ne_of_gt (Nat.two_pow_pos _))
  have e : dbl x = double.word s 0 := by
    unfold dbl fmul Format.mul
    rw [hr, two_read, hm]
    simp only [Datum.product, Option.map_some, Option.getD_some]
    show double.nearest (false ^^ s) (B * 0) (-51 + i) = _
    rw [Bool.false_xor, Nat.mul_zero]
    unfold Format.nearest
    rw [if_pos rfl]
  rw [e]
  cases s <;> exact ⟨by decide +kernel, by decide +kernel⟩
theorem dbl_high {x : Nat} (h : B ≤ x) (h' : x < 2046 * B) : dbl x = x + B := by
  unfold dbl fmul Format.mul
  have hx := Nat.mod_lt x B_pos
  have hd : 1 ≤ x / B := (Nat.le_div_iff_mul_le B_pos).2 (by omega)
  have ex := Nat.div_add_mod x B
  rw [read_high h (by omega), two_read]
  simp only [Datum.product, Option.map_some, Option.getD_some]
  show double.nearest (false ^^ false) (B * (B + x % B)) (-51 + (-1074 + ((x / B - 1 : Nat) : Int))) = _
  have hB0 := B_pos
  have e0 : double.nearest (false ^^ false) (B * (B + x % B)) (-51 + (-1074 + ((x / B - 1 : Nat) : Int))) = double.nearest false (B + x % B) (-1073 + ((x / B - 1 : Nat) : Int)) := by
    rw [← nearest_shift false (B + x % B) 52 (-1073 + ((x / B - 1 : Nat) : Int)) (by omega), Nat.mul_comm B, B_eq]
    show double.nearest false _ _ = _
    congr 1
    omega
  rw [e0]
  have hlog : (B + x % B).log2 = 52 := by
    rw [Nat.log2_eq_iff (by omega), ← B_eq, show 2 ^ (52 + 1) = B * 2 from by rw [B_eq]]
    omega
  unfold Format.nearest
  rw [if_neg (by omega), hlog, lp_eq, binade_eq, inf_eq]
  have hfb : (double.fractionBits : Int) = 52 := rfl
  rw [hfb]
  have m1 : max (-1073 + ((x / B - 1 : Nat) : Int) + ((52 : Nat) : Int) - 52) (-1074) = -1073 + ((x / B - 1 : Nat) : Int) := by omega
  simp only [m1]
  rw [show (-1073 + ((x / B - 1 : Nat) : Int) - (-1073 + ((x / B - 1 : Nat) : Int))).toNat = 0 from by omega, Nat.shiftLeft_zero, word_false, show (-1073 + ((x / B - 1 : Nat) : Int) - (-1074)).toNat = x / B from by omega]
  have hc : Toward.even.cut false (B + x % B) 0 = B + x % B := by
    unfold Toward.cut
    simp [Nat.mod_one]
  rw [hc, Nat.mul_comm (x / B)]
  have e : B * (x / B) + (B + x % B) = x + B := by omega
  rw [e, Nat.min_eq_left (by omega)]
theorem q_dbl {x : Nat} (h : B ≤ x) (h' : x < 2046 * B) : q (x + B) = 2 * q x := by
  rw [q_high (by omega) (by omega), q_high h (by omega)]
  have hd : 1 ≤ x / B := (Nat.le_div_iff_mul_le B_pos).2 (by omega)
  have e1 : (x + B) / B = x / B + 1 := Nat.add_div_right x B_pos
  have e2 : (x + B) % B = x % B := Nat.add_mod_right x B
  rw [e1, e2, show x / B + 1 - 1 = (x / B - 1) + 1 from by omega, Nat.pow_succ, ← Nat.mul_assoc, Nat.mul_comm]
theorem tw_dbl {x : Nat} (h : nf x = true) (hu : unitOk x = true) : Tw (q one) x (dbl x) := by
  by_cases h0 : q x = 0
  · obtain ⟨a, b⟩ := dbl_zero h h0
    exact ⟨h, a, by rw [b, h0], Or.inl h0⟩
  · unfold unitOk at hu
    have o0 : FloatKind.f64.format.order x 0 = some (compare (q x) 0) := by
      have := order_q h nf_zero
      rw [q_zero] at this
      exact this
    have o1 : FloatKind.f64.format.order x 4607182418800017408 = some (compare (q x) (q one)) := order_q h nf_one
    have o2 : FloatKind.f64.format.order x 9214364837600034816 = some (compare (q x) (q (2046 * B))) := by
      have := order_q h nf_2046
      rw [q_2046] at this
      exact this
    rw [o0, o1, o2, Nat.compare_eq_gt.2 (show 0 < q x by omega)] at hu
    have h1 : q one ≤ q x := by
      by_cases hh : q x < q one
      · rw [Nat.compare_eq_lt.2 hh] at hu; simp at hu
      · omega
    have h2 : q x < q (2046 * B) := by
      rcases Nat.lt_trichotomy (q x) (q (2046 * B)) with hh | hh | hh
      · exact hh
      · rw [Nat.compare_eq_eq.2 hh] at hu; simp at hu
      · rw [Nat.compare_eq_gt.2 hh] at hu; simp at hu
    have hx := nf_q_pos h (by omega)
    have hB := B_pos
    have hlow : 1023 * B ≤ x := by
      by_cases hh : x < 1023 * B
      · have := q_mono hh (by omega : 1023 * B < 2047 * B)
        rw [← one_rung] at this
        omega
      · omega
    have hhigh : x < 2046 * B := by
      by_cases hh : x < 2046 * B
      · exact hh
      · by_cases he : x = 2046 * B
        · rw [he] at h2; omega
        · have := q_mono (show 2046 * B < x by omega) hx
          omega
    refine ⟨h, ?_, ?_, Or.inr h1⟩
    · rw [dbl_high (by omega) hhigh]; exact nf_rung (by omega)
    · rw [dbl_high (by omega) hhigh]; exact q_dbl (by omega) hhigh
/-- Doubling every distance leaves the quorums as they are. -/
theorem quorums_dbl {D : Nat → Nat → Nat} {n : Nat} (h : NF D n) (hu : ∀ i j, i < n → j < n → unitOk (D i j) = true) : quorums (fun i j => dbl (D i j)) n = quorums D n :=
  quorums_tw twAm_one (fun i j hi hj => tw_dbl (h i j hi hj) (hu i j hi hj))
theorem nf_dbl {D : Nat → Nat → Nat} {n : Nat} (h : NF D n) (hu : ∀ i j, i < n → j < n → unitOk (D i j) = true) : NF (fun i j => dbl (D i j)) n := fun i j hi hj => (tw_dbl (h i j hi hj) (hu i j hi hj)).ny
theorem diag_dbl {x : Nat} (h : nf x = true) (h0 : q x = 0) : q (dbl x) = 0 := (dbl_zero h h0).2
end Go.Proofs.Qxb6613821aDoor
