/- 'atMost' of doubled distances: plain. -/
import Derived.Test.Qxb6613821aDoorNear
namespace Go.Proofs.Qxb6613821aDoor
set_option linter.unusedVariables false
set_option linter.unusedSimpArgs false
open Ieee

/-! ### Words below infinity as rungs -/
def B : Nat := 4503599627370496
theorem B_eq : B = 2 ^ 52 := by decide +kernel
theorem binade_eq : double.binade = B := by decide +kernel
theorem inf_eq : double.infRung = 2047 * B := by decide +kernel
theorem sw_eq : double.signWeight = 2048 * B := by decide +kernel
theorem lp_eq : double.leastPlace = -1074 := by decide +kernel
theorem B_pos : 0 < B := by decide +kernel
theorem word_false (r : Nat) : double.word false r = r := by unfold Format.word; simp
/-- The exponents that occur, hidden from reckoning. -/
def hide (n : Nat) : Nat := if h : n = 0 then 0 else hide (n / 2) * 2 + n % 2
theorem hide_eq (n : Nat) : hide n = n := by
  induction n using Nat.strongRecOn with
  | ind n ih =>
    rw [hide]
    split
    · omega
    · rw [ih (n / 2) (by omega)]; omega
def e1074 : Nat := hide 1074
def e1022 : Nat := hide 1022
def e2098 : Nat := hide 2098
def e52 : Nat := hide 52
theorem e1074_eq : e1074 = 1074 := hide_eq 1074
theorem e1022_eq : e1022 = 1022 := hide_eq 1022
theorem e2098_eq : e2098 = 2098 := hide_eq 2098
theorem e52_eq : e52 = 52 := hide_eq 52

theorem read_low {x : Nat} (h : x < B) : double.read x = .number false x (-1074) := by
  unfold Format.read
  rw [sw_eq, binade_eq, lp_eq]
  have h1 : x % (2048 * B) = x := Nat.mod_eq_of_lt (by omega)
  have h2 : x / (2048 * B) = 0 := Nat.div_eq_of_lt (by omega)
  simp only [h1, h2, if_pos h]
  rfl
theorem read_high {x : Nat} (h : B ≤ x) (h' : x < 2047 * B) : double.read x = .number false (B + x % B) (-1074 + ((x / B - 1 : Nat) : Int)) := by
  unfold Format.read
  rw [sw_eq, binade_eq, lp_eq, inf_eq]
  have h1 : x % (2048 * B) = x := Nat.mod_eq_of_lt (by omega)
  have h2 : x / (2048 * B) = 0 := Nat.div_eq_of_lt (by omega)
  simp only [h1, h2, if_neg (show ¬ x < B by omega), if_pos h']
  rfl
theorem read_inf : double.read (2047 * B) = .infinity false := by decide +kernel
theorem nf_rung {x : Nat} (h : x < 2047 * B) : nf x = true := by
  have hB : B = 4503599627370496 := rfl
  unfold nf
  have h1 : x < 2 ^ 64 := by omega
  by_cases hl : x < B
  · rw [read_low hl]; simp [nfD]; exact h1
  · rw [read_high (by omega) h]; simp [nfD]; exact h1
theorem q_low {x : Nat} (h : x < B) : q x = x := by
  unfold q; rw [read_low h]; simp
theorem q_high {x : Nat} (h : B ≤ x) (h' : x < 2047 * B) : q x = (B + x % B) * 2 ^ (x / B - 1) := by
  unfold q; rw [read_high h h']
  simp only
  congr 2
  omega
theorem q_mono {x y : Nat} (h : x < y) (hy : y < 2047 * B) : q x < q y := by
  by_cases hl : y < B
  · rw [q_low hl, q_low (by omega)]; exact h
  · rw [q_high (by omega) hy]
    have hy1 : 1 ≤ y / B := (Nat.le_div_iff_mul_le B_pos).2 (by omega)
    by_cases hx : x < B
    · rw [q_low hx]
      have := Nat.two_pow_pos (y / B - 1)
      calc x < B := hx
        _ ≤ (B + y % B) * 1 := by omega
        _ ≤ _ := Nat.mul_le_mul_left _ this
    · rw [q_high (by omega) (by omega)]
      have hx1 : 1 ≤ x / B := (Nat.le_div_iff_mul_le B_pos).2 (by omega)
      have hle : x / B ≤ y / B := Nat.div_le_div_right (Nat.le_of_lt h)
      have hmx := Nat.mod_lt x B_pos
      have ex := Nat.div_add_mod x B
      have ey := Nat.div_add_mod y B
      by_cases he : x / B = y / B
      · rw [he] at ex ⊢
        exact Nat.mul_lt_mul_of_pos_right (by omega) (Nat.two_pow_pos _)
      · have e2 : 2 ^ (y / B - 1) = 2 ^ (x / B - 1) * 2 * 2 ^ (y / B - 1 - x / B) := by
          rw [Nat.mul_assoc, ← Nat.pow_succ', ← Nat.pow_add]; congr 1; omega
        have h3 := Nat.two_pow_pos (y / B - 1 - x / B)
        have h4 := Nat.two_pow_pos (x / B - 1)
        calc (B + x % B) * 2 ^ (x / B - 1) < (B * 2) * 2 ^ (x / B - 1) := Nat.mul_lt_mul_of_pos_right (by omega) h4
          _ = B * (2 ^ (x / B - 1) * 2) * 1 := by rw [Nat.mul_one, Nat.mul_assoc, Nat.mul_comm 2]
          _ ≤ B * (2 ^ (x / B - 1) * 2) * 2 ^ (y / B - 1 - x / B) := Nat.mul_le_mul_left _ h3
          _ = B * 2 ^ (y / B - 1) := by rw [Nat.mul_assoc, ← e2]
          _ ≤ _ := Nat.mul_le_mul_right _ (by omega)
theorem fle_rung {x y : Nat} (hx : x ≤ 2047 * B) (hy : y < 2047 * B) : fle x y = decide (x ≤ y) := by
  by_cases h : x = 2047 * B
  · subst h
    have : ¬ 2047 * B ≤ y := by omega
    rw [decide_eq_false this]
    unfold fle Format.order
    rw [read_inf]
    obtain ⟨s, m, e, hr, _, _⟩ := nf_read (nf_rung hy)
    rw [hr]
    simp [Datum.order]
  · have hx' : x < 2047 * B := by omega
    rw [fle_q (nf_rung hx') (nf_rung hy)]
    congr 1
    refine propext ⟨fun hq => ?_, fun hq => ?_⟩
    · by_cases hh : x ≤ y
      · exact hh
      · have := q_mono (show y < x by omega) hx'; omega
    · by_cases hh : x = y
      · subst hh; exact Nat.le_refl _
      · exact Nat.le_of_lt (q_mono (by omega) hy)

/-! ### The word of a value -/
theorem nf_q_pos {x : Nat} (h : nf x = true) (h0 : 0 < q x) : x < 2047 * B := by
  have hB : B = 4503599627370496 := rfl
  have hlt := nf_lt h
  obtain ⟨s, m, e, hr, hs, he⟩ := nf_read h
  have hq : q x = m * 2 ^ (e + 1074).toNat := by unfold q; rw [hr]
  have hm : m ≠ 0 := fun hh => by rw [hq, hh] at h0; simp at h0
  have hsf : s = false := by
    cases s with
    | false => rfl
    | true => exact absurd (hs rfl) hm
  subst hsf
  unfold Format.read at hr
  rw [sw_eq, binade_eq, lp_eq, inf_eq] at hr
  rw [show 2048 * B = 9223372036854775808 from by decide +kernel] at hr
  have hd : x / 9223372036854775808 % 2 = x / 9223372036854775808 := Nat.mod_eq_of_lt (by omega)
  simp only [hd] at hr
  have hd0 : (x / 9223372036854775808 == 1) = false := by
    split at hr
    · injection hr
    split at hr
    · injection hr
    split at hr <;> cases hr
  have hd1 : x / 9223372036854775808 ≠ 1 := by simpa using hd0
  have hxs : x < 9223372036854775808 := by omega
  rw [Nat.mod_eq_of_lt hxs] at hr
  split at hr
  · omega
  split at hr
  · assumption
  split at hr <;> cases hr
theorem q_one : q one = 2 ^ e1074 := by rw [e1074_eq]; decide +kernel
theorem one_rung : one = 1023 * B := by decide +kernel
/-- A value of at least 1 is a whole multiple of 2 to the minus 52. -/
theorem q_unit {x : Nat} (h : nf x = true) (h1 : 2 ^ e1074 ≤ q x) : ∃ k, q x = k * 2 ^ e1022 := by
  have h0 : 0 < q x := Nat.lt_of_lt_of_le (Nat.two_pow_pos e1074) h1
  have hx := nf_q_pos h h0
  have hge : 1023 * B ≤ x := by
    by_cases hh : x < 1023 * B
    · have := q_mono hh (by omega : 1023 * B < 2047 * B)
      rw [← one_rung, q_one] at this
      omega
    · omega
  have hb : 1023 ≤ x / B := (Nat.le_div_iff_mul_le B_pos).2 hge
  rw [q_high (by omega) hx]
  refine ⟨(B + x % B) * 2 ^ (x / B - 1 - e1022), ?_⟩
  rw [Nat.mul_assoc, ← Nat.pow_add]
  have := e1022_eq
  congr 2; omega
theorem q_lt {x : Nat} (h : nf x = true) : q x < 2 ^ e2098 := by
  have h98 := e2098_eq
  by_cases h0 : q x = 0
  · rw [h0]; exact Nat.two_pow_pos _
  · have hx := nf_q_pos h (by omega)
    by_cases hl : x < B
    · rw [q_low hl]
      calc x < B := hl
        _ = 2 ^ 52 := B_eq
        _ ≤ _ := Nat.pow_le_pow_right (by omega) (by omega)
    · rw [q_high (by omega) hx]
      have hm := Nat.mod_lt x B_pos
      have hd : x / B < 2047 := Nat.div_lt_of_lt_mul (by rw [Nat.mul_comm]; exact hx)
      have hd1 : 1 ≤ x / B := (Nat.le_div_iff_mul_le B_pos).2 (by omega)
      calc (B + x % B) * 2 ^ (x / B - 1) < (B * 2) * 2 ^ (x / B - 1) := Nat.mul_lt_mul_of_pos_right (by omega) (Nat.two_pow_pos _)
        _ = 2 ^ (53 + (x / B - 1)) := by rw [B_eq, ← Nat.pow_succ, Nat.pow_add]
        _ ≤ _ := Nat.pow_le_pow_right (by omega) (by omega)

/-- The difference, rounded. -/
theorem fsub_near {a b : Nat} (ha : nf a = true) (hb : nf b = true) (h : q b < q a) : fsub a b = double.nearest false (q a - q b) (-1074) := by
  obtain ⟨s, m, i, hr, hs, hi⟩ := nf_read ha
  obtain ⟨t, n, j, ht, hst, hj⟩ := nf_read hb
  have hqa : q a = m * 2 ^ (i + 1074).toNat := by unfold q; rw [hr]
  have hqb : q b = n * 2 ^ (j + 1074).toNat := by unfold q; rw [ht]
  have hm : m ≠ 0 := fun hh => by rw [hqa, hh] at h; simp at h
  have hsf : s = false := by
    cases s with
    | false => rfl
    | true => exact absurd (hs rfl) hm
  subst hsf
  unfold fsub Format.sub
  rw [hr, ht]
  simp only [Datum.opposite, Datum.sum, Option.map_some, Option.getD_some]
  have e1 : signed (!t) n (j - min i j).toNat = -((n * 2 ^ (j - min i j).toNat : Nat) : Int) := by
    unfold signed
    cases t with
    | false => simp [Nat.shiftLeft_eq]
    | true => rw [hst rfl]; simp
  rw [e1, signed_pos]
  have ea : m * 2 ^ (i - min i j).toNat * 2 ^ (min i j + 1074).toNat = q a := by
    rw [hqa, Nat.mul_assoc, ← Nat.pow_add]; congr 2; omega
  have eb : n * 2 ^ (j - min i j).toNat * 2 ^ (min i j + 1074).toNat = q b := by
    rw [hqb, Nat.mul_assoc, ← Nat.pow_add]; congr 2; omega
  have hlt : n * 2 ^ (j - min i j).toNat < m * 2 ^ (i - min i j).toNat := by
    rw [← ea, ← eb] at h
    exact Nat.lt_of_mul_lt_mul_right h
  generalize hX : m * 2 ^ (i - min i j).toNat = X at *
  generalize hY : n * 2 ^ (j - min i j).toNat = Y at *
  have e2 : ((X : Int) + -(Y : Int)) = ((X - Y : Nat) : Int) := by omega
  rw [e2]
  have h0 : ((X - Y : Nat) : Int) ≠ 0 := by omega
  have h1 : ¬ ((X - Y : Nat) : Int) < 0 := by omega
  rw [if_neg h0, decide_eq_false h1, Int.natAbs_natCast]
  show double.nearest false (X - Y) (min i j) = _
  rw [← nearest_shift false (X - Y) (min i j + 1074).toNat (min i j) (by omega), Nat.sub_mul, ea, eb]
  congr 1
  omega

theorem eps_read : double.read eps = .number false 4835703278458517 (-82) := by decide +kernel
/-- The product with 1e-9, rounded. -/
theorem fmul_near {x : Nat} (hx : nf x = true) (h : 0 < q x) : fmul eps x = double.nearest false (4835703278458517 * q x) (-1156) := by
  obtain ⟨s, m, i, hr, hs, hi⟩ := nf_read hx
  have hqa : q x = m * 2 ^ (i + 1074).toNat := by unfold q; rw [hr]
  have hm : m ≠ 0 := fun hh => by rw [hqa, hh] at h; simp at h
  have hsf : s = false := by
    cases s with
    | false => rfl
    | true => exact absurd (hs rfl) hm
  subst hsf
  unfold fmul Format.mul
  rw [hr, eps_read]
  simp only [Datum.product, Option.map_some, Option.getD_some]
  show double.nearest (false ^^ false) (4835703278458517 * m) (-82 + i) = _
  rw [Bool.xor_false, ← nearest_shift false (4835703278458517 * m) (i + 1074).toNat (-82 + i) (by omega), Nat.mul_assoc, ← hqa]
  congr 1
  omega
theorem cut_le (v : Nat) (h : 2 ^ 52 ≤ v) : Toward.even.cut false v (v.log2 - 52) ≤ 2 * B := by
  have hv : v ≠ 0 := Nat.ne_of_gt (Nat.lt_of_lt_of_le (Nat.two_pow_pos 52) h)
  have hlog : 52 ≤ v.log2 := (Nat.le_log2 hv).2 h
  unfold Toward.cut
  simp only [Nat.one_shiftLeft]
  rw [show min (v.log2 - 52) (v.log2 + 2) = v.log2 - 52 from by omega]
  have h1 : v / 2 ^ (v.log2 - 52) < 2 * B := by
    apply Nat.div_lt_of_lt_mul
    have := Nat.lt_log2_self (n := v)
    calc v < 2 ^ (v.log2 + 1) := this
      _ = 2 ^ (v.log2 - 52) * 2 ^ 53 := by rw [← Nat.pow_add]; congr 1; omega
      _ = _ := by rw [B_eq]
  have h2 : ∀ b : Bool, b.toNat ≤ 1 := by intro b; cases b <;> decide
  have := h2 (decide (2 ^ (v.log2 - 52) < 2 * (v % 2 ^ (v.log2 - 52))) || (2 ^ (v.log2 - 52) == 2 * (v % 2 ^ (v.log2 - 52)) && v / 2 ^ (v.log2 - 52) % 2 == 1))
  omega
/-- The rung of a value that is not subnormal. -/
theorem near_rung (v : Nat) (place : Int) (h : 2 ^ 52 ≤ v) (hp : -1074 ≤ place + v.log2 - 52) : ∃ r, double.nearest false v place = min r (2047 * B) ∧ double.nearest false (2 * v) place = min (r + B) (2047 * B) ∧ r ≤ ((place + v.log2 - 52 + 1074).toNat + 2) * B := by
  have hv : 0 < v := Nat.lt_of_lt_of_le (Nat.two_pow_pos 52) h
  have hlog : 52 ≤ v.log2 := (Nat.le_log2 (Nat.ne_of_gt hv)).2 h
  have hfb : (double.fractionBits : Int) = 52 := rfl
  have e2 : double.nearest false (2 * v) place = double.nearest false v (place + 1) := by
    have := nearest_shift false v 1 (place + 1) hv
    rw [← this, Nat.mul_comm 2, Nat.pow_one]
    congr 1
    omega
  rw [e2]
  unfold Format.nearest
  rw [if_neg (Nat.ne_of_gt hv), if_neg (Nat.ne_of_gt hv), hfb, lp_eq, binade_eq, inf_eq]
  have m1 : max (place + (v.log2 : Int) - 52) (-1074) = place + v.log2 - 52 := by omega
  have m2 : max (place + 1 + (v.log2 : Int) - 52) (-1074) = place + v.log2 - 52 + 1 := by omega
  simp only [m1, m2]
  have t1 : (place - (place + (v.log2 : Int) - 52)).toNat = 0 := by omega
  have t2 : (place + 1 - (place + (v.log2 : Int) - 52 + 1)).toNat = 0 := by omega
  have t3 : (place + (v.log2 : Int) - 52 - place).toNat = v.log2 - 52 := by omega
  have t4 : (place + (v.log2 : Int) - 52 + 1 - (place + 1)).toNat = v.log2 - 52 := by omega
  have t5 : (place + (v.log2 : Int) - 52 + 1 - (-1074)).toNat = (place + (v.log2 : Int) - 52 - (-1074)).toNat + 1 := by omega
  rw [t1, t2, t3, t4, t5, Nat.shiftLeft_zero]
  refine ⟨(place + (v.log2 : Int) - 52 - (-1074)).toNat * B + Toward.even.cut false v (v.log2 - 52), word_false _, ?_, ?_⟩
  · rw [word_false, Nat.add_mul, Nat.one_mul, Nat.add_right_comm]
  · have := cut_le v h
    rw [Nat.add_mul]
    have t6 : (place + (v.log2 : Int) - 52 - (-1074)).toNat = (place + (v.log2 : Int) - 52 + 1074).toNat := by omega
    rw [t6]
    omega

theorem min_step (r1 r2 I C : Nat) (h : r2 + C < I) : min (r1 + C) I ≤ r2 + C ↔ min r1 I ≤ r2 := ⟨fun h => by omega, fun h => by omega⟩
end Go.Proofs.Qxb6613821aDoor
