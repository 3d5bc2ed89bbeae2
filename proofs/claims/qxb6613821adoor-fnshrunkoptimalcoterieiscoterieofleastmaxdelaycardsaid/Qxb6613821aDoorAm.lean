/- 'atMost' is monotone in its first argument, and near: plain. No Go text here. -/
import Derived.Test.Qxb6613821aDoorSpec
namespace Go.Proofs.Qxb6613821aDoor
set_option linter.unusedVariables false
set_option linter.unusedSimpArgs false
open Ieee

theorem Q_next (r : Nat) : Q (r + 1) ≤ 2 * B * (Q (r + 1) - Q r) := by
  have hB := B_pos
  by_cases h : B ≤ r
  · obtain ⟨E, k, rfl, h1, h2⟩ := Q_form h
    rw [Nat.add_assoc, Q_at E (k + 1) (by omega) (Or.inl (by omega)), Q_at E k (by omega) (Or.inl h1), ← Nat.sub_mul, show k + 1 - k = 1 from by omega, Nat.one_mul]
    exact Nat.mul_le_mul_right _ (by omega)
  · rw [Q_low (by omega), Q_low (by omega), show r + 1 - r = 1 from by omega]
    omega
/-- Two values apart are apart by the greater's last digit. -/
theorem q_apart {a b : Nat} (ha : nf a = true) (hb : nf b = true) (h : q a < q b) : q b ≤ 9007199254740992 * (q b - q a) := by
  have hb' := nf_q_pos hb (by omega)
  by_cases h0 : q a = 0
  · omega
  · have ha' := nf_q_pos ha (by omega)
    rw [q_Q ha', q_Q hb'] at *
    have hlt : a < b := by
      by_cases e : a < b
      · exact e
      · have := Q_le (r := b) (s := a) (by omega); omega
    obtain ⟨c, rfl⟩ : ∃ c, b = c + 1 := ⟨b - 1, by omega⟩
    have h1 := Q_next c
    have h2 : Q a ≤ Q c := Q_le (by omega)
    have h3 : 2 * B = 9007199254740992 := rfl
    rw [h3] at h1
    generalize Q (c + 1) = y at *
    generalize Q c = x at *
    generalize Q a = z at *
    omega
/-- The rung of a product that is far below infinity. -/
theorem rung_small {v s y c : Nat} (hq : v ≤ c * 2 ^ e2098) (hc : c < 9007199254740992) (hs : 79 ≤ s) (h2 : 0 < y → 2 ^ s * (Q (y - 1) + Q y) ≤ 2 * v) : y < 2047 * B := by
  by_cases e : y < 2047 * B
  · exact e
  · exfalso
    have hB := B_pos
    have h3 := h2 (by omega)
    have h98 := e2098_eq
    have hQ : B * 2 ^ (e2098 - 53) ≤ Q (y - 1) := by
      rw [← Q_at (e2098 - 53) B (by omega) (Or.inl (Nat.le_refl _))]
      refine Q_le ?_
      rw [h98]
      omega
    have hQ2 : Q (y - 1) ≤ Q y := Q_le (by omega)
    have e1 : 2 ^ e2098 = 2 * (B * 2 ^ (e2098 - 53)) := by
      rw [B_eq, ← Nat.pow_add, ← Nat.pow_succ']
      congr 1; omega
    have h4 : 2 ^ 79 * (2 * (B * 2 ^ (e2098 - 53))) ≤ 2 ^ s * (Q (y - 1) + Q y) := Nat.mul_le_mul (Nat.pow_le_pow_right (by omega) hs) (by omega)
    have hp : 0 < B * 2 ^ (e2098 - 53) := Nat.mul_pos hB (Nat.two_pow_pos _)
    rw [e1] at hq
    generalize B * 2 ^ (e2098 - 53) = t at *
    have h5 : c * (2 * t) ≤ 9007199254740992 * (2 * t) := Nat.mul_le_mul_right _ (Nat.le_of_lt hc)
    omega
theorem fle_min {x y : Nat} (h : y < 2047 * B) : fle (min x (2047 * B)) (min y (2047 * B)) = decide (x ≤ y) := by
  rw [Nat.min_eq_left (Nat.le_of_lt h), fle_rung (Nat.min_le_right _ _) h]
  congr 1
  exact propext ⟨fun h => by omega, fun h => by omega⟩

/-- What 'atMost' compares where its first is the greater. -/
theorem am_dec {a r x y M : Nat} (ha : nf a = true) (hr : nf r = true) (h : q r < q a) (hM : M = max (q one) (q a)) (hx : double.nearest false (q a - q r) (-1074 - ((0 : Nat) : Int)) = min x (2047 * B))
    (hy : double.nearest false (4835703278458517 * M) (-1074 - ((82 : Nat) : Int)) = min y (2047 * B)) (hyI : y < 2047 * B) : am a r = decide (x ≤ y) := by
  have nM : nf (fmax (fmax one (absB a)) (absB r)) = true := nf_fmax (nf_fmax nf_one (nf_abs ha)) (nf_abs hr)
  have qM : q (fmax (fmax one (absB a)) (absB r)) = M := by
    rw [q_fmax (nf_fmax nf_one (nf_abs ha)) (nf_abs hr), q_fmax nf_one (nf_abs ha), q_abs ha, q_abs hr, hM]; omega
  unfold am
  rw [fle_q ha hr, decide_eq_false (show ¬ q a ≤ q r by omega), Bool.false_or, fsub_near ha hr h, fmul_near nM (by rw [qM, hM]; omega), qM]
  rw [show (-1074 : Int) - ((0 : Nat) : Int) = -1074 from rfl] at hx
  rw [show (-1074 : Int) - ((82 : Nat) : Int) = -1156 from rfl] at hy
  rw [hx, hy, fle_min hyI]
theorem M_or {a M : Nat} (ha : nf a = true) (hM : M = max (q one) (q a)) : 4835703278458517 * M ≤ 4835703278458517 * 2 ^ e2098 := by
  refine Nat.mul_le_mul_left _ ?_
  rw [hM]
  exact Nat.max_le.2 ⟨Nat.le_of_lt (q_lt nf_one), Nat.le_of_lt (q_lt ha)⟩
theorem one_big : 2 ^ 200 ≤ q one := by
  rw [q_one]
  have := e1074_eq
  exact Nat.pow_le_pow_right (by omega) (by omega)
/-- Where it says yes the two are near. -/
theorem bound_core {X M y g1 g2 Q0 Q1 Q2 : Nat} (h1 : 2 * X ≤ Q1 + Q2) (e1 : Q1 = Q0 + g1) (e2 : Q2 = Q1 + g2) (k1 : g1 * 4503599627370496 ≤ Q0) (k2 : g2 * 4503599627370496 ≤ Q1)
    (h2 : 4835703278458516698824704 * (Q0 + Q1) ≤ 2 * (4835703278458517 * M)) : 4835703278458516698824704 * 4503599627370496 * X ≤ 4835703278458517 * 4503599627370498 * M := by
  omega
theorem am_bound {a r M : Nat} (ha : nf a = true) (hr : nf r = true) (h : q r < q a) (hM : M = max (q one) (q a)) (ham : am a r = true) :
    4835703278458516698824704 * 4503599627370496 * (q a - q r) ≤ 4835703278458517 * 4503599627370498 * M := by
  have hob := one_big
  have hM1 : q one ≤ M := by omega
  obtain ⟨x, hx, x1, x2⟩ := near_spec (q a - q r) 0 (by omega)
  obtain ⟨y, hy, y1, y2⟩ := near_spec (4835703278458517 * M) 82 (by omega)
  have hyI : y < 2047 * B := rung_small (M_or ha hM) (by decide) (by omega) y2
  rw [am_dec ha hr h hM hx hy hyI, decide_eq_true_eq] at ham
  rw [Nat.pow_zero, Nat.one_mul] at x1
  have e82 : (2 : Nat) ^ 82 = 4835703278458516698824704 := by decide
  rw [e82] at y1 y2
  have hBy : B < y := by
    by_cases e : B < y
    · exact e
    · exfalso
      have hB : B = 4503599627370496 := rfl
      have a1 : Q y ≤ Q B := Q_le (by omega)
      have a2 : Q (y + 1) ≤ Q (B + 1) := Q_le (by omega)
      rw [Q_low (r := B) (by omega)] at a1
      rw [Q_low (r := B + 1) (by omega)] at a2
      generalize Q y = u at *
      generalize Q (y + 1) = v at *
      generalize q one = o at *
      omega
  obtain ⟨z, rfl⟩ : ∃ z, y = z + 1 := ⟨y - 1, by omega⟩
  obtain ⟨g1, e1, _, k1⟩ := Q_gap z
  obtain ⟨g2, e2, _, k2⟩ := Q_gap (z + 1)
  have hx' : Q x + Q (x + 1) ≤ Q (z + 1) + Q (z + 1 + 1) := Nat.add_le_add (Q_le ham) (Q_le (by omega))
  exact bound_core (y := z) (Nat.le_trans x1 hx') e1 e2 (k1 (by omega)) (k2 (by omega)) (y2 (by omega))
theorem am_congr {a b r : Nat} (ha : nf a = true) (hb : nf b = true) (hr : nf r = true) (h : q a = q b) : am a r = am b r := by
  by_cases hle : q a ≤ q r
  · unfold am
    rw [fle_q ha hr, fle_q hb hr, ← h, decide_eq_true hle]; rfl
  · have hob := one_big
    obtain ⟨M, hM⟩ : ∃ M, M = max (q one) (q a) := ⟨_, rfl⟩
    obtain ⟨x, hx, x1, x2⟩ := near_spec (q a - q r) 0 (by omega)
    obtain ⟨y, hy, y1, y2⟩ := near_spec (4835703278458517 * M) 82 (by omega)
    have hyI : y < 2047 * B := rung_small (M_or ha hM) (by decide) (by omega) y2
    rw [am_dec ha hr (by omega) hM hx hy hyI, am_dec hb hr (by omega) (by rw [← h]; exact hM) (by rw [← h]; exact hx) hy hyI]
theorem mono_core {qa qb qr Ma : Nat} (h1 : qr < qa) (h2 : qa < qb) (h3 : qb ≤ 9007199254740992 * (qb - qa)) (h4 : 4835703278458516698824704 * 4503599627370496 * (qb - qr) ≤ 4835703278458517 * 4503599627370498 * qb)
    (h5 : qa ≤ Ma) (h6 : 4835703278458517 * Ma ≤ 4835703278458516698824704 * (qa - qr)) : False := by
  omega
/-- A lesser distance is at most what a greater is. -/
theorem am_mono {a b r : Nat} (ha : nf a = true) (hb : nf b = true) (hr : nf r = true) (h : q a ≤ q b) (ham : am b r = true) : am a r = true := by
  by_cases h1 : q a ≤ q r
  · unfold am; rw [fle_q ha hr, decide_eq_true h1]; rfl
  by_cases h2 : q a = q b
  · rw [am_congr ha hb hr h2]; exact ham
  have hob := one_big
  obtain ⟨Mb, hMb⟩ : ∃ M, M = max (q one) (q b) := ⟨_, rfl⟩
  obtain ⟨Ma, hMa⟩ : ∃ M, M = max (q one) (q a) := ⟨_, rfl⟩
  obtain ⟨xa, hxa, xa1, xa2⟩ := near_spec (q a - q r) 0 (by omega)
  obtain ⟨ya, hya, ya1, ya2⟩ := near_spec (4835703278458517 * Ma) 82 (by omega)
  have hyaI : ya < 2047 * B := rung_small (M_or ha hMa) (by decide) (by omega) ya2
  rw [am_dec ha hr (by omega) hMa hxa hya hyaI, decide_eq_true_eq]
  by_cases h3 : q b ≤ q one
  · have hMM : Mb = Ma := by omega
    obtain ⟨xb, hxb, xb1, xb2⟩ := near_spec (q b - q r) 0 (by omega)
    rw [am_dec hb hr (by omega) hMb hxb (by rw [hMM]; exact hya) hyaI, decide_eq_true_eq] at ham
    exact Nat.le_trans (near_mono (by omega) xa2 xb1) ham
  · have h4 := am_bound hb hr (by omega) hMb ham
    rw [show Mb = q b from by omega] at h4
    have h5 := q_apart ha hb (by omega)
    by_cases hle : xa ≤ ya
    · exact hle
    · exfalso
      have a3 := xa2 (by omega)
      have a1 : Q ya ≤ Q (xa - 1) := Q_le (by omega)
      have a2 : Q (ya + 1) ≤ Q xa := Q_le (by omega)
      rw [Nat.pow_zero, Nat.one_mul] at a3
      have e82 : (2 : Nat) ^ 82 = 4835703278458516698824704 := by decide
      rw [e82] at ya1
      have h6 : 4835703278458517 * Ma ≤ 4835703278458516698824704 * (q a - q r) := by
        generalize Q ya = u1 at *
        generalize Q (ya + 1) = u2 at *
        generalize Q (xa - 1) = u3 at *
        generalize Q xa = u4 at *
        clear h4 h5 hMb hMa hob
        omega
      exact mono_core (by omega) (by omega) h5 h4 (by omega) h6
end Go.Proofs.Qxb6613821aDoor
