/- What OnesCount64 counts. No Go text here. -/
import Derived.Test.Qxb6613821aDoorWords
namespace Go.Proofs.Qxb6613821aDoor
set_option linter.unusedVariables false
set_option linter.unusedSimpArgs false
open Ieee Go.RowKit

theorem and_low {m k : Nat} (x : Nat) (hm : m < 2 ^ k) : x &&& m = (x % 2 ^ k) &&& m := by
  apply Nat.eq_of_testBit_eq
  intro i
  rw [Nat.testBit_and, Nat.testBit_and, Nat.testBit_mod_two_pow]
  by_cases h : i < k
  · simp [h]
  · have : m.testBit i = false := Nat.testBit_lt_two_pow (Nat.lt_of_lt_of_le hm (Nat.pow_le_pow_right (by omega) (by omega)))
    simp [this]
theorem dig_and {a m : Nat} (A M : Nat) (ha : a < 256) (hm : m < 256) : (a + 256 * A) &&& (m + 256 * M) = (a &&& m) + 256 * (A &&& M) := by
  have e : ∀ (a A : Nat), a < 256 → ∀ i, (a + 256 * A).testBit i = if i < 8 then a.testBit i else A.testBit (i - 8) := fun a A ha i => by
    rw [Nat.add_comm]; exact Nat.testBit_two_pow_mul_add A (i := 8) ha i
  apply Nat.eq_of_testBit_eq
  intro i
  rw [Nat.testBit_and, e a A ha, e m M hm, e _ _ (Nat.lt_of_le_of_lt Nat.and_le_right hm)]
  by_cases h : i < 8
  · rw [if_pos h, if_pos h, if_pos h, Nat.testBit_and]
  · rw [if_neg h, if_neg h, if_neg h, Nat.testBit_and]
/-- k bytes c. -/
def rep (c : Nat) : Nat → Nat
  | 0 => 0
  | k + 1 => c + 256 * rep c k
/-- f at each of x's k low bytes. -/
def mapB (f : Nat → Nat) : Nat → Nat → Nat
  | 0, _ => 0
  | k + 1, x => f (x % 256) + 256 * mapB f k (x / 256)
theorem mapB_lt {f : Nat → Nat} (hf : ∀ a, a < 256 → f a < 256) : ∀ k x, mapB f k x < 256 ^ k
  | 0, _ => by simp [mapB]
  | k + 1, x => by
    have h1 := mapB_lt hf k (x / 256)
    have h2 := hf (x % 256) (Nat.mod_lt _ (by omega))
    rw [Nat.pow_succ]
    simp only [mapB]
    omega
theorem mapB_comp {f g : Nat → Nat} (hf : ∀ a, a < 256 → f a < 256) : ∀ k x, mapB g k (mapB f k x) = mapB (fun a => g (f a)) k x
  | 0, _ => rfl
  | k + 1, x => by
    have h2 := hf (x % 256) (Nat.mod_lt _ (by omega))
    simp only [mapB]
    rw [show (f (x % 256) + 256 * mapB f k (x / 256)) % 256 = f (x % 256) from by omega, show (f (x % 256) + 256 * mapB f k (x / 256)) / 256 = mapB f k (x / 256) from by omega, mapB_comp hf k]
theorem stage1 {c : Nat} (hc : c < 128) : ∀ k x, (x / 2 &&& rep c k) + (x &&& rep c k) = mapB (fun a => (a / 2 &&& c) + (a &&& c)) k x
  | 0, x => by simp [rep, mapB]
  | k + 1, x => by
    have ih := stage1 hc k (x / 256)
    simp only [rep, mapB]
    have e1 : x &&& (c + 256 * rep c k) = (x % 256 &&& c) + 256 * (x / 256 &&& rep c k) := by
      rw [← dig_and _ _ (Nat.mod_lt _ (by omega)) (by omega), show x % 256 + 256 * (x / 256) = x from by omega]
    have e2 : x / 2 &&& (c + 256 * rep c k) = (x % 256 / 2 &&& c) + 256 * (x / 256 / 2 &&& rep c k) := by
      rw [show x / 2 = (x / 2) % 256 + 256 * (x / 256 / 2) from by omega, dig_and _ _ (Nat.mod_lt _ (by omega)) (by omega), and_low (k := 7) _ hc, and_low (k := 7) (x % 256 / 2) hc]
      have : x / 2 % 256 % 2 ^ 7 = x % 256 / 2 % 2 ^ 7 := by omega
      rw [this]
    rw [e1, e2]
    omega
theorem stage2 {c : Nat} (hc : c < 64) : ∀ k x, (x / 4 &&& rep c k) + (x &&& rep c k) = mapB (fun a => (a / 4 &&& c) + (a &&& c)) k x
  | 0, x => by simp [rep, mapB]
  | k + 1, x => by
    have ih := stage2 hc k (x / 256)
    simp only [rep, mapB]
    have e1 : x &&& (c + 256 * rep c k) = (x % 256 &&& c) + 256 * (x / 256 &&& rep c k) := by
      rw [← dig_and _ _ (Nat.mod_lt _ (by omega)) (by omega), show x % 256 + 256 * (x / 256) = x from by omega]
    have e2 : x / 4 &&& (c + 256 * rep c k) = (x % 256 / 4 &&& c) + 256 * (x / 256 / 4 &&& rep c k) := by
      rw [show x / 4 = (x / 4) % 256 + 256 * (x / 256 / 4) from by omega, dig_and _ _ (Nat.mod_lt _ (by omega)) (by omega), and_low (k := 6) _ hc, and_low (k := 6) (x % 256 / 4) hc]
      have : x / 4 % 256 % 2 ^ 6 = x % 256 / 4 % 2 ^ 6 := by omega
      rw [this]
    rw [e1, e2]
    omega
theorem stage3 {f : Nat → Nat} (hf : ∀ a, a < 256 → f a ≤ 68 ∧ f a % 16 ≤ 4) : ∀ k x, ((mapB f k x / 16 + mapB f k x) &&& rep 15 k = mapB (fun a => (f a / 16 + f a) % 16) k x) ∧ mapB f k x % 16 ≤ 4
  | 0, x => by simp [rep, mapB]
  | k + 1, x => by
    obtain ⟨ih, h16⟩ := stage3 hf k (x / 256)
    obtain ⟨h1, h2⟩ := hf (x % 256) (Nat.mod_lt _ (by omega))
    simp only [rep, mapB]
    generalize mapB f k (x / 256) = A at *
    generalize f (x % 256) = a at *
    refine ⟨?_, by omega⟩
    rw [show (a + 256 * A) / 16 + (a + 256 * A) = (a / 16 + a + 16 * (A % 16)) + 256 * (A / 16 + A) from by omega, dig_and _ _ (by omega) (by omega), ih]
    have e : (a / 16 + a + 16 * (A % 16)) &&& 15 = (a / 16 + a) % 16 := by
      rw [show (15 : Nat) = 2 ^ 4 - 1 from rfl, Nat.and_two_pow_sub_one_eq_mod]
      omega
    rw [e]
def pop1 (a : Nat) : Nat := (a / 2 &&& 85) + (a &&& 85)
def pop2 (a : Nat) : Nat := (pop1 a / 4 &&& 51) + (pop1 a &&& 51)
def pop (a : Nat) : Nat := (pop2 a / 16 + pop2 a) % 16
theorem pop1_lt : ∀ a, a < 256 → pop1 a < 256 := by decide +kernel
theorem pop2_le : ∀ a, a < 256 → pop2 a ≤ 68 ∧ pop2 a % 16 ≤ 4 := by decide +kernel
theorem pop_le : ∀ a, a < 256 → pop a ≤ 8 := by decide +kernel
theorem pop_mono : ∀ a, a < 256 → ∀ b, b < 256 → a &&& b = a → pop a ≤ pop b ∧ (pop a = pop b → a = b) := by decide +kernel
/-- The bytes' counts. -/
def psum : Nat → Nat → Nat
  | 0, _ => 0
  | k + 1, x => pop (x % 256) + psum k (x / 256)
theorem psum_mono : ∀ k x y, x &&& y = x → psum k x ≤ psum k y ∧ (psum k x = psum k y → x % 256 ^ k = y % 256 ^ k)
  | 0, x, y, _ => by simp [psum, Nat.mod_one]
  | k + 1, x, y, h => by
    have h1 : x % 256 &&& y % 256 = x % 256 := by
      show x % 2 ^ 8 &&& y % 2 ^ 8 = x % 2 ^ 8
      rw [← Nat.and_mod_two_pow, h]
    have h2 : x / 256 &&& y / 256 = x / 256 := by
      show x / 2 ^ 8 &&& y / 2 ^ 8 = x / 2 ^ 8
      rw [← Nat.shiftRight_eq_div_pow, ← Nat.shiftRight_eq_div_pow, ← Nat.shiftRight_and_distrib, h]
    obtain ⟨a1, a2⟩ := pop_mono _ (Nat.mod_lt x (by omega)) _ (Nat.mod_lt y (by omega)) h1
    obtain ⟨b1, b2⟩ := psum_mono k _ _ h2
    simp only [psum]
    refine ⟨by omega, fun e => ?_⟩
    have c1 := a2 (by omega)
    have c2 := b2 (by omega)
    rw [Nat.pow_succ, Nat.mul_comm, Nat.mod_mul, Nat.mod_mul, c1, c2]
theorem psum_eq (x : Nat) : psum 8 x = pop (x % 256) + (pop (x / 256 % 256) + (pop (x / 256 / 256 % 256) + (pop (x / 256 / 256 / 256 % 256) + (pop (x / 256 / 256 / 256 / 256 % 256) + (pop (x / 256 / 256 / 256 / 256 / 256 % 256) + (pop (x / 256 / 256 / 256 / 256 / 256 / 256 % 256) + (pop (x / 256 / 256 / 256 / 256 / 256 / 256 / 256 % 256) + 0))))))) := rfl
theorem on1_eq {x : Nat} (h : x < 2 ^ 64) : on1 (x : Int) = ((mapB pop1 8 x : Nat) : Int) := by
  have e := stage1 (c := 85) (by omega) 8 x
  have hr : rep 85 8 = 6148914691236517205 := by decide +kernel
  rw [hr] at e
  have hl := mapB_lt pop1_lt 8 x
  unfold on1
  rw [show (x : Int) / 2 = ((x / 2 : Nat) : Int) from rfl, show (6148914691236517205 : Int) = ((6148914691236517205 : Nat) : Int) from rfl, bits_and (by omega) (by decide), bits_and h (by decide), ← Int.natCast_add, e]
  exact wrapU _ (by rw [show (2 : Nat) ^ 64 = 256 ^ 8 from by decide]; exact hl)
theorem on2_eq {x : Nat} (h : x < 2 ^ 64) : on2 (x : Int) = ((mapB (fun a => (a / 4 &&& 51) + (a &&& 51)) 8 x : Nat) : Int) := by
  have e := stage2 (c := 51) (by omega) 8 x
  have hr : rep 51 8 = 3689348814741910323 := by decide +kernel
  rw [hr] at e
  have hl := mapB_lt (f := fun a => (a / 4 &&& 51) + (a &&& 51)) (by decide +kernel) 8 x
  unfold on2
  rw [show (x : Int) / 4 = ((x / 4 : Nat) : Int) from rfl, show (3689348814741910323 : Int) = ((3689348814741910323 : Nat) : Int) from rfl, bits_and (by omega) (by decide), bits_and h (by decide), ← Int.natCast_add, e]
  exact wrapU _ (by rw [show (2 : Nat) ^ 64 = 256 ^ 8 from by decide]; exact hl)
theorem on123 {x : Nat} (h : x < 2 ^ 64) : on3 (on2 (on1 (x : Int))) = ((mapB pop 8 x : Nat) : Int) := by
  have p8 : (256 : Nat) ^ 8 = 2 ^ 64 := by decide
  have h1 := mapB_lt pop1_lt 8 x
  rw [p8] at h1
  rw [on1_eq h, on2_eq h1, mapB_comp pop1_lt]
  show on3 ((mapB pop2 8 x : Nat) : Int) = _
  have h2 := mapB_lt (f := pop2) (fun a ha => by have := (pop2_le a ha).1; omega) 8 x
  rw [p8] at h2
  have e := (stage3 pop2_le 8 x).1
  have hr : rep 15 8 = 1085102592571150095 := by decide +kernel
  rw [hr] at e
  have hb : mapB pop2 8 x < 2 ^ 63 := by
    simp only [mapB]
    have q0 := fun y => (pop2_le (y % 256) (Nat.mod_lt _ (by omega))).1
    have := q0 x; have := q0 (x / 256); have := q0 (x / 256 / 256); have := q0 (x / 256 / 256 / 256); have := q0 (x / 256 / 256 / 256 / 256); have := q0 (x / 256 / 256 / 256 / 256 / 256)
    have := q0 (x / 256 / 256 / 256 / 256 / 256 / 256); have := q0 (x / 256 / 256 / 256 / 256 / 256 / 256 / 256)
    omega
  unfold on3
  generalize mapB pop2 8 x = y at *
  rw [show (y : Int) / 16 = ((y / 16 : Nat) : Int) from rfl, ← Int.natCast_add, wrapU _ (by omega), show (1085102592571150095 : Int) = ((1085102592571150095 : Nat) : Int) from rfl, bits_and (by omega) (by decide), e]
  rfl
theorem tail8 {t0 t1 t2 t3 t4 t5 t6 t7 : Nat} (h0 : t0 ≤ 8) (h1 : t1 ≤ 8) (h2 : t2 ≤ 8) (h3 : t3 ≤ 8) (h4 : t4 ≤ 8) (h5 : t5 ≤ 8) (h6 : t6 ≤ 8) (h7 : t7 ≤ 8) :
    ∃ z : Nat, on6 (on5 (on4 ((t0 + 256 * (t1 + 256 * (t2 + 256 * (t3 + 256 * (t4 + 256 * (t5 + 256 * (t6 + 256 * (t7 + 256 * 0))))))) : Nat) : Int))) = (z : Int) ∧ z < 2 ^ 63 ∧ z % 128 = t0 + (t1 + (t2 + (t3 + (t4 + (t5 + (t6 + (t7 + 0))))))) := by
  obtain ⟨v, hv⟩ : ∃ v : Nat, v = t0 + 256 * (t1 + 256 * (t2 + 256 * (t3 + 256 * (t4 + 256 * (t5 + 256 * (t6 + 256 * (t7 + 256 * 0))))))) := ⟨_, rfl⟩
  rw [← hv]
  have e4 : on4 (v : Int) = ((v + v / 256 : Nat) : Int) := by
    unfold on4; rw [show (v : Int) / 256 = ((v / 256 : Nat) : Int) from rfl, ← Int.natCast_add]; exact wrapU _ (by omega)
  have f4 : v + v / 256 = (t0 + t1) + 256 * ((t1 + t2) + 256 * ((t2 + t3) + 256 * ((t3 + t4) + 256 * ((t4 + t5) + 256 * ((t5 + t6) + 256 * ((t6 + t7) + 256 * t7)))))) := by omega
  rw [e4, f4]
  obtain ⟨v4, hv4⟩ : ∃ v : Nat, v = (t0 + t1) + 256 * ((t1 + t2) + 256 * ((t2 + t3) + 256 * ((t3 + t4) + 256 * ((t4 + t5) + 256 * ((t5 + t6) + 256 * ((t6 + t7) + 256 * t7)))))) := ⟨_, rfl⟩
  rw [← hv4]
  have e5 : on5 (v4 : Int) = ((v4 + v4 / 65536 : Nat) : Int) := by
    unfold on5; rw [show (v4 : Int) / 65536 = ((v4 / 65536 : Nat) : Int) from rfl, ← Int.natCast_add]; exact wrapU _ (by omega)
  have f5 : v4 + v4 / 65536 = (t0 + t1 + t2 + t3) + 256 * ((t1 + t2 + t3 + t4) + 256 * ((t2 + t3 + t4 + t5) + 256 * ((t3 + t4 + t5 + t6) + 256 * ((t4 + t5 + t6 + t7) + 256 * ((t5 + t6 + t7) + 256 * ((t6 + t7) + 256 * t7)))))) := by omega
  rw [e5, f5]
  clear hv hv4 e4 f4 e5 f5
  obtain ⟨v5, hv5⟩ : ∃ v : Nat, v = (t0 + t1 + t2 + t3) + 256 * ((t1 + t2 + t3 + t4) + 256 * ((t2 + t3 + t4 + t5) + 256 * ((t3 + t4 + t5 + t6) + 256 * ((t4 + t5 + t6 + t7) + 256 * ((t5 + t6 + t7) + 256 * ((t6 + t7) + 256 * t7)))))) := ⟨_, rfl⟩
  rw [← hv5]
  have e6 : on6 (v5 : Int) = ((v5 + v5 / 4294967296 : Nat) : Int) := by
    unfold on6; rw [show (v5 : Int) / 4294967296 = ((v5 / 4294967296 : Nat) : Int) from rfl, ← Int.natCast_add]; exact wrapU _ (by omega)
  have f6 : v5 / 4294967296 = (t4 + t5 + t6 + t7) + 256 * ((t5 + t6 + t7) + 256 * ((t6 + t7) + 256 * t7)) := by omega
  refine ⟨v5 + v5 / 4294967296, e6, by omega, ?_⟩
  rw [f6, hv5]
  clear e6 f6 hv5
  generalize (t1 + t2 + t3 + t4) + 256 * ((t2 + t3 + t4 + t5) + 256 * ((t3 + t4 + t5 + t6) + 256 * ((t4 + t5 + t6 + t7) + 256 * ((t5 + t6 + t7) + 256 * ((t6 + t7) + 256 * t7))))) = X
  generalize (t5 + t6 + t7) + 256 * ((t6 + t7) + 256 * t7) = Y
  omega
theorem and127 (z : Nat) (h : z < 2 ^ 63) : bits .and .i64 (wrap64 (z : Int)) 127 = ((z % 128 : Nat) : Int) := by
  have hw : wrap64 (z : Int) = (z : Int) := by unfold wrap64; omega
  rw [hw]
  have e : bits .and .i64 (z : Int) 127 = IntKind.i64.wrap ((BitVec.ofInt 64 (z : Int) &&& BitVec.ofInt 64 127).toNat : Int) := rfl
  have e2 : (BitVec.ofInt 64 (z : Int) &&& BitVec.ofInt 64 127).toNat = z % 128 := by
    rw [ofIntU, BitVec.toNat_and, BitVec.toNat_ofNat, Nat.mod_eq_of_lt (by omega), show (BitVec.ofInt 64 127).toNat = 2 ^ 7 - 1 from by decide, Nat.and_two_pow_sub_one_eq_mod]
  rw [e, e2]
  have := Nat.mod_lt z (show 0 < 128 by decide)
  generalize z % 128 = m at *
  simp only [IntKind.wrap, IntKind.bits, IntKind.signed]
  simp
  omega
/-- The count is the bytes' counts. -/
theorem ones_psum {x : Nat} (h : x < 2 ^ 64) : ones x = psum 8 x := by
  unfold ones onesI
  rw [on123 h, psum_eq]
  have q0 := fun y => pop_le (y % 256) (Nat.mod_lt y (by omega))
  obtain ⟨z, hz, hz2, hz3⟩ := tail8 (q0 x) (q0 (x / 256)) (q0 (x / 256 / 256)) (q0 (x / 256 / 256 / 256)) (q0 (x / 256 / 256 / 256 / 256)) (q0 (x / 256 / 256 / 256 / 256 / 256)) (q0 (x / 256 / 256 / 256 / 256 / 256 / 256)) (q0 (x / 256 / 256 / 256 / 256 / 256 / 256 / 256))
  have e : on6 (on5 (on4 ((mapB pop 8 x : Nat) : Int))) = (z : Int) := hz
  rw [e, and127 z hz2, hz3]
  rfl
/-- A word within another has no more ones; as many: it is the same. -/
theorem ones_mono {x y : Nat} (hx : x < 2 ^ 64) (hy : y < 2 ^ 64) (h : ∀ i, i < 64 → x.testBit i = true → y.testBit i = true) : ones x ≤ ones y ∧ (ones x = ones y → x = y) := by
  have ha : x &&& y = x := by
    apply Nat.eq_of_testBit_eq
    intro i
    rw [Nat.testBit_and]
    cases hb : x.testBit i with
    | false => rfl
    | true =>
      have hi : i < 64 := by
        by_cases hi : i < 64
        · exact hi
        · rw [Nat.testBit_lt_two_pow (Nat.lt_of_lt_of_le hx (Nat.pow_le_pow_right (by omega) (by omega)))] at hb
          cases hb
      rw [h i hi hb]; rfl
  rw [ones_psum hx, ones_psum hy]
  obtain ⟨h1, h2⟩ := psum_mono 8 x y ha
  refine ⟨h1, fun e => ?_⟩
  have := h2 e
  rwa [show (256 : Nat) ^ 8 = 2 ^ 64 from by decide, Nat.mod_eq_of_lt hx, Nat.mod_eq_of_lt hy] at this
end Go.Proofs.Qxb6613821aDoor
