/- Words of bits: what the model's operations on uint64 are on natural numbers. No Go text here. -/
import Derived.Test.Qxb6613821aDoorFloat
import Derived.Laws.BitsAll
import Derived.Lib.TrailingZeros
namespace Go.Proofs.Qxb6613821aDoor
set_option linter.unusedVariables false
set_option linter.unusedSimpArgs false

theorem wrapU (n : Nat) (h : n < 2 ^ 64) : IntKind.u64.wrap (n : Int) = (n : Int) := by
  simp only [IntKind.wrap, IntKind.bits, IntKind.signed]
  simp
  omega
theorem ofIntU (n : Nat) : BitVec.ofInt 64 (n : Int) = BitVec.ofNat 64 n := by simp
theorem bits_and {x y : Nat} (hx : x < 2 ^ 64) (hy : y < 2 ^ 64) : bits .and .u64 (x : Int) (y : Int) = ((x &&& y : Nat) : Int) := by
  have h3 : (BitVec.ofNat 64 x &&& BitVec.ofNat 64 y).toNat = x &&& y := by
    rw [BitVec.toNat_and, BitVec.toNat_ofNat, BitVec.toNat_ofNat, Nat.mod_eq_of_lt hx, Nat.mod_eq_of_lt hy]
  show IntKind.u64.wrap ((BitVec.ofInt 64 (x : Int) &&& BitVec.ofInt 64 (y : Int)).toNat : Int) = _
  rw [ofIntU, ofIntU, h3, wrapU _ (Nat.and_lt_two_pow _ hy)]
theorem bits_or {x y : Nat} (hx : x < 2 ^ 64) (hy : y < 2 ^ 64) : bits .or .u64 (x : Int) (y : Int) = ((x ||| y : Nat) : Int) := by
  have h3 : (BitVec.ofNat 64 x ||| BitVec.ofNat 64 y).toNat = x ||| y := by
    rw [BitVec.toNat_or, BitVec.toNat_ofNat, BitVec.toNat_ofNat, Nat.mod_eq_of_lt hx, Nat.mod_eq_of_lt hy]
  show IntKind.u64.wrap ((BitVec.ofInt 64 (x : Int) ||| BitVec.ofInt 64 (y : Int)).toNat : Int) = _
  rw [ofIntU, ofIntU, h3, wrapU _ (Nat.or_lt_two_pow hx hy)]
theorem wrap_pow {k : Nat} (hk : k < 64) : IntKind.u64.wrap (2 ^ k) = ((2 ^ k : Nat) : Int) := by
  have h : ((2 : Int) ^ k) = ((2 ^ k : Nat) : Int) := by simp
  rw [h, wrapU _ (Nat.pow_lt_pow_right (by omega) hk)]
theorem land_pow (y k : Nat) : y &&& 2 ^ k = if y.testBit k then 2 ^ k else 0 := by
  apply Nat.eq_of_testBit_eq
  intro i
  rw [Nat.testBit_and, Nat.testBit_two_pow]
  by_cases e : k = i
  · subst e
    cases h : y.testBit k <;> simp [Nat.testBit_two_pow]
  · cases h : y.testBit k <;> simp [Nat.testBit_two_pow, e]
theorem and_bit {y k : Nat} (hy : y < 2 ^ 64) (hk : k < 64) : (bits .and .u64 (y : Int) (IntKind.u64.wrap (2 ^ k)) != 0) = y.testBit k := by
  rw [wrap_pow hk, bits_and hy (Nat.pow_lt_pow_right (by omega) hk), land_pow]
  cases h : y.testBit k
  · simp
  · simp
    have : (0 : Int) < 2 ^ k := Int.pow_pos (by decide)
    omega
theorem or_bit {y k : Nat} (hy : y < 2 ^ 64) (hk : k < 64) : bits .or .u64 (y : Int) (IntKind.u64.wrap (2 ^ k)) = ((y ||| 2 ^ k : Nat) : Int) := by
  rw [wrap_pow hk, bits_or hy (Nat.pow_lt_pow_right (by omega) hk)]
/-- 'y &^ x' is nothing: every bit of y is one of x. -/
theorem andNot_zero {x y : Nat} (hx : x < 2 ^ 64) (hy : y < 2 ^ 64) : bits .andNot .u64 (y : Int) (x : Int) = 0 ↔ ∀ k, k < 64 → y.testBit k = true → x.testBit k = true := by
  have h3 : (BitVec.ofNat 64 y &&& ~~~(BitVec.ofNat 64 x)).toNat < 2 ^ 64 := BitVec.isLt _
  have e : bits .andNot .u64 (y : Int) (x : Int) = (((BitVec.ofNat 64 y &&& ~~~(BitVec.ofNat 64 x)).toNat : Nat) : Int) := by
    show IntKind.u64.wrap ((BitVec.ofInt 64 (y : Int) &&& ~~~(BitVec.ofInt 64 (x : Int))).toNat : Int) = _
    rw [ofIntU, ofIntU, wrapU _ h3]
  rw [e]
  constructor
  · intro h k hk hyk
    have h0 : BitVec.ofNat 64 y &&& ~~~(BitVec.ofNat 64 x) = 0#64 := by
      apply BitVec.eq_of_toNat_eq
      simpa using h
    have hb := congrArg (fun b => b.getLsbD k) h0
    simp [hk, hyk, ← BitVec.getLsbD_eq_getElem, BitVec.getLsbD_ofNat] at hb
    exact hb
  · intro h
    have h0 : BitVec.ofNat 64 y &&& ~~~(BitVec.ofNat 64 x) = 0#64 := by
      apply BitVec.eq_of_getLsbD_eq
      intro k hk
      have := h k hk
      simp [hk, ← BitVec.getLsbD_eq_getElem, BitVec.getLsbD_ofNat]
      exact this
    rw [h0]
    rfl
/-- 'x & (x - 1)' clears the lowest bit. -/
theorem low_bit {x : Nat} (h0 : x ≠ 0) (hx : x < 2 ^ 64) : Lib.ctz 64 x < 64 ∧ x.testBit (Lib.ctz 64 x) = true ∧ (∀ i, i < Lib.ctz 64 x → x.testBit i = false) ∧
    (∀ i, (x &&& (x - 1)).testBit i = (x.testBit i && i != Lib.ctz 64 x)) := by
  obtain ⟨m, hm, hk⟩ := Lib.ctzFrom_spec 64 x (by omega) hx
  have e : Lib.ctz 64 x = Lib.ctzFrom 64 x := by simp [Lib.ctz, h0]
  rw [e]
  generalize Lib.ctzFrom 64 x = k at *
  have hp : 0 < 2 ^ k := Nat.two_pow_pos k
  have e1 : x = 2 ^ (k + 1) * m + 2 ^ k := by rw [hm, Nat.pow_succ, Nat.mul_add, Nat.mul_one, Nat.mul_assoc]
  have e2 : x - 1 = 2 ^ (k + 1) * m + (2 ^ k - 1) := by omega
  have hlt : 2 ^ k < 2 ^ (k + 1) := by rw [Nat.pow_succ]; omega
  have t1 : ∀ i, x.testBit i = if i < k + 1 then (2 ^ k).testBit i else m.testBit (i - (k + 1)) := fun i => by rw [e1]; exact Nat.testBit_two_pow_mul_add m hlt i
  have t2 : ∀ i, (x - 1).testBit i = if i < k + 1 then (2 ^ k - 1).testBit i else m.testBit (i - (k + 1)) := fun i => by rw [e2]; exact Nat.testBit_two_pow_mul_add m (by omega) i
  refine ⟨hk, ?_, fun i hi => ?_, fun i => ?_⟩
  · rw [t1, if_pos (by omega), Nat.testBit_two_pow]; simp
  · rw [t1, if_pos (by omega), Nat.testBit_two_pow]; simp; omega
  · rw [Nat.testBit_and, t1, t2]
    by_cases h : i < k + 1
    · rw [if_pos h, if_pos h, Nat.testBit_two_pow, Nat.testBit_two_pow_sub_one]
      by_cases e : k = i
      · subst e; simp
      · simp [e]
    · rw [if_neg h, if_neg h]
      have : (i != k) = true := by simp; omega
      rw [this]; simp
theorem and_pred_lt {x : Nat} (h0 : x ≠ 0) : x &&& (x - 1) < x := Nat.lt_of_le_of_lt Nat.and_le_right (by omega)
end Go.Proofs.Qxb6613821aDoor
