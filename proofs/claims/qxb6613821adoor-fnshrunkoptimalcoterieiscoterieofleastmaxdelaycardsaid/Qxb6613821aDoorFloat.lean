/- Floats that are finite and not below 0, as natural numbers: 'q x' is the value in units of 2 to the minus 1074. No Go text here. -/
import Derived.Laws.FloatArith
namespace Go.Proofs.Qxb6613821aDoor
set_option linter.unusedVariables false
set_option linter.unusedSimpArgs false
open Ieee

/-- Finite and not below 0 (both zeros among them). -/
def nfD : Datum → Bool
  | .number s m _ => !s || m == 0
  | _ => false
def nf (x : Nat) : Bool := decide (x < 2 ^ 64) && nfD (double.read x)

/-- The value, in units of the least subnormal number. -/
def q (x : Nat) : Nat := match double.read x with
  | .number _ m e => m * 2 ^ (e + 1074).toNat
  | _ => 0

theorem nf_read {x : Nat} (h : nf x = true) : ∃ s m e, double.read x = .number s m e ∧ (s = true → m = 0) ∧ -1074 ≤ e := by
  simp only [nf, Bool.and_eq_true] at h
  have h := h.2
  have hlp : double.leastPlace = -1074 := by decide
  have hp : ∀ s m e, double.read x = .number s m e → -1074 ≤ e := by
    intro s m e hr
    unfold Format.read at hr
    simp only [hlp] at hr
    split at hr
    · cases hr; omega
    split at hr
    · cases hr; omega
    split at hr <;> cases hr
  cases hr : double.read x with
  | nan s t => rw [hr] at h; simp [nfD] at h
  | infinity s => rw [hr] at h; simp [nfD] at h
  | number s m e =>
    rw [hr] at h
    refine ⟨s, m, e, rfl, ?_, hp s m e hr⟩
    intro hs; subst hs; simpa [nfD] using h

theorem nf_lt {x : Nat} (h : nf x = true) : x < 2 ^ 64 := by
  simp only [nf, Bool.and_eq_true, decide_eq_true_eq] at h
  exact h.1

theorem signed_pos (m k : Nat) : signed false m k = ((m * 2 ^ k : Nat) : Int) := by
  unfold signed; simp [Nat.shiftLeft_eq]
theorem signed_zero (s : Bool) (k : Nat) : signed s 0 k = 0 := by unfold signed; cases s <;> simp

theorem signed_q {s : Bool} {m : Nat} (h : s = true → m = 0) (k : Nat) : signed s m k = ((m * 2 ^ k : Nat) : Int) := by
  cases s with
  | false => exact signed_pos m k
  | true => rw [h rfl, signed_zero]; simp

theorem compare_scale (a b c : Nat) (hc : 0 < c) : compare (a : Int) (b : Int) = compare (a * c) (b * c) := by
  rcases Nat.lt_trichotomy a b with h | h | h
  · rw [Int.compare_eq_lt.2 (by omega), Nat.compare_eq_lt.2 (Nat.mul_lt_mul_of_pos_right h hc)]
  · subst h; simp
  · rw [Int.compare_eq_gt.2 (by omega), Nat.compare_eq_gt.2 (Nat.mul_lt_mul_of_pos_right h hc)]

theorem order_q {x y : Nat} (hx : nf x = true) (hy : nf y = true) : double.order x y = some (compare (q x) (q y)) := by
  obtain ⟨s, m, i, hr, hs, hi⟩ := nf_read hx
  obtain ⟨t, n, j, ht, hst, hj⟩ := nf_read hy
  unfold Format.order q
  rw [hr, ht]
  simp only [Datum.order]
  rw [signed_q hs, signed_q hst, compare_scale _ _ (2 ^ (min i j + 1074).toNat) (Nat.two_pow_pos _)]
  have e1 : m * 2 ^ (i - min i j).toNat * 2 ^ (min i j + 1074).toNat = m * 2 ^ (i + 1074).toNat := by
    rw [Nat.mul_assoc, ← Nat.pow_add]; congr 2; omega
  have e2 : n * 2 ^ (j - min i j).toNat * 2 ^ (min i j + 1074).toNat = n * 2 ^ (j + 1074).toNat := by
    rw [Nat.mul_assoc, ← Nat.pow_add]; congr 2; omega
  rw [e1, e2]

/-- The builtins max and min of two floats. -/
def fmax (x y : Nat) : Nat := match double.order x y with
  | some .lt => y
  | some .gt => x
  | some .eq => if (double.read x).neg then y else x
  | none => 0
def fmin (x y : Nat) : Nat := match double.order x y with
  | some .lt => x
  | some .gt => y
  | some .eq => if (double.read x).neg then x else y
  | none => 0

theorem fmax_or (x y : Nat) (hx : nf x = true) (hy : nf y = true) : (fmax x y = x ∧ q y ≤ q x) ∨ (fmax x y = y ∧ q x ≤ q y) := by
  unfold fmax
  rw [order_q hx hy]
  rcases Nat.lt_trichotomy (q x) (q y) with h | h | h
  · rw [Nat.compare_eq_lt.2 h]; exact Or.inr ⟨rfl, by omega⟩
  · rw [Nat.compare_eq_eq.2 h]
    simp only
    split
    · exact Or.inr ⟨rfl, by omega⟩
    · exact Or.inl ⟨rfl, by omega⟩
  · rw [Nat.compare_eq_gt.2 h]; exact Or.inl ⟨rfl, by omega⟩
theorem fmin_or (x y : Nat) (hx : nf x = true) (hy : nf y = true) : (fmin x y = x ∧ q x ≤ q y) ∨ (fmin x y = y ∧ q y ≤ q x) := by
  unfold fmin
  rw [order_q hx hy]
  rcases Nat.lt_trichotomy (q x) (q y) with h | h | h
  · rw [Nat.compare_eq_lt.2 h]; exact Or.inl ⟨rfl, by omega⟩
  · rw [Nat.compare_eq_eq.2 h]
    simp only
    split
    · exact Or.inl ⟨rfl, by omega⟩
    · exact Or.inr ⟨rfl, by omega⟩
  · rw [Nat.compare_eq_gt.2 h]; exact Or.inr ⟨rfl, by omega⟩
theorem nf_fmax {x y : Nat} (hx : nf x = true) (hy : nf y = true) : nf (fmax x y) = true := by
  rcases fmax_or x y hx hy with ⟨h, _⟩ | ⟨h, _⟩ <;> rw [h] <;> assumption
theorem nf_fmin {x y : Nat} (hx : nf x = true) (hy : nf y = true) : nf (fmin x y) = true := by
  rcases fmin_or x y hx hy with ⟨h, _⟩ | ⟨h, _⟩ <;> rw [h] <;> assumption
theorem q_fmax {x y : Nat} (hx : nf x = true) (hy : nf y = true) : q (fmax x y) = max (q x) (q y) := by
  rcases fmax_or x y hx hy with ⟨h, k⟩ | ⟨h, k⟩ <;> rw [h] <;> omega
theorem q_fmin {x y : Nat} (hx : nf x = true) (hy : nf y = true) : q (fmin x y) = min (q x) (q y) := by
  rcases fmin_or x y hx hy with ⟨h, k⟩ | ⟨h, k⟩ <;> rw [h] <;> omega

/-- 'x < y', 'x <= y' on floats. -/
def flt (x y : Nat) : Bool := double.order x y == some .lt
def fle (x y : Nat) : Bool := double.order x y == some .lt || double.order x y == some .eq
theorem flt_q {x y : Nat} (hx : nf x = true) (hy : nf y = true) : flt x y = decide (q x < q y) := by
  unfold flt
  rw [order_q hx hy]
  rcases Nat.lt_trichotomy (q x) (q y) with h | h | h
  · rw [Nat.compare_eq_lt.2 h]; simp [h]
  · rw [Nat.compare_eq_eq.2 h]; simp [h]
  · rw [Nat.compare_eq_gt.2 h]; simp; omega
theorem fle_q {x y : Nat} (hx : nf x = true) (hy : nf y = true) : fle x y = decide (q x ≤ q y) := by
  unfold fle
  rw [order_q hx hy]
  rcases Nat.lt_trichotomy (q x) (q y) with h | h | h
  · rw [Nat.compare_eq_lt.2 h]; simp; omega
  · rw [Nat.compare_eq_eq.2 h]; simp; omega
  · rw [Nat.compare_eq_gt.2 h]; simp; omega
theorem order_gt {x y : Nat} (hx : nf x = true) (hy : nf y = true) : (double.order x y == some .gt) = flt y x := by
  rw [flt_q hy hx, order_q hx hy]
  rcases Nat.lt_trichotomy (q x) (q y) with h | h | h
  · rw [Nat.compare_eq_lt.2 h]; simp; omega
  · rw [Nat.compare_eq_eq.2 h]; simp; omega
  · rw [Nat.compare_eq_gt.2 h]; simp; omega

section
variable {P : Program} (w : World)
theorem run_max_f (ts : Array TypeId) (t : TypeId) (x y : Nat) (hx : nf x = true) (hy : nf y = true) : (Builtin.max_ ts t #[.float .f64 x, .float .f64 y]).run P w = .ok (.float .f64 (fmax x y)) w := by
  have h : FloatKind.f64.format.order x y = some (compare (q x) (q y)) := order_q hx hy
  have h' := order_q hx hy
  unfold fmax
  rw [h']
  rcases Nat.lt_trichotomy (q x) (q y) with k | k | k
  · rw [Nat.compare_eq_lt.2 k] at *; simp [Builtin.max_, Builtin.max2, h]
  · rw [Nat.compare_eq_eq.2 k] at *; simp [Builtin.max_, Builtin.max2, h', FloatKind.decode, FloatKind.format]; rfl
  · rw [Nat.compare_eq_gt.2 k] at *; simp [Builtin.max_, Builtin.max2, h]
theorem run_min_f (ts : Array TypeId) (t : TypeId) (x y : Nat) (hx : nf x = true) (hy : nf y = true) : (Builtin.min_ ts t #[.float .f64 x, .float .f64 y]).run P w = .ok (.float .f64 (fmin x y)) w := by
  have h : FloatKind.f64.format.order x y = some (compare (q x) (q y)) := order_q hx hy
  have h' := order_q hx hy
  unfold fmin
  rw [h']
  rcases Nat.lt_trichotomy (q x) (q y) with k | k | k
  · rw [Nat.compare_eq_lt.2 k] at *; simp [Builtin.min_, Builtin.min2, h]
  · rw [Nat.compare_eq_eq.2 k] at *; simp [Builtin.min_, Builtin.min2, h', FloatKind.decode, FloatKind.format]; rfl
  · rw [Nat.compare_eq_gt.2 k] at *; simp [Builtin.min_, Builtin.min2, h]
theorem run_max_f3 (ts : Array TypeId) (t : TypeId) (x y z : Nat) (hx : nf x = true) (hy : nf y = true) (hz : nf z = true) : (Builtin.max_ ts t #[.float .f64 x, .float .f64 y, .float .f64 z]).run P w = .ok (.float .f64 (fmax (fmax x y) z)) w := by
  have h1 := run_max_f (P := P) w ts t x y hx hy
  have h2 := run_max_f (P := P) w ts t (fmax x y) z (nf_fmax hx hy) hz
  simp only [Builtin.max_, List.foldlM_cons, List.foldlM_nil] at h1 h2 ⊢
  simp only [Sem.run_bind, bind_pure] at h1 h2 ⊢
  rw [h1]
  simp only [Result.andThen]
  exact h2
end

/-! ### Absolute value, difference, product; atMost -/
def absB (x : Nat) : Nat := x % 2 ^ 63
theorem read_abs {x : Nat} (hx : nf x = true) : ∃ m e, double.read (absB x) = .number false m e ∧ q x = m * 2 ^ (e + 1074).toNat ∧ -1074 ≤ e := by
  obtain ⟨s, m, e, hr, hs, he⟩ := nf_read hx
  have hw : double.signWeight = 2 ^ 63 := rfl
  have h1 : absB x / 2 ^ 63 % 2 = 0 := by unfold absB; omega
  have h2 : absB x % 2 ^ 63 = x % 2 ^ 63 := by unfold absB; omega
  have hq : q x = m * 2 ^ (e + 1074).toNat := by unfold q; rw [hr]
  refine ⟨m, e, ?_, hq, he⟩
  unfold Format.read at hr ⊢
  simp only [hw] at hr ⊢
  rw [h1, h2]
  split at hr
  · rename_i h; rw [if_pos h]; cases hr; rfl
  split at hr
  · rename_i h h'; rw [if_neg h, if_pos h']; cases hr; rfl
  split at hr <;> cases hr
theorem nf_abs {x : Nat} (hx : nf x = true) : nf (absB x) = true := by
  obtain ⟨m, e, hr, _, _⟩ := read_abs hx
  unfold nf
  rw [hr]
  have : absB x < 2 ^ 64 := by unfold absB; omega
  simp [nfD]; exact this
theorem q_abs {x : Nat} (hx : nf x = true) : q (absB x) = q x := by
  obtain ⟨m, e, hr, hq, _⟩ := read_abs hx
  rw [hq]; unfold q; rw [hr]

def fsub (x y : Nat) : Nat := (double.sub x y).getD 0
def fmul (x y : Nat) : Nat := (double.mul x y).getD 0
theorem sub_some {x y : Nat} (hx : nf x = true) (hy : nf y = true) : double.sub x y = some (fsub x y) := by
  obtain ⟨s, m, i, hr, _, _⟩ := nf_read hx
  obtain ⟨t, n, j, ht, _, _⟩ := nf_read hy
  have : ∃ r, double.sub x y = some r := by
    unfold Format.sub; rw [hr, ht]; exact ⟨_, rfl⟩
  obtain ⟨r, h⟩ := this
  unfold fsub; rw [h]; rfl
theorem mul_some {x y : Nat} (hx : nf x = true) (hy : nf y = true) : double.mul x y = some (fmul x y) := by
  obtain ⟨s, m, i, hr, _, _⟩ := nf_read hx
  obtain ⟨t, n, j, ht, _, _⟩ := nf_read hy
  have : ∃ r, double.mul x y = some r := by
    unfold Format.mul; rw [hr, ht]; exact ⟨_, rfl⟩
  obtain ⟨r, h⟩ := this
  unfold fmul; rw [h]; rfl

/-- The float 1. -/
def one : Nat := 4607182418800017408
/-- The float 1e-9. -/
def eps : Nat := 4472406533629990549
theorem nf_one : nf one = true := by decide +kernel
theorem nf_eps : nf eps = true := by decide +kernel

/-- What atMost says of two distances. -/
def am (a b : Nat) : Bool := fle a b || fle (fsub a b) (fmul eps (fmax (fmax one (absB a)) (absB b)))
end Go.Proofs.Qxb6613821aDoor
