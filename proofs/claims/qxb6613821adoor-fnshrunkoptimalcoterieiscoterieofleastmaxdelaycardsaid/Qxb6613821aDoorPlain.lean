/- The plain functions that the Go text computes. No Go text here. -/
import Derived.Test.Qxb6613821aDoorFloat
namespace Go.Proofs.Qxb6613821aDoor
set_option linter.unusedVariables false
set_option linter.unusedSimpArgs false

/-! ### optimalRadius -/
def meetF (D : Nat → Nat → Nat) (u v ex : Nat) : Nat → Nat → Nat → Nat
  | 0, _, m => m
  | k + 1, x, m => if flt ex m then meetF D u v ex k (x + 1) (fmin m (fmax (D u x) (D v x))) else m
def exactV (D : Nat → Nat → Nat) (n u : Nat) : Nat → Nat → Nat → Nat
  | 0, _, e => e
  | k + 1, v, e => exactV D n u k (v + 1) (fmax e (meetF D u v e n 0 (D u v)))
def exactU (D : Nat → Nat → Nat) (n : Nat) : Nat → Nat → Nat → Nat
  | 0, _, e => e
  | k + 1, u, e => exactU D n k (u + 1) (exactV D n u (n - (u + 1)) (u + 1) e)
def exact (D : Nat → Nat → Nat) (n : Nat) : Nat := exactU D n n 0 0
def rRow (D : Nat → Nat → Nat) (e i : Nat) : Nat → Nat → Nat → Nat
  | 0, _, r => r
  | k + 1, j, r => rRow D e i k (j + 1) (if flt (D i j) r && am e (D i j) then D i j else r)
def rAll (D : Nat → Nat → Nat) (n e : Nat) : Nat → Nat → Nat → Nat
  | 0, _, r => r
  | k + 1, i, r => rAll D n e k (i + 1) (rRow D e i n 0 r)
def radius (D : Nat → Nat → Nat) (n : Nat) : Nat := rAll D n (exact D n) n 0 (exact D n)

/-- All distances are finite and not below 0. -/
def NF (D : Nat → Nat → Nat) (n : Nat) : Prop := ∀ i j, i < n → j < n → nf (D i j) = true

theorem nf_zero : nf 0 = true := by decide +kernel
theorem nf_meetF {D : Nat → Nat → Nat} {n u v ex : Nat} (h : NF D n) (hu : u < n) (hv : v < n) : ∀ k x m, x + k ≤ n → nf m = true → nf (meetF D u v ex k x m) = true
  | 0, _, _, _, hm => hm
  | k + 1, x, m, hk, hm => by
    unfold meetF
    split
    · exact nf_meetF h hu hv k (x + 1) _ (by omega) (nf_fmin hm (nf_fmax (h u x hu (by omega)) (h v x hv (by omega))))
    · exact hm
theorem nf_exactV {D : Nat → Nat → Nat} {n u : Nat} (h : NF D n) (hu : u < n) : ∀ k v e, v + k ≤ n → nf e = true → nf (exactV D n u k v e) = true
  | 0, _, _, _, he => he
  | k + 1, v, e, hk, he => nf_exactV h hu k (v + 1) _ (by omega) (nf_fmax he (nf_meetF h hu (by omega) n 0 _ (by omega) (h u v hu (by omega))))
theorem nf_exactU {D : Nat → Nat → Nat} {n : Nat} (h : NF D n) : ∀ k u e, u + k ≤ n → nf e = true → nf (exactU D n k u e) = true
  | 0, _, _, _, he => he
  | k + 1, u, e, hk, he => nf_exactU h k (u + 1) _ (by omega) (nf_exactV h (by omega) _ _ _ (by omega) he)
theorem nf_exact {D : Nat → Nat → Nat} {n : Nat} (h : NF D n) : nf (exact D n) = true := nf_exactU h n 0 0 (by omega) nf_zero
theorem nf_rRow {D : Nat → Nat → Nat} {n e i : Nat} (h : NF D n) (hi : i < n) : ∀ k j r, j + k ≤ n → nf r = true → nf (rRow D e i k j r) = true
  | 0, _, _, _, hr => hr
  | k + 1, j, r, hk, hr => by
    unfold rRow
    refine nf_rRow h hi k (j + 1) _ (by omega) ?_
    split
    · exact h i j hi (by omega)
    · exact hr
theorem nf_rAll {D : Nat → Nat → Nat} {n e : Nat} (h : NF D n) : ∀ k i r, i + k ≤ n → nf r = true → nf (rAll D n e k i r) = true
  | 0, _, _, _, hr => hr
  | k + 1, i, r, hk, hr => nf_rAll h k (i + 1) _ (by omega) (nf_rRow h (by omega) n 0 r (by omega) hr)
theorem nf_radius {D : Nat → Nat → Nat} {n : Nat} (h : NF D n) : nf (radius D n) = true := nf_rAll h n 0 _ (by omega) (nf_exact h)

/-! ### ballsAt -/
/-- The members of node u's ball at radius r, in ascending order. -/
def ball (D : Nat → Nat → Nat) (n r u : Nat) : List Nat := (List.range n).filter fun x => am (D u x) r
def balls (D : Nat → Nat → Nat) (n r : Nat) : List (List Nat) := (List.range n).map (ball D n r)
end Go.Proofs.Qxb6613821aDoor
namespace Go.Proofs.Qxb6613821aDoor
/-- The balls as they stand when node u's is gathered up to x. -/
def bl (D : Nat → Nat → Nat) (n r u x : Nat) : List (List Nat) := (List.range n).map fun i => if i < u then ball D n r i else if i = u then (List.range x).filter (fun y => am (D i y) r) else []
theorem bl_start (D : Nat → Nat → Nat) (n r : Nat) : bl D n r 0 0 = List.replicate n [] := by
  unfold bl
  apply List.ext_getElem?
  intro i
  by_cases h : i < n
  · simp [h]
  · simp [h]
theorem bl_next (D : Nat → Nat → Nat) (n r u : Nat) : bl D n r u n = bl D n r (u + 1) 0 := by
  unfold bl
  apply List.map_congr_left
  intro i _
  by_cases h : i < u
  · rw [if_pos h, if_pos (by omega)]
  · rw [if_neg h]
    by_cases e : i = u
    · rw [if_pos e, if_pos (by omega)]; rfl
    · rw [if_neg e, if_neg (by omega)]
      split <;> simp
theorem bl_end (D : Nat → Nat → Nat) (n r : Nat) : bl D n r n 0 = balls D n r := by
  unfold bl balls
  apply List.map_congr_left
  intro i hi
  rw [if_pos (by simpa using hi)]
theorem bl_at (D : Nat → Nat → Nat) (n r u x : Nat) (h : u < n) : (bl D n r u x)[u]? = some ((List.range x).filter fun y => am (D u y) r) := by
  unfold bl; simp [h]
theorem bl_no (D : Nat → Nat → Nat) (n r u x : Nat) (h : am (D u x) r = false) : bl D n r u (x + 1) = bl D n r u x := by
  unfold bl
  apply List.map_congr_left
  intro i _
  by_cases e : i = u
  · subst e; simp [List.range_succ, h]
  · simp [e]
theorem bl_yes (D : Nat → Nat → Nat) (n r u x : Nat) (hu : u < n) (h : am (D u x) r = true) : bl D n r u (x + 1) = (bl D n r u x).set u (((List.range x).filter fun y => am (D u y) r) ++ [x]) := by
  unfold bl
  apply List.ext_getElem?
  intro i
  by_cases e : i = u
  · subst e; simp [List.range_succ, h, hu]
  · rw [List.getElem?_set_ne (fun x => e x.symm)]
    by_cases hi : i < n
    · simp [e, hi]
    · simp [hi]
theorem bl_length (D : Nat → Nat → Nat) (n r u x : Nat) : (bl D n r u x).length = n := by simp [bl]
end Go.Proofs.Qxb6613821aDoor
