/- Doubling every distance leaves the quorums as they are, if it leaves 'am' as it is: plain. -/
import Derived.Test.Qxb6613821aDoorWf
namespace Go.Proofs.Qxb6613821aDoor
set_option linter.unusedVariables false
set_option linter.unusedSimpArgs false
open Ieee Go.RowKit

/-- The second is twice the first; the first is 0 or at least u. -/
structure Tw (u x y : Nat) : Prop where
  nx : nf x = true
  ny : nf y = true
  two : q y = 2 * q x
  unit : q x = 0 ∨ u ≤ q x
def TwAm (u : Nat) : Prop := ∀ a b a2 b2, Tw u a a2 → Tw u b b2 → am a2 b2 = am a b
section
variable {u : Nat}
theorem q_zero : q 0 = 0 := by decide +kernel
theorem Tw.zero (u : Nat) : Tw u 0 0 := ⟨nf_zero, nf_zero, by rw [q_zero], Or.inl q_zero⟩
theorem Tw.flt {a b a2 b2 : Nat} (ha : Tw u a a2) (hb : Tw u b b2) : flt a2 b2 = flt a b := by
  rw [flt_q ha.ny hb.ny, flt_q ha.nx hb.nx, ha.two, hb.two]
  congr 1
  exact propext ⟨fun h => by omega, fun h => by omega⟩
theorem Tw.max {a b a2 b2 : Nat} (ha : Tw u a a2) (hb : Tw u b b2) : Tw u (fmax a b) (fmax a2 b2) := by
  refine ⟨nf_fmax ha.nx hb.nx, nf_fmax ha.ny hb.ny, ?_, ?_⟩
  · rw [q_fmax ha.ny hb.ny, q_fmax ha.nx hb.nx, ha.two, hb.two]; omega
  · rw [q_fmax ha.nx hb.nx]
    have := ha.unit
    have := hb.unit
    omega
theorem Tw.min {a b a2 b2 : Nat} (ha : Tw u a a2) (hb : Tw u b b2) : Tw u (fmin a b) (fmin a2 b2) := by
  refine ⟨nf_fmin ha.nx hb.nx, nf_fmin ha.ny hb.ny, ?_, ?_⟩
  · rw [q_fmin ha.ny hb.ny, q_fmin ha.nx hb.nx, ha.two, hb.two]; omega
  · rw [q_fmin ha.nx hb.nx]
    have := ha.unit
    have := hb.unit
    omega
variable {D D2 : Nat → Nat → Nat} {n : Nat}
def TwD (u : Nat) (D D2 : Nat → Nat → Nat) (n : Nat) : Prop := ∀ i j, i < n → j < n → Tw u (D i j) (D2 i j)
theorem meetF_tw (h : TwD u D D2 n) {a v ex ex2 : Nat} (ha : a < n) (hv : v < n) (he : Tw u ex ex2) : ∀ k x m m2, x + k ≤ n → Tw u m m2 → Tw u (meetF D a v ex k x m) (meetF D2 a v ex2 k x m2)
  | 0, _, _, _, _, hm => hm
  | k + 1, x, m, m2, hk, hm => by
    unfold meetF
    rw [he.flt hm]
    split
    · exact meetF_tw h ha hv he k (x + 1) _ _ (by omega) (hm.min ((h a x ha (by omega)).max (h v x hv (by omega))))
    · exact hm
theorem exactV_tw (h : TwD u D D2 n) {a : Nat} (ha : a < n) : ∀ k v e e2, v + k ≤ n → Tw u e e2 → Tw u (exactV D n a k v e) (exactV D2 n a k v e2)
  | 0, _, _, _, _, he => he
  | k + 1, v, e, e2, hk, he => exactV_tw h ha k (v + 1) _ _ (by omega) (he.max (meetF_tw h ha (by omega) he n 0 _ _ (by omega) (h a v ha (by omega))))
theorem exactU_tw (h : TwD u D D2 n) : ∀ k a e e2, a + k ≤ n → Tw u e e2 → Tw u (exactU D n k a e) (exactU D2 n k a e2)
  | 0, _, _, _, _, he => he
  | k + 1, a, e, e2, hk, he => exactU_tw h k (a + 1) _ _ (by omega) (exactV_tw h (by omega) _ _ _ _ (by omega) he)
theorem exact_tw (h : TwD u D D2 n) : Tw u (exact D n) (exact D2 n) := exactU_tw h n 0 0 0 (by omega) (Tw.zero u)
theorem rRow_tw (hA : TwAm u) (h : TwD u D D2 n) {e e2 i : Nat} (he : Tw u e e2) (hi : i < n) : ∀ k j r r2, j + k ≤ n → Tw u r r2 → Tw u (rRow D e i k j r) (rRow D2 e2 i k j r2)
  | 0, _, _, _, _, hr => hr
  | k + 1, j, r, r2, hk, hr => by
    unfold rRow
    have hd := h i j hi (by omega)
    rw [hd.flt hr, hA _ _ _ _ he hd]
    refine rRow_tw hA h he hi k (j + 1) _ _ (by omega) ?_
    split
    · exact hd
    · exact hr
theorem rAll_tw (hA : TwAm u) (h : TwD u D D2 n) {e e2 : Nat} (he : Tw u e e2) : ∀ k i r r2, i + k ≤ n → Tw u r r2 → Tw u (rAll D n e k i r) (rAll D2 n e2 k i r2)
  | 0, _, _, _, _, hr => hr
  | k + 1, i, r, r2, hk, hr => rAll_tw hA h he k (i + 1) _ _ (by omega) (rRow_tw hA h he (by omega) n 0 _ _ (by omega) hr)
theorem radius_tw (hA : TwAm u) (h : TwD u D D2 n) : Tw u (radius D n) (radius D2 n) := rAll_tw hA h (exact_tw h) n 0 _ _ (by omega) (exact_tw h)
theorem balls_tw (hA : TwAm u) (h : TwD u D D2 n) : balls D2 n (radius D2 n) = balls D n (radius D n) := by
  unfold balls
  apply List.map_congr_left
  intro a ha
  have ha' : a < n := by simpa using ha
  unfold ball
  apply List.filter_congr
  intro x hx
  exact hA _ _ _ _ (h a x ha' (by simpa using hx)) (radius_tw hA h)
theorem Dc_tw (h : TwD u D D2 n) (i j : Nat) : Tw u (Dc D n i j) (Dc D2 n i j) := by
  unfold Dc
  by_cases hh : i < n ∧ j < n
  · rw [if_pos hh, if_pos hh]; exact h i j hh.1 hh.2
  · rw [if_neg hh, if_neg hh]; exact Tw.zero u
theorem ltP_tw (h : TwD u D D2 n) : ltP (Dc D2 n) = ltP (Dc D n) := by
  funext x y
  unfold ltP
  rw [(Dc_tw h y.1 y.2).two, (Dc_tw h x.1 x.2).two]
  congr 1
  exact propext ⟨fun h => by omega, fun h => by omega⟩
theorem sortP_tw (h : TwD u D D2 n) (a : Array (Nat × Nat)) : sortP (Dc D2 n) a = sortP (Dc D n) a := by
  unfold sortP; rw [ltP_tw h]
theorem prs_tw (hA : TwAm u) (h : TwD u D D2 n) (PS : List (Nat × Nat)) : prsOf (Dc D2 n) n PS = prsOf (Dc D n) n PS := by
  unfold prsOf
  rw [sortP_tw h]
  congr 1
  funext a b
  exact hA _ _ _ _ (Dc_tw h _ _) (Dc_tw h _ _)
theorem quorums_tw (hA : TwAm u) (h : TwD u D D2 n) : quorums D2 n = quorums D n := by
  have e : leftB D2 n = leftB D n := by
    unfold leftB
    rw [balls_tw hA h]
    have : shrunk D2 n (flat (balls D n (radius D n)) n 0) = shrunk D n (flat (balls D n (radius D n)) n 0) := by
      unfold shrunk
      rw [prs_tw hA h]
    rw [this]
  unfold quorums
  rw [e]
end
end Go.Proofs.Qxb6613821aDoor
