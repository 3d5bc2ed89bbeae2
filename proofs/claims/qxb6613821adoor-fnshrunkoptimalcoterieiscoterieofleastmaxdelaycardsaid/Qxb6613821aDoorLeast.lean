/- The least max-delay and the max-delay: plain. No Go text here. -/
import Derived.Test.Qxb6613821aDoorPlain
import Derived.Test.Qxb6613821aDoorTol
namespace Go.Proofs.Qxb6613821aDoor
set_option linter.unusedVariables false
set_option linter.unusedSimpArgs false

/-- At E the balls of every two nodes share a node. -/
def Upper (D : Nat → Nat → Nat) (n E : Nat) : Prop := ∀ u v, u < v → v < n → ∃ w, w < n ∧ q (D u w) ≤ E ∧ q (D v w) ≤ E

/-! ### optimalRadius -/
theorem meetF_att {D : Nat → Nat → Nat} {n u v ex : Nat} (h : NF D n) (hu : u < n) (hv : v < n) : ∀ k x m, x + k ≤ n → nf m = true → (∃ w, w < n ∧ q (D u w) ≤ q m ∧ q (D v w) ≤ q m) →
    ∃ w, w < n ∧ q (D u w) ≤ q (meetF D u v ex k x m) ∧ q (D v w) ≤ q (meetF D u v ex k x m)
  | 0, _, _, _, _, hw => hw
  | k + 1, x, m, hk, hm, hw => by
    unfold meetF
    split
    · have n1 := h u x hu (by omega)
      have n2 := h v x hv (by omega)
      refine meetF_att h hu hv k (x + 1) _ (by omega) (nf_fmin hm (nf_fmax n1 n2)) ?_
      rcases fmin_or m (fmax (D u x) (D v x)) hm (nf_fmax n1 n2) with ⟨e, _⟩ | ⟨e, _⟩
      · rw [e]; exact hw
      · rw [e, q_fmax n1 n2]
        exact ⟨x, by omega, by omega, by omega⟩
    · exact hw
theorem meetF_low {D : Nat → Nat → Nat} {n u v ex T w0 : Nat} (h : NF D n) (hu : u < n) (hv : v < n) (hex : nf ex = true) (hT : q ex ≤ T) (h1 : q (D u w0) ≤ T) (h2 : q (D v w0) ≤ T) : ∀ k x m, x + k ≤ n → nf m = true → (q m ≤ T ∨ x ≤ w0 ∧ w0 < x + k) → q (meetF D u v ex k x m) ≤ T
  | 0, _, _, _, _, hw => by unfold meetF; omega
  | k + 1, x, m, hk, hm, hw => by
    unfold meetF
    cases hf : flt ex m with
    | true =>
      rw [if_pos rfl]
      have n1 := h u x hu (by omega)
      have n2 := h v x hv (by omega)
      refine meetF_low h hu hv hex hT h1 h2 k (x + 1) _ (by omega) (nf_fmin hm (nf_fmax n1 n2)) ?_
      rw [q_fmin hm (nf_fmax n1 n2), q_fmax n1 n2]
      by_cases e : w0 = x
      · subst e; omega
      · omega
    | false =>
      rw [if_neg (by decide)]
      rw [flt_q hex hm, decide_eq_false_iff_not] at hf
      omega
theorem exactV_up {D : Nat → Nat → Nat} {n u : Nat} (h : NF D n) (hz : ∀ a, a < n → q (D a a) = 0) (hs : ∀ a b, a < n → b < n → q (D a b) = q (D b a)) (hu : u < n) : ∀ k v e, v + k ≤ n → nf e = true →
    q e ≤ q (exactV D n u k v e) ∧ ∀ x, v ≤ x → x < v + k → ∃ w, w < n ∧ q (D u w) ≤ q (exactV D n u k v e) ∧ q (D x w) ≤ q (exactV D n u k v e)
  | 0, _, _, _, _ => ⟨Nat.le_refl _, fun x h1 h2 => absurd h2 (by omega)⟩
  | k + 1, v, e, hk, he => by
    have n1 := nf_meetF (ex := e) h hu (by omega : v < n) n 0 (D u v) (by omega) (h u v hu (by omega))
    obtain ⟨a1, a2⟩ := exactV_up h hz hs hu k (v + 1) (fmax e (meetF D u v e n 0 (D u v))) (by omega) (nf_fmax he n1)
    rw [q_fmax he n1] at a1
    unfold exactV
    refine ⟨by omega, fun x h1 h2 => ?_⟩
    by_cases ex : x = v
    · subst ex
      obtain ⟨w, w1, w2, w3⟩ := meetF_att (ex := e) h hu (by omega : x < n) n 0 (D u x) (by omega) (h u x hu (by omega)) ⟨u, hu, by rw [hz u hu]; omega, by rw [hs x u (by omega) hu]; omega⟩
      exact ⟨w, w1, by omega, by omega⟩
    · exact a2 x (by omega) (by omega)
theorem exactU_up {D : Nat → Nat → Nat} {n : Nat} (h : NF D n) (hz : ∀ a, a < n → q (D a a) = 0) (hs : ∀ a b, a < n → b < n → q (D a b) = q (D b a)) : ∀ k u e, u + k ≤ n → nf e = true →
    q e ≤ q (exactU D n k u e) ∧ ∀ x y, u ≤ x → x < u + k → x < y → y < n → ∃ w, w < n ∧ q (D x w) ≤ q (exactU D n k u e) ∧ q (D y w) ≤ q (exactU D n k u e)
  | 0, _, _, _, _ => ⟨Nat.le_refl _, fun x y h1 h2 => absurd h2 (by omega)⟩
  | k + 1, u, e, hk, he => by
    have n1 := nf_exactV h (by omega : u < n) (n - (u + 1)) (u + 1) e (by omega) he
    obtain ⟨b1, b2⟩ := exactV_up h hz hs (by omega : u < n) (n - (u + 1)) (u + 1) e (by omega) he
    obtain ⟨a1, a2⟩ := exactU_up h hz hs k (u + 1) _ (by omega) n1
    unfold exactU
    refine ⟨by omega, fun x y h1 h2 h3 h4 => ?_⟩
    by_cases ex : x = u
    · subst ex
      obtain ⟨w, w1, w2, w3⟩ := b2 y (by omega) (by omega)
      exact ⟨w, w1, by omega, by omega⟩
    · exact a2 x y (by omega) (by omega) h3 h4
theorem exact_upper {D : Nat → Nat → Nat} {n : Nat} (h : NF D n) (hz : ∀ a, a < n → q (D a a) = 0) (hs : ∀ a b, a < n → b < n → q (D a b) = q (D b a)) : Upper D n (q (exact D n)) := fun u v h1 h2 =>
  (exactU_up h hz hs n 0 0 (by omega) nf_zero).2 u v (by omega) (by omega) h1 h2
theorem exactV_low {D : Nat → Nat → Nat} {n u T : Nat} (h : NF D n) (hu : u < n) (hT : Upper D n T) : ∀ k v e, u < v → v + k ≤ n → nf e = true → q e ≤ T → q (exactV D n u k v e) ≤ T
  | 0, _, _, _, _, _, he => he
  | k + 1, v, e, huv, hk, hn, he => by
    have n1 := nf_meetF (ex := e) h hu (by omega : v < n) n 0 (D u v) (by omega) (h u v hu (by omega))
    obtain ⟨w, w1, w2, w3⟩ := hT u v huv (by omega)
    have := meetF_low h hu (by omega : v < n) hn he w2 w3 n 0 (D u v) (by omega) (h u v hu (by omega)) (Or.inr ⟨by omega, by omega⟩)
    unfold exactV
    exact exactV_low h hu hT k (v + 1) _ (by omega) (by omega) (nf_fmax hn n1) (by rw [q_fmax hn n1]; omega)
theorem exactU_low {D : Nat → Nat → Nat} {n T : Nat} (h : NF D n) (hT : Upper D n T) : ∀ k u e, u + k ≤ n → nf e = true → q e ≤ T → q (exactU D n k u e) ≤ T
  | 0, _, _, _, _, he => he
  | k + 1, u, e, hk, hn, he => by
    unfold exactU
    exact exactU_low h hT k (u + 1) _ (by omega) (nf_exactV h (by omega) _ _ _ (by omega) hn) (exactV_low h (by omega) hT _ _ _ (by omega) (by omega) hn he)
theorem q_zero' : q 0 = 0 := by decide +kernel
theorem exact_lower {D : Nat → Nat → Nat} {n T : Nat} (h : NF D n) (hT : Upper D n T) : q (exact D n) ≤ T := exactU_low h hT n 0 0 (by omega) nf_zero (by rw [q_zero']; omega)
theorem am_self {e : Nat} (h : nf e = true) : am e e = true := by unfold am; rw [fle_q h h, decide_eq_true (Nat.le_refl _)]; rfl
theorem rRow_ok {D : Nat → Nat → Nat} {n e i : Nat} (h : NF D n) (he : nf e = true) (hi : i < n) : ∀ k j r, j + k ≤ n → nf r = true → q r ≤ q e → am e r = true → q (rRow D e i k j r) ≤ q e ∧ am e (rRow D e i k j r) = true
  | 0, _, _, _, _, h1, h2 => ⟨h1, h2⟩
  | k + 1, j, r, hk, hn, h1, h2 => by
    have nd := h i j hi (by omega)
    unfold rRow
    cases hc : (flt (D i j) r && am e (D i j)) with
    | false => rw [if_neg (by decide)]; exact rRow_ok h he hi k (j + 1) r (by omega) hn h1 h2
    | true =>
      rw [if_pos rfl]
      rw [Bool.and_eq_true, flt_q nd hn, decide_eq_true_eq] at hc
      exact rRow_ok h he hi k (j + 1) (D i j) (by omega) nd (by omega) hc.2
theorem rAll_ok {D : Nat → Nat → Nat} {n e : Nat} (h : NF D n) (he : nf e = true) : ∀ k i r, i + k ≤ n → nf r = true → q r ≤ q e → am e r = true → q (rAll D n e k i r) ≤ q e ∧ am e (rAll D n e k i r) = true
  | 0, _, _, _, _, h1, h2 => ⟨h1, h2⟩
  | k + 1, i, r, hk, hn, h1, h2 => by
    obtain ⟨a1, a2⟩ := rRow_ok h he (by omega : i < n) n 0 r (by omega) hn h1 h2
    unfold rAll
    exact rAll_ok h he k (i + 1) _ (by omega) (nf_rRow h (by omega) n 0 r (by omega) hn) a1 a2
theorem radius_ok {D : Nat → Nat → Nat} {n : Nat} (h : NF D n) : q (radius D n) ≤ q (exact D n) ∧ am (exact D n) (radius D n) = true :=
  rAll_ok h (nf_exact h) n 0 _ (by omega) (nf_exact h) (Nat.le_refl _) (am_self (nf_exact h))

/-! ### zzLeastMaxDelay -/
def fM (a b : Nat) : Nat := if flt a b then b else a
theorem nf_fM {a b : Nat} (ha : nf a = true) (hb : nf b = true) : nf (fM a b) = true := by unfold fM; split <;> assumption
theorem q_fM {a b : Nat} (ha : nf a = true) (hb : nf b = true) : q (fM a b) = max (q a) (q b) := by
  unfold fM
  cases h : flt a b with
  | true => rw [if_pos rfl]; rw [flt_q ha hb, decide_eq_true_eq] at h; omega
  | false => rw [if_neg (by decide)]; rw [flt_q ha hb, decide_eq_false_iff_not] at h; omega
def mtTo (D : Nat → Nat → Nat) (u v : Nat) : Nat → Nat
  | 0 => 0
  | x + 1 => if decide (x = 0) || flt (fM (D u x) (D v x)) (mtTo D u v x) then fM (D u x) (D v x) else mtTo D u v x
def lV (D : Nat → Nat → Nat) (n u e : Nat) : Nat → Nat
  | 0 => e
  | k + 1 => fM (lV D n u e k) (mtTo D u (u + 1 + k) n)
def lU (D : Nat → Nat → Nat) (n : Nat) : Nat → Nat
  | 0 => 0
  | u + 1 => lV D n u (lU D n u) (n - (u + 1))
def lmd (D : Nat → Nat → Nat) (n : Nat) : Nat := lU D n n
theorem nf_mtTo {D : Nat → Nat → Nat} {n u v : Nat} (h : NF D n) (hu : u < n) (hv : v < n) : ∀ x, x ≤ n → nf (mtTo D u v x) = true
  | 0, _ => nf_zero
  | x + 1, hx => by
    unfold mtTo
    split
    · exact nf_fM (h u x hu (by omega)) (h v x hv (by omega))
    · exact nf_mtTo h hu hv x (by omega)
theorem mtTo_att {D : Nat → Nat → Nat} {n u v : Nat} (h : NF D n) (hu : u < n) (hv : v < n) : ∀ x, x + 1 ≤ n → ∃ w, w < n ∧ q (D u w) ≤ q (mtTo D u v (x + 1)) ∧ q (D v w) ≤ q (mtTo D u v (x + 1)) := by
  intro x
  induction x with
  | zero =>
    intro hx
    refine ⟨0, by omega, ?_⟩
    have e : mtTo D u v 1 = fM (D u 0) (D v 0) := by unfold mtTo; simp
    rw [e, q_fM (h u 0 hu (by omega)) (h v 0 hv (by omega))]
    omega
  | succ x ih =>
    intro hx
    have n1 := h u (x + 1) hu (by omega)
    have n2 := h v (x + 1) hv (by omega)
    rw [show mtTo D u v (x + 1 + 1) = if decide (x + 1 = 0) || flt (fM (D u (x + 1)) (D v (x + 1))) (mtTo D u v (x + 1)) then fM (D u (x + 1)) (D v (x + 1)) else mtTo D u v (x + 1) from rfl]
    split
    · rw [q_fM n1 n2]
      exact ⟨x + 1, by omega, by omega, by omega⟩
    · exact ih (by omega)
theorem mtTo_low {D : Nat → Nat → Nat} {n u v : Nat} (h : NF D n) (hu : u < n) (hv : v < n) (w : Nat) : ∀ x, x ≤ n → w < x → q (mtTo D u v x) ≤ max (q (D u w)) (q (D v w))
  | 0, _, hw => absurd hw (by omega)
  | x + 1, hx, hw => by
    have n1 := h u x hu (by omega)
    have n2 := h v x hv (by omega)
    have n3 := nf_mtTo h hu hv x (by omega)
    unfold mtTo
    cases hc : (decide (x = 0) || flt (fM (D u x) (D v x)) (mtTo D u v x)) with
    | true =>
      rw [if_pos rfl]
      by_cases e : w = x
      · subst e; rw [q_fM n1 n2]; omega
      · rw [Bool.or_eq_true, decide_eq_true_eq, flt_q (nf_fM n1 n2) n3, decide_eq_true_eq] at hc
        have := mtTo_low h hu hv w x (by omega) (by omega)
        omega
    | false =>
      rw [if_neg (by decide)]
      rw [Bool.or_eq_false_iff, decide_eq_false_iff_not, flt_q (nf_fM n1 n2) n3, decide_eq_false_iff_not, q_fM n1 n2] at hc
      by_cases e : w = x
      · subst e; omega
      · exact mtTo_low h hu hv w x (by omega) (by omega)
theorem nf_lV {D : Nat → Nat → Nat} {n u e : Nat} (h : NF D n) (hu : u < n) (he : nf e = true) : ∀ k, u + 1 + k ≤ n → nf (lV D n u e k) = true
  | 0, _ => he
  | k + 1, hk => nf_fM (nf_lV h hu he k (by omega)) (nf_mtTo h hu (by omega) n (Nat.le_refl _))
theorem nf_lU {D : Nat → Nat → Nat} {n : Nat} (h : NF D n) : ∀ u, u ≤ n → nf (lU D n u) = true
  | 0, _ => nf_zero
  | u + 1, hu => nf_lV h (by omega) (nf_lU h u (by omega)) _ (by omega)
theorem nf_lmd {D : Nat → Nat → Nat} {n : Nat} (h : NF D n) : nf (lmd D n) = true := nf_lU h n (Nat.le_refl _)
theorem lV_up {D : Nat → Nat → Nat} {n u e : Nat} (h : NF D n) (hu : u < n) (he : nf e = true) : ∀ k, u + 1 + k ≤ n → q e ≤ q (lV D n u e k) ∧ ∀ v, u < v → v < u + 1 + k → q (mtTo D u v n) ≤ q (lV D n u e k)
  | 0, _ => ⟨Nat.le_refl _, fun v h1 h2 => absurd h2 (by omega)⟩
  | k + 1, hk => by
    obtain ⟨a1, a2⟩ := lV_up h hu he k (by omega)
    have e1 : q (lV D n u e (k + 1)) = max (q (lV D n u e k)) (q (mtTo D u (u + 1 + k) n)) := q_fM (nf_lV h hu he k (by omega)) (nf_mtTo h hu (by omega) n (Nat.le_refl _))
    rw [e1]
    refine ⟨by omega, fun v h1 h2 => ?_⟩
    by_cases ev : v = u + 1 + k
    · subst ev; omega
    · have := a2 v h1 (by omega); omega
theorem lU_up {D : Nat → Nat → Nat} {n : Nat} (h : NF D n) : ∀ x, x ≤ n → ∀ u v, u < x → u < v → v < n → q (mtTo D u v n) ≤ q (lU D n x)
  | 0, _, u, v, h1, _, _ => absurd h1 (by omega)
  | x + 1, hx, u, v, h1, h2, h3 => by
    obtain ⟨a1, a2⟩ := lV_up h (by omega : x < n) (nf_lU h x (by omega)) (n - (x + 1)) (by omega)
    unfold lU
    by_cases e : u = x
    · subst e; exact a2 v h2 (by omega)
    · have := lU_up h x (by omega) u v (by omega) h2 h3; omega
theorem lmd_upper {D : Nat → Nat → Nat} {n : Nat} (h : NF D n) : Upper D n (q (lmd D n)) := fun u v h1 h2 => by
  have hb := lU_up h n (Nat.le_refl _) u v (by omega) h1 h2
  obtain ⟨w, w1, w2, w3⟩ := mtTo_att h (by omega : u < n) h2 (n - 1) (by omega)
  rw [show n - 1 + 1 = n from by omega] at w2 w3
  exact ⟨w, w1, Nat.le_trans w2 hb, Nat.le_trans w3 hb⟩
theorem lV_low {D : Nat → Nat → Nat} {n u e T : Nat} (h : NF D n) (hu : u < n) (he : nf e = true) (hT : Upper D n T) (hq : q e ≤ T) : ∀ k, u + 1 + k ≤ n → q (lV D n u e k) ≤ T
  | 0, _ => hq
  | k + 1, hk => by
    have e1 : q (lV D n u e (k + 1)) = max (q (lV D n u e k)) (q (mtTo D u (u + 1 + k) n)) := q_fM (nf_lV h hu he k (by omega)) (nf_mtTo h hu (by omega) n (Nat.le_refl _))
    have a1 := lV_low h hu he hT hq k (by omega)
    obtain ⟨w, w1, w2, w3⟩ := hT u (u + 1 + k) (by omega) (by omega)
    have a2 := mtTo_low h hu (by omega : u + 1 + k < n) w n (Nat.le_refl _) w1
    rw [e1]
    omega
theorem lU_low {D : Nat → Nat → Nat} {n T : Nat} (h : NF D n) (hT : Upper D n T) : ∀ x, x ≤ n → q (lU D n x) ≤ T
  | 0, _ => by show q 0 ≤ T; rw [q_zero']; omega
  | x + 1, hx => lV_low h (by omega) (nf_lU h x (by omega)) hT (lU_low h hT x (by omega)) _ (by omega)
theorem lmd_lower {D : Nat → Nat → Nat} {n T : Nat} (h : NF D n) (hT : Upper D n T) : q (lmd D n) ≤ T := lU_low h hT n (Nat.le_refl _)

/-! ### zzMaxDelay -/
def farF (D : Nat → Nat → Nat) (i : Nat) (l : List Nat) : Nat := l.foldl (fun a w => fM a (D i w)) 0
def bsTo (D : Nat → Nat → Nat) (i : Nat) (QS : List (List Nat)) : Nat → Nat
  | 0 => 0
  | k + 1 => if decide (k = 0) || flt (farF D i (QS.getD k [])) (bsTo D i QS k) then farF D i (QS.getD k []) else bsTo D i QS k
def wsTo (D : Nat → Nat → Nat) (QS : List (List Nat)) : Nat → Nat
  | 0 => 0
  | i + 1 => fM (wsTo D QS i) (bsTo D i QS QS.length)
def mxd (D : Nat → Nat → Nat) (n : Nat) (QS : List (List Nat)) : Nat := wsTo D QS n
theorem far_fold {D : Nat → Nat → Nat} {n i : Nat} (h : NF D n) (hi : i < n) : ∀ (l : List Nat) (a : Nat), nf a = true → (∀ w ∈ l, w < n) → nf (l.foldl (fun a w => fM a (D i w)) a) = true ∧ q a ≤ q (l.foldl (fun a w => fM a (D i w)) a) ∧
    (∀ w ∈ l, q (D i w) ≤ q (l.foldl (fun a w => fM a (D i w)) a)) ∧ (q (l.foldl (fun a w => fM a (D i w)) a) = q a ∨ ∃ w ∈ l, q (l.foldl (fun a w => fM a (D i w)) a) = q (D i w))
  | [], a, ha, _ => ⟨ha, Nat.le_refl _, fun w hw => by simp at hw, Or.inl rfl⟩
  | x :: l, a, ha, hl => by
    have nx := h i x hi (hl x (by simp))
    obtain ⟨a1, a2, a3, a4⟩ := far_fold h hi l (fM a (D i x)) (nf_fM ha nx) (fun w hw => hl w (by simp [hw]))
    rw [q_fM ha nx] at a2 a4
    rw [List.foldl_cons]
    refine ⟨a1, by omega, fun w hw => ?_, ?_⟩
    · rcases List.mem_cons.1 hw with rfl | hw
      · omega
      · exact a3 w hw
    · rcases a4 with e | ⟨w, hw, e⟩
      · by_cases hc : q (D i x) ≤ q a
        · left; omega
        · right; exact ⟨x, by simp, by omega⟩
      · right; exact ⟨w, by simp [hw], e⟩
theorem nf_far {D : Nat → Nat → Nat} {n i : Nat} (h : NF D n) (hi : i < n) {l : List Nat} (hl : ∀ w ∈ l, w < n) : nf (farF D i l) = true := (far_fold h hi l 0 nf_zero hl).1
theorem far_ge {D : Nat → Nat → Nat} {n i : Nat} (h : NF D n) (hi : i < n) {l : List Nat} (hl : ∀ w ∈ l, w < n) {w : Nat} (hw : w ∈ l) : q (D i w) ≤ q (farF D i l) := (far_fold h hi l 0 nf_zero hl).2.2.1 w hw
theorem far_att {D : Nat → Nat → Nat} {n i : Nat} (h : NF D n) (hi : i < n) {l : List Nat} (hl : ∀ w ∈ l, w < n) (hne : l ≠ []) : ∃ w ∈ l, q (farF D i l) ≤ q (D i w) := by
  rcases (far_fold h hi l 0 nf_zero hl).2.2.2 with e | ⟨w, hw, e⟩
  · obtain ⟨w, hw⟩ := List.exists_mem_of_ne_nil l hne
    refine ⟨w, hw, ?_⟩
    rw [q_zero'] at e
    unfold farF
    omega
  · exact ⟨w, hw, Nat.le_of_eq e⟩
theorem getD_mem {QS : List (List Nat)} {k : Nat} (hk : k < QS.length) : QS.getD k [] ∈ QS := by
  rw [List.getD_eq_getElem?_getD, List.getElem?_eq_getElem hk]
  exact List.getElem_mem hk
theorem nf_bsTo {D : Nat → Nat → Nat} {n i : Nat} (h : NF D n) (hi : i < n) {QS : List (List Nat)} (hQ : ∀ l ∈ QS, ∀ w ∈ l, w < n) : ∀ k, k ≤ QS.length → nf (bsTo D i QS k) = true
  | 0, _ => nf_zero
  | k + 1, hk => by
    unfold bsTo
    split
    · exact nf_far h hi (hQ _ (getD_mem (by omega)))
    · exact nf_bsTo h hi hQ k (by omega)
theorem bsTo_att {D : Nat → Nat → Nat} {i : Nat} {QS : List (List Nat)} : ∀ k, ∃ j, j ≤ k ∧ bsTo D i QS (k + 1) = farF D i (QS.getD j []) := by
  intro k
  induction k with
  | zero => exact ⟨0, Nat.le_refl _, by unfold bsTo; simp⟩
  | succ k ih =>
    rw [show bsTo D i QS (k + 1 + 1) = if decide (k + 1 = 0) || flt (farF D i (QS.getD (k + 1) [])) (bsTo D i QS (k + 1)) then farF D i (QS.getD (k + 1) []) else bsTo D i QS (k + 1) from rfl]
    split
    · exact ⟨k + 1, Nat.le_refl _, rfl⟩
    · obtain ⟨j, hj, e⟩ := ih
      exact ⟨j, by omega, e⟩
theorem bsTo_low {D : Nat → Nat → Nat} {n i : Nat} (h : NF D n) (hi : i < n) {QS : List (List Nat)} (hQ : ∀ l ∈ QS, ∀ w ∈ l, w < n) (j : Nat) : ∀ k, k ≤ QS.length → j < k → q (bsTo D i QS k) ≤ q (farF D i (QS.getD j []))
  | 0, _, hj => absurd hj (by omega)
  | k + 1, hk, hj => by
    have n1 := nf_far h hi (hQ _ (getD_mem (by omega : k < QS.length)))
    have n2 := nf_bsTo h hi hQ k (by omega)
    unfold bsTo
    cases hc : (decide (k = 0) || flt (farF D i (QS.getD k [])) (bsTo D i QS k)) with
    | true =>
      rw [if_pos rfl]
      by_cases e : j = k
      · subst e; omega
      · rw [Bool.or_eq_true, decide_eq_true_eq, flt_q n1 n2, decide_eq_true_eq] at hc
        have := bsTo_low h hi hQ j k (by omega) (by omega)
        omega
    | false =>
      rw [if_neg (by decide)]
      rw [Bool.or_eq_false_iff, decide_eq_false_iff_not, flt_q n1 n2, decide_eq_false_iff_not] at hc
      by_cases e : j = k
      · subst e; omega
      · exact bsTo_low h hi hQ j k (by omega) (by omega)
theorem nf_wsTo {D : Nat → Nat → Nat} {n : Nat} (h : NF D n) {QS : List (List Nat)} (hQ : ∀ l ∈ QS, ∀ w ∈ l, w < n) : ∀ i, i ≤ n → nf (wsTo D QS i) = true
  | 0, _ => nf_zero
  | i + 1, hi => nf_fM (nf_wsTo h hQ i (by omega)) (nf_bsTo h (by omega) hQ _ (Nat.le_refl _))
theorem wsTo_ge {D : Nat → Nat → Nat} {n : Nat} (h : NF D n) {QS : List (List Nat)} (hQ : ∀ l ∈ QS, ∀ w ∈ l, w < n) : ∀ i, i ≤ n → (∀ j, j < i → q (bsTo D j QS QS.length) ≤ q (wsTo D QS i)) ∧ (q (wsTo D QS i) = 0 ∨ ∃ j, j < i ∧ q (wsTo D QS i) = q (bsTo D j QS QS.length))
  | 0, _ => ⟨fun j hj => absurd hj (by omega), Or.inl q_zero'⟩
  | i + 1, hi => by
    obtain ⟨a1, a2⟩ := wsTo_ge h hQ i (by omega)
    have e1 : q (wsTo D QS (i + 1)) = max (q (wsTo D QS i)) (q (bsTo D i QS QS.length)) := q_fM (nf_wsTo h hQ i (by omega)) (nf_bsTo h (by omega) hQ _ (Nat.le_refl _))
    rw [e1]
    refine ⟨fun j hj => ?_, ?_⟩
    · by_cases e : j = i
      · subst e; omega
      · have := a1 j (by omega); omega
    · by_cases hc : q (wsTo D QS i) ≤ q (bsTo D i QS QS.length)
      · right; exact ⟨i, by omega, by omega⟩
      · rcases a2 with e | ⟨j, hj, e⟩
        · omega
        · right; exact ⟨j, by omega, by omega⟩

/-! ### The law -/
/-- Quorums within the balls: pairwise meeting, and each node's ball holds one. -/
structure Good (D : Nat → Nat → Nat) (n : Nat) (QS : List (List Nat)) : Prop where
  ne : QS ≠ []
  lt : ∀ l ∈ QS, ∀ w ∈ l, w < n
  one : ∀ l ∈ QS, l ≠ []
  meet : ∀ l ∈ QS, ∀ m ∈ QS, ∃ w, w ∈ l ∧ w ∈ m
  near : ∀ i, i < n → ∃ l ∈ QS, ∀ w ∈ l, am (D i w) (radius D n) = true
theorem delay_ge {D : Nat → Nat → Nat} {n : Nat} (h : NF D n) {QS : List (List Nat)} (hg : Good D n QS) : q (lmd D n) ≤ q (mxd D n QS) := by
  have hl : 0 < QS.length := List.length_pos_iff.2 hg.ne
  refine lmd_lower h (fun u v h1 h2 => ?_)
  obtain ⟨ju, hju, eu⟩ := bsTo_att (D := D) (i := u) (QS := QS) (QS.length - 1)
  obtain ⟨jv, hjv, ev⟩ := bsTo_att (D := D) (i := v) (QS := QS) (QS.length - 1)
  rw [show QS.length - 1 + 1 = QS.length from by omega] at eu ev
  have mu := getD_mem (QS := QS) (by omega : ju < QS.length)
  have mv := getD_mem (QS := QS) (by omega : jv < QS.length)
  obtain ⟨w, w1, w2⟩ := hg.meet _ mu _ mv
  obtain ⟨a1, _⟩ := wsTo_ge h hg.lt n (Nat.le_refl _)
  have b1 := a1 u (by omega)
  have b2 := a1 v h2
  rw [eu] at b1
  rw [ev] at b2
  exact ⟨w, hg.lt _ mu w w1, Nat.le_trans (far_ge h (by omega) (hg.lt _ mu) w1) b1, Nat.le_trans (far_ge h h2 (hg.lt _ mv) w2) b2⟩
theorem nf_mxd {D : Nat → Nat → Nat} {n : Nat} (h : NF D n) {QS : List (List Nat)} (hg : Good D n QS) : nf (mxd D n QS) = true := nf_wsTo h hg.lt n (Nat.le_refl _)
theorem delay_tol {D : Nat → Nat → Nat} {n : Nat} (h : NF D n) {QS : List (List Nat)} (hg : Good D n QS) (hlt : q (lmd D n) < q (mxd D n QS)) :
    fle (fsub (mxd D n QS) (lmd D n)) (if flt one (lmd D n) then fmul tole (lmd D n) else tole) = true := by
  have nr := nf_radius h
  have hr : q (radius D n) ≤ q (lmd D n) := Nat.le_trans (radius_ok h).1 (exact_lower h (lmd_upper h))
  refine tol_ok (nf_mxd h hg) (nf_lmd h) nr hr hlt ?_
  obtain ⟨_, a2⟩ := wsTo_ge h hg.lt n (Nat.le_refl _)
  rcases a2 with e | ⟨i, hi, e⟩
  · unfold mxd at hlt; omega
  · obtain ⟨l, hl, hn⟩ := hg.near i hi
    obtain ⟨k, hk⟩ := List.getElem?_of_mem hl
    have hkl : k < QS.length := (List.getElem?_eq_some_iff.1 hk).1
    have el : QS.getD k [] = l := by rw [List.getD_eq_getElem?_getD, hk]; rfl
    have b1 := bsTo_low h hi hg.lt k QS.length (Nat.le_refl _) hkl
    rw [el] at b1
    obtain ⟨w, hw, hfa⟩ := far_att h hi (hg.lt l hl) (hg.one l hl)
    refine am_mono (nf_mxd h hg) (h i w hi (hg.lt l hl w hw)) nr ?_ (hn w hw)
    unfold mxd
    omega
end Go.Proofs.Qxb6613821aDoor
