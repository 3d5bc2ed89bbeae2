/- The shrinking of balls, plain. No Go text here. -/
namespace Go.Proofs.Qxb6613821aDoor
set_option linter.unusedVariables false
set_option linter.unusedSimpArgs false

/-- How many below n? -/
def cnt (p : Nat → Bool) : Nat → Nat
  | 0 => 0
  | n + 1 => cnt p n + if p n then 1 else 0
theorem cnt_le (p : Nat → Bool) : ∀ n, cnt p n ≤ n
  | 0 => Nat.le_refl _
  | n + 1 => by unfold cnt; have := cnt_le p n; split <;> omega
theorem cnt_congr {p r : Nat → Bool} : ∀ {n : Nat}, (∀ k, k < n → p k = r k) → cnt p n = cnt r n
  | 0, _ => rfl
  | n + 1, h => by unfold cnt; rw [h n (by omega), cnt_congr (n := n) (fun k hk => h k (by omega))]
theorem cnt_pos {p : Nat → Bool} : ∀ {n : Nat}, 0 < cnt p n → ∃ k, k < n ∧ p k = true
  | 0, h => by simp [cnt] at h
  | n + 1, h => by
    unfold cnt at h
    by_cases hp : p n = true
    · exact ⟨n, by omega, hp⟩
    · rw [if_neg hp] at h
      obtain ⟨k, h1, h2⟩ := cnt_pos (n := n) (by omega)
      exact ⟨k, by omega, h2⟩
theorem cnt_has {p : Nat → Bool} : ∀ {n k : Nat}, k < n → p k = true → 0 < cnt p n
  | 0, k, h, _ => by omega
  | n + 1, k, h, hp => by
    unfold cnt
    by_cases e : k = n
    · subst e; rw [if_pos hp]; omega
    · have := cnt_has (n := n) (k := k) (by omega) hp; omega
/-- One more is set. -/
theorem cnt_set {p r : Nat → Bool} {v : Nat} (hpv : p v = false) (hrv : r v = true) : ∀ {n : Nat}, (∀ k, k < n → k ≠ v → p k = r k) → v < n → cnt r n = cnt p n + 1
  | 0, _, hv => by omega
  | n + 1, h, hv => by
    unfold cnt
    by_cases e : v = n
    · subst e
      rw [if_pos hrv, if_neg (by rw [hpv]; simp), cnt_congr (n := v) (p := r) (r := p) (fun k hk => (h k (by omega) (by omega)).symm)]
    · rw [cnt_set hpv hrv (n := n) (fun k hk => h k (by omega)) (by omega), h n (by omega) (fun x => e x.symm)]; omega
theorem cnt_two {p : Nat → Bool} {n v : Nat} (h2 : 2 ≤ cnt p n) : ∃ k, k < n ∧ k ≠ v ∧ p k = true := by
  by_cases hv : v < n
  · by_cases hp : p v = true
    · have h1 := cnt_set (p := fun k => if k = v then false else p k) (r := p) (v := v) (by simp) hp (fun k _ hk => by simp [hk]) hv
      obtain ⟨k, hk, hk2⟩ := cnt_pos (p := fun k => if k = v then false else p k) (n := n) (by omega)
      by_cases e : k = v
      · subst e; simp at hk2
      · simp [e] at hk2; exact ⟨k, hk, e, hk2⟩
    · obtain ⟨k, hk, hk2⟩ := cnt_pos (p := p) (n := n) (by omega)
      exact ⟨k, hk, fun e => by subst e; exact hp hk2, hk2⟩
  · obtain ⟨k, hk, hk2⟩ := cnt_pos (p := p) (n := n) (by omega)
    exact ⟨k, hk, by omega, hk2⟩

def upd {α : Type} (f : Nat → Nat → α) (i v : Nat) (x : α) : Nat → Nat → α := fun a b => if a = i ∧ b = v then x else f a b
theorem upd_same {α : Type} (f : Nat → Nat → α) (i v : Nat) (x : α) : upd f i v x i v = x := by simp [upd]
theorem upd_ne {α : Type} (f : Nat → Nat → α) (i v : Nat) (x : α) {a b : Nat} (h : ¬ (a = i ∧ b = v)) : upd f i v x a b = f a b := by simp [upd, h]

/-- The pairs, and which distance counts as at most which. -/
structure Pairs where
  n : Nat
  N : Nat
  nd : Nat → Nat
  mb : Nat → Nat
  le : Nat → Nat → Bool
structure SS where
  hold : Nat → Nat → Bool
  st : Nat → Nat → Nat
  top : Nat
  fin : Nat

/-- Pairs join the candidates. -/
def joinTo (P : Pairs) (top : Nat) : Nat → Nat → (Nat → Nat → Nat) → Nat × (Nat → Nat → Nat)
  | 0, fin, st => (fin, st)
  | f + 1, fin, st => if P.le top fin then joinTo P top f (fin + 1) (upd st (P.nd fin) (P.mb fin) 1) else (fin, st)
def ready (n : Nat) (st : Nat → Nat → Nat) (i : Nat) : Nat := cnt (fun v => st i v == 1) n
def share (n : Nat) (hold : Nat → Nat → Bool) (i j : Nat) : Nat := cnt (fun v => hold i v && hold j v) n
/-- The node to be tried, of those below k. -/
def best (rd sz : Nat → Nat) : Nat → Option Nat
  | 0 => none
  | k + 1 => match best rd sz k with
    | none => if 0 < rd k then some k else none
    | some i => if 0 < rd k ∧ sz i < sz k then some k else some i
/-- The first from v on. -/
def lead (p : Nat → Bool) : Nat → Nat → Nat
  | 0, v => v
  | f + 1, v => if p v then v else lead p f (v + 1)
def canLeave (n : Nat) (hold : Nat → Nat → Bool) (i v : Nat) : Bool := (List.range n).all fun j => !hold j v || decide (2 ≤ share n hold i j)
/-- The first pair from k on that is not yet considered. -/
def skip (p : Nat → Bool) : Nat → Nat → Nat
  | 0, k => k
  | f + 1, k => if p k then skip p f (k + 1) else k
def cons2 (P : Pairs) (st : Nat → Nat → Nat) (k : Nat) : Bool := st (P.nd k) (P.mb k) == 2
/-- What a round does, given the node and the member. -/
def SS.act (P : Pairs) (s : SS) (fin : Nat) (st : Nat → Nat → Nat) (i v : Nat) : SS :=
  ⟨if canLeave P.n s.hold i v then upd s.hold i v false else s.hold, upd st i v 2, skip (cons2 P (upd st i v 2)) (P.N - s.top) s.top, fin⟩
def pickN (P : Pairs) (s : SS) (st : Nat → Nat → Nat) : Nat := (best (ready P.n st) (fun c => share P.n s.hold c c) P.n).getD 0
def SS.step (P : Pairs) (s : SS) : SS :=
  s.act P (joinTo P s.top (P.N - s.fin) s.fin s.st).1 (joinTo P s.top (P.N - s.fin) s.fin s.st).2 (pickN P s (joinTo P s.top (P.N - s.fin) s.fin s.st).2)
    (lead (fun v => (joinTo P s.top (P.N - s.fin) s.fin s.st).2 (pickN P s (joinTo P s.top (P.N - s.fin) s.fin s.st).2) v == 1) P.n 0)
def SS.run (P : Pairs) : Nat → SS → SS
  | 0, s => s
  | f + 1, s => if s.top < P.N then SS.run P f (s.step P) else s

/-! ### best, lead, skip -/
theorem best_none {rd sz : Nat → Nat} : ∀ {k : Nat}, best rd sz k = none → ∀ c, c < k → rd c = 0
  | 0, _, c, h => by omega
  | k + 1, h, c, hc => by
    unfold best at h
    split at h
    · rename_i h1
      split at h
      · cases h
      · by_cases e : c = k
        · subst e; omega
        · exact best_none h1 c (by omega)
    · split at h <;> cases h
theorem best_some {rd sz : Nat → Nat} : ∀ {k i : Nat}, best rd sz k = some i → i < k ∧ 0 < rd i
  | 0, i, h => by simp [best] at h
  | k + 1, i, h => by
    unfold best at h
    split at h
    · split at h
      · cases h; exact ⟨by omega, by assumption⟩
      · cases h
    · rename_i j hj
      have := best_some hj
      split at h
      · rename_i hc; cases h; exact ⟨by omega, hc.1⟩
      · cases h; exact ⟨by omega, this.2⟩
theorem lead_spec {p : Nat → Bool} : ∀ {f v u : Nat}, v ≤ u → u < v + f → p u = true → p (lead p f v) = true ∧ lead p f v ≤ u ∧ v ≤ lead p f v
  | 0, v, u, h1, h2, _ => by omega
  | f + 1, v, u, h1, h2, hp => by
    unfold lead
    split
    · exact ⟨by assumption, h1, Nat.le_refl _⟩
    · rename_i h
      have hne : v ≠ u := fun e => by subst e; exact h hp
      obtain ⟨a, b, c⟩ := lead_spec (f := f) (v := v + 1) (u := u) (by omega) (by omega) hp
      exact ⟨a, b, by omega⟩
theorem skip_spec {p : Nat → Bool} : ∀ {f k : Nat}, k ≤ skip p f k ∧ skip p f k ≤ k + f ∧ (∀ j, k ≤ j → j < skip p f k → p j = true) ∧ (skip p f k < k + f → p (skip p f k) = false)
  | 0, k => ⟨Nat.le_refl _, Nat.le_refl _, fun j h1 h2 => by unfold skip at h2; omega, fun h => by unfold skip at h; omega⟩
  | f + 1, k => by
    unfold skip
    split
    · rename_i h
      obtain ⟨a, b, c, d⟩ := skip_spec (p := p) (f := f) (k := k + 1)
      refine ⟨by omega, by omega, fun j h1 h2 => ?_, fun h => d (by omega)⟩
      by_cases e : j = k
      · subst e; exact h
      · exact c j (by omega) h2
    · rename_i h
      exact ⟨Nat.le_refl _, by omega, fun j h1 h2 => by omega, fun _ => by simpa using h⟩

/-! ### What holds all along -/
structure Pairs.Ok (P : Pairs) (hold0 : Nat → Nat → Bool) : Prop where
  n1 : ∀ k, k < P.N → P.nd k < P.n
  n2 : ∀ k, k < P.N → P.mb k < P.n
  inj : ∀ k j, k < P.N → j < P.N → P.nd k = P.nd j → P.mb k = P.mb j → k = j
  all : ∀ i v, hold0 i v = true ↔ ∃ k, k < P.N ∧ P.nd k = i ∧ P.mb k = v
  refl : ∀ k, k < P.N → P.le k k = true

structure Inv (P : Pairs) (hold0 hold : Nat → Nat → Bool) (st : Nat → Nat → Nat) (top fin : Nat) : Prop where
  topN : top ≤ P.N
  finN : fin ≤ P.N
  lo : ∀ k, k < fin → st (P.nd k) (P.mb k) = 1 ∨ st (P.nd k) (P.mb k) = 2
  hi : ∀ k, fin ≤ k → k < P.N → st (P.nd k) (P.mb k) = 0
  out : ∀ i v, st i v ≠ 0 → hold0 i v = true
  done : ∀ k, k < top → st (P.nd k) (P.mb k) = 2
  here : top < P.N → st (P.nd top) (P.mb top) ≠ 2
  sub : ∀ i v, hold i v = true → hold0 i v = true
  keep : ∀ i v, hold0 i v = true → st i v ≠ 2 → hold i v = true
  meet : ∀ i j, (∃ v, hold0 i v = true ∧ hold0 j v = true) → ∃ v, hold i v = true ∧ hold j v = true
theorem Inv.le {P : Pairs} {hold0 hold : Nat → Nat → Bool} {st : Nat → Nat → Nat} {top fin : Nat} (h : Inv P hold0 hold st top fin) : top ≤ fin := by
  by_cases hh : top ≤ fin
  · exact hh
  · have h1 := h.done fin (by omega)
    have h2 := h.topN
    have h3 := h.hi fin (Nat.le_refl _) (by omega)
    omega
/-- A pair joins. -/
theorem Inv.join {P : Pairs} {hold0 hold : Nat → Nat → Bool} {st : Nat → Nat → Nat} {top fin : Nat} (hP : P.Ok hold0) (h : Inv P hold0 hold st top fin) (hf : fin < P.N) : Inv P hold0 hold (upd st (P.nd fin) (P.mb fin) 1) top (fin + 1) := by
  have hne : ∀ k, k < P.N → k ≠ fin → upd st (P.nd fin) (P.mb fin) 1 (P.nd k) (P.mb k) = st (P.nd k) (P.mb k) := fun k hk he => upd_ne _ _ _ _ (fun x => he (hP.inj k fin hk hf x.1 x.2))
  have hle := h.le
  refine ⟨h.topN, by omega, fun k hk => ?_, fun k hk1 hk2 => ?_, fun i v hi => ?_, fun k hk => ?_, fun ht => ?_, h.sub, fun i v h0 h2 => ?_, h.meet⟩
  · by_cases e : k = fin
    · subst e; rw [upd_same]; exact Or.inl rfl
    · rw [hne k (by omega) e]; exact h.lo k (by omega)
  · rw [hne k hk2 (by omega)]; exact h.hi k (by omega) hk2
  · by_cases e : i = P.nd fin ∧ v = P.mb fin
    · obtain ⟨rfl, rfl⟩ := e; exact (hP.all _ _).2 ⟨fin, hf, rfl, rfl⟩
    · rw [upd_ne _ _ _ _ e] at hi; exact h.out i v hi
  · rw [hne k (by omega) (by omega)]; exact h.done k hk
  · by_cases e : top = fin
    · subst e; rw [upd_same]; omega
    · rw [hne top ht e]; exact h.here ht
  · by_cases e : i = P.nd fin ∧ v = P.mb fin
    · obtain ⟨rfl, rfl⟩ := e
      refine h.keep _ _ h0 ?_
      rw [h.hi fin (Nat.le_refl _) hf]; omega
    · rw [upd_ne _ _ _ _ e] at h2; exact h.keep i v h0 h2
/-- A pair joins: its node has one more that is ready. -/
theorem ready_join {P : Pairs} {hold0 hold : Nat → Nat → Bool} {st : Nat → Nat → Nat} {top fin : Nat} (hP : P.Ok hold0) (h : Inv P hold0 hold st top fin) (hf : fin < P.N) (c : Nat) :
    ready P.n (upd st (P.nd fin) (P.mb fin) 1) c = ready P.n st c + if c = P.nd fin then 1 else 0 := by
  unfold ready
  by_cases e : c = P.nd fin
  · subst e
    rw [if_pos rfl]
    refine cnt_set (v := P.mb fin) ?_ ?_ (fun k _ hk => ?_) (hP.n2 fin hf)
    · rw [h.hi fin (Nat.le_refl _) hf]; rfl
    · rw [upd_same]; rfl
    · rw [upd_ne _ _ _ _ (fun x => hk x.2)]
  · rw [if_neg e]
    exact cnt_congr (fun k _ => by rw [upd_ne _ _ _ _ (fun x => e x.1)])
theorem joinTo_inv {P : Pairs} {hold0 hold : Nat → Nat → Bool} {top : Nat} (hP : P.Ok hold0) : ∀ {f fin : Nat} {st : Nat → Nat → Nat}, Inv P hold0 hold st top fin → fin + f = P.N → Inv P hold0 hold (joinTo P top f fin st).2 top (joinTo P top f fin st).1
  | 0, fin, st, h, _ => h
  | f + 1, fin, st, h, hf => by
    unfold joinTo
    split
    · exact joinTo_inv hP (h.join hP (by omega)) (by omega)
    · exact h
theorem joinTo_gt {P : Pairs} {hold0 hold : Nat → Nat → Bool} {top : Nat} (hP : P.Ok hold0) : ∀ {f fin : Nat} {st : Nat → Nat → Nat}, Inv P hold0 hold st top fin → fin + f = P.N → top < P.N → top < (joinTo P top f fin st).1
  | 0, fin, st, h, hf, ht => by unfold joinTo; show top < fin; omega
  | f + 1, fin, st, h, hf, ht => by
    unfold joinTo
    split
    · exact joinTo_gt hP (h.join hP (by omega)) (by omega) ht
    · rename_i hle
      have h1 := h.le
      have h2 : top ≠ fin := fun e => by subst e; exact hle (hP.refl _ ht)
      show top < fin
      omega
/-- There is a node to be tried. -/
theorem pick_some {P : Pairs} {hold0 hold : Nat → Nat → Bool} {st : Nat → Nat → Nat} {top fin : Nat} (hP : P.Ok hold0) (h : Inv P hold0 hold st top fin) (ht : top < P.N) (hf : top < fin) (sz : Nat → Nat) : ∃ i, best (ready P.n st) sz P.n = some i := by
  cases hb : best (ready P.n st) sz P.n with
  | some i => exact ⟨i, rfl⟩
  | none =>
    have h1 := best_none hb (P.nd top) (hP.n1 top ht)
    have h2 : st (P.nd top) (P.mb top) = 1 := by
      rcases h.lo top hf with x | x
      · exact x
      · exact absurd x (h.here ht)
    have h3 : 0 < ready P.n st (P.nd top) := cnt_has (k := P.mb top) (hP.n2 top ht) (by rw [h2]; rfl)
    omega
theorem lead_ready {n : Nat} {st : Nat → Nat → Nat} {i : Nat} (h : 0 < ready n st i) : st i (lead (fun v => st i v == 1) n 0) = 1 ∧ lead (fun v => st i v == 1) n 0 < n := by
  obtain ⟨u, hu, hp⟩ := cnt_pos h
  obtain ⟨a, b, _⟩ := lead_spec (p := fun v => st i v == 1) (f := n) (v := 0) (u := u) (Nat.zero_le _) (by omega) hp
  exact ⟨by simpa using a, by omega⟩
/-- What holds behind a round. -/
theorem Inv.acted {P : Pairs} {hold0 : Nat → Nat → Bool} {s : SS} {st : Nat → Nat → Nat} {fin i v : Nat} (hP : P.Ok hold0) (h : Inv P hold0 s.hold st s.top fin) (hi : st i v = 1) :
    Inv P hold0 (s.act P fin st i v).hold (s.act P fin st i v).st (s.act P fin st i v).top (s.act P fin st i v).fin := by
  have hst : (s.act P fin st i v).st = upd st i v 2 := rfl
  have hfin : (s.act P fin st i v).fin = fin := rfl
  have htop : (s.act P fin st i v).top = skip (cons2 P (upd st i v 2)) (P.N - s.top) s.top := rfl
  have hhold : (s.act P fin st i v).hold = if canLeave P.n s.hold i v then upd s.hold i v false else s.hold := rfl
  obtain ⟨k1, k2, k3, k4⟩ := skip_spec (p := cons2 P (upd st i v 2)) (f := P.N - s.top) (k := s.top)
  have ht := h.topN
  rw [hst, hfin, htop]
  have hin : hold0 i v = true := h.out i v (by omega)
  refine ⟨by omega, h.finN, fun k hk => ?_, fun k hk1 hk2 => ?_, fun a b hab => ?_, fun k hk => ?_, fun hk => ?_, fun a b hab => ?_, fun a b h0 h2 => ?_, fun a b hab => ?_⟩
  · by_cases e : P.nd k = i ∧ P.mb k = v
    · rw [e.1, e.2, upd_same]; exact Or.inr rfl
    · rw [upd_ne _ _ _ _ e]; exact h.lo k hk
  · have e : ¬ (P.nd k = i ∧ P.mb k = v) := fun x => by
      have := h.hi k hk1 hk2
      rw [x.1, x.2] at this; omega
    rw [upd_ne _ _ _ _ e]; exact h.hi k hk1 hk2
  · by_cases e : a = i ∧ b = v
    · obtain ⟨rfl, rfl⟩ := e; exact hin
    · rw [upd_ne _ _ _ _ e] at hab; exact h.out a b hab
  · by_cases e : k < s.top
    · by_cases e2 : P.nd k = i ∧ P.mb k = v
      · rw [e2.1, e2.2, upd_same]
      · rw [upd_ne _ _ _ _ e2]; exact h.done k e
    · have := k3 k (by omega) hk
      simpa [cons2] using this
  · have := k4 (by omega)
    simpa [cons2] using this
  · rw [hhold] at hab
    split at hab
    · by_cases e : a = i ∧ b = v
      · obtain ⟨rfl, rfl⟩ := e; exact hin
      · rw [upd_ne _ _ _ _ e] at hab; exact h.sub a b hab
    · exact h.sub a b hab
  · by_cases e : a = i ∧ b = v
    · obtain ⟨rfl, rfl⟩ := e; rw [upd_same] at h2; exact absurd rfl h2
    · rw [upd_ne _ _ _ _ e] at h2
      have h3 := h.keep a b h0 h2
      rw [hhold]
      split
      · rw [upd_ne _ _ _ _ e]; exact h3
      · exact h3
  · obtain ⟨u, hu1, hu2⟩ := h.meet a b hab
    rw [hhold]
    split
    · rename_i hc
      have hcl : ∀ j, j < P.n → s.hold j v = true → 2 ≤ share P.n s.hold i j := by
        intro j hj hh
        unfold canLeave at hc
        rw [List.all_eq_true] at hc
        have := hc j (by simpa using hj)
        simpa [hh] using this
      have hn : ∀ a b, hold0 a b = true → a < P.n := by
        intro a b hh
        obtain ⟨k, hk, rfl, _⟩ := (hP.all a b).1 hh
        exact hP.n1 k hk
      by_cases e : u = v
      · subst e
        by_cases ea : a = i
        · subst ea
          have h2 := hcl b (hn b u (h.sub b u hu2)) hu2
          obtain ⟨w, _, hw, hw2⟩ := cnt_two (v := u) h2
          simp only [Bool.and_eq_true] at hw2
          exact ⟨w, by rw [upd_ne _ _ _ _ (fun x => hw x.2)]; exact hw2.1, by rw [upd_ne _ _ _ _ (fun x => hw x.2)]; exact hw2.2⟩
        · by_cases eb : b = i
          · subst eb
            have h2 := hcl a (hn a u (h.sub a u hu1)) hu1
            obtain ⟨w, _, hw, hw2⟩ := cnt_two (v := u) h2
            simp only [Bool.and_eq_true] at hw2
            exact ⟨w, by rw [upd_ne _ _ _ _ (fun x => hw x.2)]; exact hw2.2, by rw [upd_ne _ _ _ _ (fun x => hw x.2)]; exact hw2.1⟩
          · exact ⟨u, by rw [upd_ne _ _ _ _ (fun x => ea x.1)]; exact hu1, by rw [upd_ne _ _ _ _ (fun x => eb x.1)]; exact hu2⟩
      · exact ⟨u, by rw [upd_ne _ _ _ _ (fun x => e x.2)]; exact hu1, by rw [upd_ne _ _ _ _ (fun x => e x.2)]; exact hu2⟩
    · exact ⟨u, hu1, hu2⟩
/-- How many pairs are still to be considered. -/
def left (P : Pairs) (st : Nat → Nat → Nat) : Nat := cnt (fun k => !cons2 P st k) P.N
theorem left_join {P : Pairs} {hold0 hold : Nat → Nat → Bool} {st : Nat → Nat → Nat} {top fin : Nat} (hP : P.Ok hold0) (h : Inv P hold0 hold st top fin) (hf : fin < P.N) : left P (upd st (P.nd fin) (P.mb fin) 1) = left P st := by
  unfold left
  refine cnt_congr (fun k hk => ?_)
  unfold cons2
  by_cases e : k = fin
  · subst e; rw [upd_same, h.hi k (Nat.le_refl _) hk]; rfl
  · rw [upd_ne _ _ _ _ (fun x => e (hP.inj k fin hk hf x.1 x.2))]
theorem left_joinTo {P : Pairs} {hold0 hold : Nat → Nat → Bool} {top : Nat} (hP : P.Ok hold0) : ∀ {f fin : Nat} {st : Nat → Nat → Nat}, Inv P hold0 hold st top fin → fin + f = P.N → left P (joinTo P top f fin st).2 = left P st
  | 0, fin, st, h, _ => rfl
  | f + 1, fin, st, h, hf => by
    unfold joinTo
    split
    · rw [left_joinTo hP (h.join hP (by omega)) (by omega), left_join hP h (by omega)]
    · rfl
theorem left_act {P : Pairs} {hold0 hold : Nat → Nat → Bool} {st : Nat → Nat → Nat} {top fin i v : Nat} (hP : P.Ok hold0) (h : Inv P hold0 hold st top fin) (hi : st i v = 1) : left P st = left P (upd st i v 2) + 1 := by
  obtain ⟨k, hk, rfl, rfl⟩ := (hP.all i v).1 (h.out i v (by omega))
  unfold left
  refine cnt_set (v := k) ?_ ?_ (fun j hjN hj => ?_) hk
  · simp [cons2, upd_same]
  · simp [cons2, hi]
  · unfold cons2
    rw [upd_ne _ _ _ _ (fun x => hj (hP.inj j k hjN hk x.1 x.2))]
theorem left_step {P : Pairs} {hold0 : Nat → Nat → Bool} {s : SS} {st : Nat → Nat → Nat} {fin i v : Nat} (hP : P.Ok hold0) (h : Inv P hold0 s.hold st s.top fin) (hi : st i v = 1) : left P (s.act P fin st i v).st < left P st := by
  rw [left_act hP h hi]; exact Nat.lt_succ_self _
theorem left_le (P : Pairs) (st : Nat → Nat → Nat) : left P st ≤ P.N := cnt_le _ _

/-! ### The holders' lists -/
def Inj (l : List Nat) : Prop := ∀ (s t : Nat) x, l[s]? = some x → l[t]? = some x → s = t
theorem Inj.of_nodup {l : List Nat} (h : l.Nodup) : Inj l := fun s t x h1 h2 => by
  have hs : s < l.length := (List.getElem?_eq_some_iff.1 h1).1
  exact (List.getElem?_inj hs h).1 (h1.trans h2.symm)
/-- The last takes the place of one that leaves. -/
def without (l : List Nat) (t last : Nat) : List Nat := (l.set t last).take (l.length - 1)
theorem without_get {l : List Nat} {t last : Nat} (ht : t < l.length) (s : Nat) : (without l t last)[s]? = if s < l.length - 1 then (if s = t then some last else l[s]?) else none := by
  unfold without
  rw [List.getElem?_take]
  by_cases h1 : s < l.length - 1
  · rw [if_pos h1, if_pos h1]
    by_cases h2 : s = t
    · subst h2; rw [if_pos rfl, List.getElem?_set_self ht]
    · rw [if_neg h2, List.getElem?_set_ne (fun x => h2 x.symm)]
  · rw [if_neg h1, if_neg h1]
theorem without_len {l : List Nat} {t last : Nat} : (without l t last).length = l.length - 1 := by
  unfold without; simp
structure Listed (l : List Nat) (p : Nat → Bool) (pl : Nat → Int) : Prop where
  inj : Inj l
  mem : ∀ i, i ∈ l ↔ p i = true
  at_ : ∀ (t i : Nat), l[t]? = some i → pl i = (t : Int)
theorem Listed.out {l : List Nat} {p : Nat → Bool} {pl : Nat → Int} (h : Listed l p pl) {i t last : Nat} (ht : l[t]? = some i) (hl : l[l.length - 1]? = some last) {pl' : Nat → Int}
    (hpl : ∀ x, x ≠ i → pl' x = if x = last then (t : Int) else pl x) : Listed (without l t last) (fun x => if x = i then false else p x) pl' := by
  have htl : t < l.length := (List.getElem?_eq_some_iff.1 ht).1
  have hg := without_get (last := last) htl
  refine ⟨fun s u x h1 h2 => ?_, fun x => ?_, fun s x hs => ?_⟩
  · rw [hg] at h1 h2
    split at h1 <;> split at h2 <;> try (first | cases h1 | cases h2)
    rename_i a b
    split at h1 <;> split at h2
    · omega
    · cases h1
      have := h.inj _ _ _ h2 hl; omega
    · cases h2
      have := h.inj _ _ _ h1 hl; omega
    · exact h.inj _ _ _ h1 h2
  · constructor
    · intro hx
      obtain ⟨s, hs⟩ := List.getElem?_of_mem hx
      rw [hg] at hs
      split at hs
      · split at hs
        · cases hs
          rename_i h3 h4
          have hne : last ≠ i := fun e => by
            rw [← e] at ht
            have := h.inj _ _ _ ht hl; omega
          rw [if_neg hne]
          exact (h.mem _).1 (List.mem_of_getElem? hl)
        · rename_i h3 h4
          have hne : x ≠ i := fun e => by
            rw [e] at hs
            exact h4 (h.inj _ _ _ hs ht)
          rw [if_neg hne]
          exact (h.mem _).1 (List.mem_of_getElem? hs)
      · cases hs
    · intro hx
      split at hx
      · cases hx
      · rename_i hne
        obtain ⟨s, hs⟩ := List.getElem?_of_mem ((h.mem x).2 hx)
        have hsl : s < l.length := (List.getElem?_eq_some_iff.1 hs).1
        by_cases e : s = l.length - 1
        · subst e
          rw [hl] at hs
          cases hs
          have htne : t ≠ l.length - 1 := fun e => by
            rw [← e] at hl; rw [ht] at hl; cases hl; exact hne rfl
          apply List.mem_of_getElem? (i := t)
          rw [hg, if_pos (by omega), if_pos rfl]
        · apply List.mem_of_getElem? (i := s)
          rw [hg, if_pos (by omega), if_neg (fun e2 => by subst e2; rw [ht] at hs; cases hs; exact hne rfl)]
          exact hs
  · rw [hg] at hs
    split at hs
    · split at hs
      · cases hs
        rename_i h3 h4
        have hne : last ≠ i := fun e => by
          rw [← e] at ht
          have := h.inj _ _ _ ht hl; omega
        rw [hpl _ hne, if_pos rfl, h4]
      · rename_i h3 h4
        have hne : x ≠ i := fun e => by
          rw [e] at hs
          exact h4 (h.inj _ _ _ hs ht)
        have hnl : x ≠ last := fun e => by
          rw [e] at hs
          have := h.inj _ _ _ hs hl; omega
        rw [hpl _ hne, if_neg hnl]
        exact h.at_ _ _ hs
    · cases hs
/-! ### What balls share -/
theorem share_sym (n : Nat) (hold : Nat → Nat → Bool) (i j : Nat) : share n hold i j = share n hold j i := by
  unfold share; exact cnt_congr (fun k _ => Bool.and_comm _ _)
theorem share_out {n : Nat} {hold : Nat → Nat → Bool} {i v : Nat} (hiv : hold i v = true) (hv : v < n) (a b : Nat) :
    share n hold a b = share n (upd hold i v false) a b + if (a = i ∧ hold b v = true) ∨ (b = i ∧ hold a v = true) then 1 else 0 := by
  unfold share
  by_cases hc : (a = i ∧ hold b v = true) ∨ (b = i ∧ hold a v = true)
  · rw [if_pos hc]
    refine cnt_set (v := v) ?_ ?_ (fun k _ hk => ?_) hv
    · rcases hc with ⟨rfl, _⟩ | ⟨rfl, _⟩
      · rw [upd_same]; rfl
      · rw [upd_same]; simp
    · rcases hc with ⟨rfl, h⟩ | ⟨rfl, h⟩ <;> simp [h, hiv]
    · rw [upd_ne _ _ _ _ (fun x => hk x.2), upd_ne _ _ _ _ (fun x => hk x.2)]
  · rw [if_neg hc]
    refine cnt_congr (fun k _ => ?_)
    by_cases e : k = v
    · subst e
      by_cases ea : a = i
      · subst ea
        have hb : hold b k = false := by
          cases hh : hold b k with
          | false => rfl
          | true => exact absurd (Or.inl ⟨rfl, hh⟩) hc
        have hbi : b ≠ a := fun e => by subst e; rw [hiv] at hb; cases hb
        rw [upd_same, upd_ne _ _ _ _ (fun x => hbi x.1), hb]; simp
      · by_cases eb : b = i
        · subst eb
          have ha : hold a k = false := by
            cases hh : hold a k with
            | false => rfl
            | true => exact absurd (Or.inr ⟨rfl, hh⟩) hc
          rw [upd_same, upd_ne _ _ _ _ (fun x => ea x.1), ha]; simp
        · rw [upd_ne _ _ _ _ (fun x => ea x.1), upd_ne _ _ _ _ (fun x => eb x.1)]
    · rw [upd_ne _ _ _ _ (fun x => e x.2), upd_ne _ _ _ _ (fun x => e x.2)]
end Go.Proofs.Qxb6613821aDoor
