/- A trie of ascending lists, as the Go text lays it: each node's parent lies before it; kids are chained from the latest to the earliest. No Go text here. -/
namespace Go.Proofs.Qxb6613821aDoor
set_option linter.unusedVariables false
set_option linter.unusedSimpArgs false

/-- The latest kid of v below k, or none. -/
def kid (par : Nat → Nat) (v : Nat) : Nat → Option Nat
  | 0 => none
  | k + 1 => if k ≠ 0 ∧ par k = v then some k else kid par v k
theorem kid_some {par : Nat → Nat} {v : Nat} : ∀ {k c : Nat}, kid par v k = some c → c ≠ 0 ∧ par c = v ∧ c < k ∧ ∀ d, c < d → d < k → par d ≠ v
  | 0, c, h => by simp [kid] at h
  | k + 1, c, h => by
    unfold kid at h
    split at h
    · rename_i h1
      cases h
      exact ⟨h1.1, h1.2, by omega, fun d _ _ => by omega⟩
    · rename_i h1
      obtain ⟨a, b, c1, d1⟩ := kid_some h
      refine ⟨a, b, by omega, fun d h2 h3 => ?_⟩
      by_cases e : d = k
      · subst e; intro e2; exact h1 ⟨by omega, e2⟩
      · exact d1 d h2 (by omega)
theorem kid_none {par : Nat → Nat} {v : Nat} : ∀ {k : Nat}, kid par v k = none → ∀ d, d ≠ 0 → d < k → par d ≠ v
  | 0, _, d, _, h => by omega
  | k + 1, h, d, h0, hd => by
    unfold kid at h
    split at h
    · cases h
    · rename_i h1
      by_cases e : d = k
      · subst e; intro e2; exact h1 ⟨h0, e2⟩
      · exact kid_none h d h0 (by omega)
theorem kid_congr {par par' : Nat → Nat} {v : Nat} : ∀ {k : Nat}, (∀ d, d < k → par d = par' d) → kid par v k = kid par' v k
  | 0, _ => rfl
  | k + 1, h => by
    unfold kid
    rw [h k (by omega), kid_congr (k := k) (fun d hd => h d (by omega))]

/-- A node's path: the members from the root. -/
structure Trie where
  N : Nat
  par : Nat → Nat
  mb : Nat → Nat
  en : Nat → Bool
structure Trie.Ok (T : Trie) : Prop where
  pos : 0 < T.N
  lt : ∀ c, c ≠ 0 → c < T.N → T.par c < c
/-- The path up from a node: its members, the last first. -/
def Trie.PathR (T : Trie) : List Nat → Nat → Prop
  | [], v => v = 0
  | m :: r, v => v ≠ 0 ∧ v < T.N ∧ T.mb v = m ∧ Trie.PathR T r (T.par v)
def Trie.Path (T : Trie) (v : Nat) (l : List Nat) : Prop := T.PathR l.reverse v
theorem Trie.Path.root {T : Trie} : T.Path 0 [] := rfl
theorem Trie.Path.step {T : Trie} {c : Nat} {l : List Nat} (h0 : c ≠ 0) (hc : c < T.N) (h : T.Path (T.par c) l) : T.Path c (l ++ [T.mb c]) := by
  unfold Trie.Path
  rw [List.reverse_append]
  exact ⟨h0, hc, rfl, h⟩
theorem Trie.Path.ind {T : Trie} {M : Nat → List Nat → Prop} (hr : M 0 []) (hs : ∀ (c : Nat) (l : List Nat), c ≠ 0 → c < T.N → T.Path (T.par c) l → M (T.par c) l → M c (l ++ [T.mb c])) {v : Nat} {l : List Nat} (h : T.Path v l) : M v l := by
  have key : ∀ (r : List Nat) (v : Nat), T.PathR r v → M v r.reverse := by
    intro r
    induction r with
    | nil => intro v h; have e : v = 0 := h; subst e; exact hr
    | cons m r ih =>
      rintro v ⟨h0, hv, rfl, hp⟩
      rw [List.reverse_cons]
      exact hs v r.reverse h0 hv (by unfold Trie.Path; rw [List.reverse_reverse]; exact hp) (ih _ hp)
  have := key l.reverse v h
  rwa [List.reverse_reverse] at this
theorem Trie.Path.inv {T : Trie} {v : Nat} {l : List Nat} (h : T.Path v l) : v = 0 ∧ l = [] ∨ ∃ r, l = r ++ [T.mb v] ∧ v ≠ 0 ∧ T.Path (T.par v) r :=
  Trie.Path.ind (M := fun v l => v = 0 ∧ l = [] ∨ ∃ r, l = r ++ [T.mb v] ∧ v ≠ 0 ∧ T.Path (T.par v) r) (Or.inl ⟨rfl, rfl⟩) (fun _ l h0 _ hp _ => Or.inr ⟨l, rfl, h0, hp⟩) h
/-- The lists of the trie. -/
def Trie.Has (T : Trie) (l : List Nat) : Prop := ∃ v, v < T.N ∧ T.en v = true ∧ T.Path v l

def Trie.one : Trie := ⟨1, fun _ => 0, fun _ => 0, fun _ => false⟩
theorem Trie.one_ok : Trie.one.Ok := ⟨by decide, fun c h0 h1 => by simp [Trie.one] at h1; omega⟩
theorem Trie.one_has (l : List Nat) : ¬ Trie.one.Has l := by rintro ⟨v, _, h, _⟩; simp [Trie.one] at h
/-- A kid is added. -/
def Trie.add (T : Trie) (v m : Nat) : Trie := ⟨T.N + 1, fun c => if c = T.N then v else T.par c, fun c => if c = T.N then m else T.mb c, fun c => if c = T.N then false else T.en c⟩
theorem Trie.add_ok {T : Trie} (h : T.Ok) {v m : Nat} (hv : v < T.N) : (T.add v m).Ok := by
  refine ⟨by simp [Trie.add], fun c h0 hc => ?_⟩
  simp only [Trie.add] at *
  split
  · omega
  · exact h.lt c h0 (by omega)
theorem Trie.add_path {T : Trie} (_h : T.Ok) {v m x : Nat} {l : List Nat} (hp : T.Path x l) : (T.add v m).Path x l := by
  refine Trie.Path.ind (M := fun x l => (T.add v m).Path x l) .root (fun c l h0 hc _ ih => ?_) hp
  · have e1 : (T.add v m).par c = T.par c := by simp only [Trie.add]; rw [if_neg (by omega)]
    have e2 : (T.add v m).mb c = T.mb c := by simp only [Trie.add]; rw [if_neg (by omega)]
    rw [← e2]
    refine .step h0 (by simp only [Trie.add]; omega) ?_
    rw [e1]; exact ih
theorem Trie.add_new {T : Trie} (h : T.Ok) {v m : Nat} {l : List Nat} (hp : T.Path v l) : (T.add v m).Path T.N (l ++ [m]) := by
  have e1 : (T.add v m).par T.N = v := by simp [Trie.add]
  have e2 : (T.add v m).mb T.N = m := by simp [Trie.add]
  have := @Trie.Path.step (T.add v m) T.N l (by have := h.pos; omega) (by simp [Trie.add]) (by rw [e1]; exact T.add_path h hp)
  rw [e2] at this; exact this
theorem Trie.path_back {T : Trie} (h : T.Ok) {v m x : Nat} {l : List Nat} (hp : (T.add v m).Path x l) (hx : x < T.N) : T.Path x l := by
  refine Trie.Path.ind (T := T.add v m) (M := fun x l => x < T.N → T.Path x l) (fun _ => .root) (fun c l h0 hc hpp ih hx => ?_) hp hx
  · have e1 : (T.add v m).par c = T.par c := by simp only [Trie.add]; rw [if_neg (by omega)]
    have e2 : (T.add v m).mb c = T.mb c := by simp only [Trie.add]; rw [if_neg (by omega)]
    rw [e2]
    refine .step h0 hx ?_
    rw [e1] at ih
    exact ih (by have := h.lt c h0 hx; omega)
theorem Trie.add_has {T : Trie} (h : T.Ok) {v m : Nat} (l : List Nat) : (T.add v m).Has l ↔ T.Has l := by
  constructor
  · rintro ⟨x, hx, he, hp⟩
    have hne : x ≠ T.N := fun e => by subst e; simp [Trie.add] at he
    have hx' : x < T.N := by simp only [Trie.add] at hx; omega
    refine ⟨x, hx', ?_, T.path_back h hp hx'⟩
    simpa [Trie.add, hne] using he
  · rintro ⟨x, hx, he, hp⟩
    have hne : x ≠ T.N := by omega
    exact ⟨x, by simp only [Trie.add]; omega, by simpa [Trie.add, hne] using he, T.add_path h hp⟩
theorem Trie.path_inj {T : Trie} (_h : T.Ok) {v : Nat} {l l' : List Nat} (h1 : T.Path v l) (h2 : T.Path v l') : l = l' := by
  refine Trie.Path.ind (M := fun v l => ∀ l', T.Path v l' → l = l') (fun l' h2 => ?_) (fun c l h0 hc hp ih l' h2 => ?_) h1 l' h2
  · rcases h2.inv with ⟨_, e⟩ | ⟨r, _, h0, _⟩
    · exact e.symm
    · exact absurd rfl h0
  · rcases h2.inv with ⟨e, _⟩ | ⟨r, e, _, hp2⟩
    · exact absurd e h0
    · rw [e, ih r hp2]
/-- A list is marked. -/
def Trie.mark (T : Trie) (v : Nat) : Trie := ⟨T.N, T.par, T.mb, fun c => if c = v then true else T.en c⟩
theorem Trie.mark_ok {T : Trie} (h : T.Ok) (v : Nat) : (T.mark v).Ok := ⟨h.pos, h.lt⟩
theorem Trie.mark_path {T : Trie} {v x : Nat} {l : List Nat} : (T.mark v).Path x l ↔ T.Path x l := by
  constructor
  · intro hp
    exact Trie.Path.ind (T := T.mark v) (M := fun x l => T.Path x l) .root (fun c l h0 hc _ ih => .step (T := T) h0 hc ih) hp
  · intro hp
    exact Trie.Path.ind (T := T) (M := fun x l => (T.mark v).Path x l) .root (fun c l h0 hc _ ih => .step (T := T.mark v) h0 hc ih) hp
theorem Trie.mark_has {T : Trie} (h : T.Ok) {v : Nat} {k : List Nat} (hv : v < T.N) (hp : T.Path v k) (l : List Nat) : (T.mark v).Has l ↔ T.Has l ∨ l = k := by
  constructor
  · rintro ⟨x, hx, he, hq⟩
    have hq' := Trie.mark_path.1 hq
    by_cases e : x = v
    · subst e; exact Or.inr (T.path_inj h hq' hp)
    · exact Or.inl ⟨x, hx, by simpa [Trie.mark, e] using he, hq'⟩
  · rintro (⟨x, hx, he, hq⟩ | rfl)
    · refine ⟨x, hx, ?_, Trie.mark_path.2 hq⟩
      simp only [Trie.mark]; split <;> simp [he]
    · exact ⟨v, hv, by simp [Trie.mark], Trie.mark_path.2 hp⟩

/-! ### The search -/
theorem nodup_len {N : Nat} : ∀ {l : List Nat}, l.Nodup → (∀ x ∈ l, x < N) → l.length ≤ N := by
  induction N with
  | zero =>
    intro l _ h
    cases l with
    | nil => simp
    | cons a l => exact absurd (h a (by simp)) (by omega)
  | succ N ih =>
    intro l hn h
    have h1 := ih (l := l.erase N) (hn.erase N) (fun x hx => by
      have h2 := h x (List.mem_of_mem_erase hx)
      have h3 : x ≠ N := fun e => by subst e; exact (List.Nodup.not_mem_erase hn) hx
      omega)
    have h2 : l.length ≤ (l.erase N).length + 1 := by rw [List.length_erase]; split <;> omega
    omega

/-- The state of the search: S the stack, V the nodes tried; P: is m in the set? -/
structure Trie.Seek (T : Trie) (P : Nat → Bool) (S V : List Nat) : Prop where
  nd : (S ++ V).Nodup
  lt : ∀ x ∈ S ++ V, x < T.N
  zero : 0 ∈ S ++ V
  up : ∀ x ∈ S ++ V, x ≠ 0 → T.par x ∈ V ∧ P (T.mb x) = true
  down : ∀ x ∈ V, ∀ c, c ≠ 0 → c < T.N → T.par c = x → P (T.mb c) = true → c ∈ S ++ V
theorem Trie.Seek.start {T : Trie} (h : T.Ok) (P : Nat → Bool) : T.Seek P [0] [] := by
  refine ⟨by simp, by simpa using h.pos, by simp, fun x hx h0 => ?_, fun x hx => by simp at hx⟩
  simp at hx; exact absurd hx h0
/-- While v's kids are tried: those not below k (of v) that are in the set have been laid on the stack. -/
structure Trie.Seek2 (T : Trie) (P : Nat → Bool) (S V : List Nat) (v k : Nat) : Prop where
  nd : (S ++ V).Nodup
  inV : v ∈ V
  lt : ∀ x ∈ S ++ V, x < T.N
  zero : 0 ∈ S ++ V
  up : ∀ x ∈ S ++ V, x ≠ 0 → T.par x ∈ V ∧ P (T.mb x) = true
  down : ∀ x ∈ V, ∀ c, c ≠ 0 → c < T.N → T.par c = x → P (T.mb c) = true → (x = v → k ≤ c) → c ∈ S ++ V
  fresh : ∀ c, c < k → c ≠ 0 → T.par c = v → c ∉ S ++ V
theorem Trie.Seek.pop {T : Trie} (_h : T.Ok) {P : Nat → Bool} {S V : List Nat} {v : Nat} (hs : T.Seek P (S ++ [v]) V) : T.Seek2 P S (v :: V) v T.N := by
  have hm : ∀ x, x ∈ S ++ v :: V ↔ x ∈ (S ++ [v]) ++ V := by intro x; simp
  have hnd : (S ++ v :: V).Nodup := by have := hs.nd; simpa using this
  refine ⟨hnd, by simp, fun x hx => hs.lt x ((hm x).1 hx), (hm 0).2 hs.zero, fun x hx h0 => ?_, fun x hx c h0 hc hp hP hk => ?_, fun c hc h0 hp hx => ?_⟩
  · obtain ⟨a, b⟩ := hs.up x ((hm x).1 hx) h0
    exact ⟨by simp [a], b⟩
  · simp only [List.mem_cons] at hx
    rcases hx with rfl | hx
    · exact absurd (hk rfl) (by omega)
    · exact (hm c).2 (hs.down x hx c h0 hc hp hP)
  · have hv : v ∉ V := by
      have := hnd
      rw [List.nodup_append] at this
      exact (List.nodup_cons.1 this.2.1).1
    have := (hs.up c ((hm c).1 hx) h0).1
    rw [hp] at this
    exact hv this
theorem Trie.Seek2.skip {T : Trie} {P : Nat → Bool} {S V : List Nat} {v k c : Nat} (hs : T.Seek2 P S V v k) (hc : ∀ d, c < d → d < k → T.par d ≠ v) (hP : P (T.mb c) = false) : T.Seek2 P S V v c ∨ k ≤ c := by
  by_cases hk : k ≤ c
  · exact Or.inr hk
  · refine Or.inl ⟨hs.nd, hs.inV, hs.lt, hs.zero, hs.up, fun x hx d h0 hd hp hPd hle => ?_, fun d hd => hs.fresh d (by omega)⟩
    refine hs.down x hx d h0 hd hp hPd (fun e => ?_)
    subst e
    have h1 := hle rfl
    by_cases e2 : d = c
    · subst e2; rw [hP] at hPd; cases hPd
    · by_cases e3 : d < k
      · exact absurd hp (hc d (by omega) e3)
      · omega
theorem Trie.Seek2.push {T : Trie} {P : Nat → Bool} {S V : List Nat} {v k c : Nat} (hs : T.Seek2 P S V v k) (h0 : c ≠ 0) (hck : c < k) (hcN : c < T.N) (hpar : T.par c = v) (hc : ∀ d, c < d → d < k → T.par d ≠ v) (hP : P (T.mb c) = true) : T.Seek2 P (S ++ [c]) V v c := by
  have hnew := hs.fresh c hck h0 hpar
  have hm : ∀ x, x ∈ (S ++ [c]) ++ V ↔ x = c ∨ x ∈ S ++ V := by intro x; simp; constructor <;> (intro h; rcases h with h | h | h <;> simp [h])
  refine ⟨?_, hs.inV, fun x hx => ?_, (hm 0).2 (Or.inr hs.zero), fun x hx hx0 => ?_, fun x hx d hd0 hd hp hPd hle => ?_, fun d hd hd0 hp hx => ?_⟩
  · have h1 := hs.nd
    rw [List.append_assoc]
    rw [List.nodup_append] at h1 ⊢
    simp only [List.mem_append, not_or] at hnew
    refine ⟨h1.1, List.nodup_cons.2 ⟨hnew.2, h1.2.1⟩, fun a ha b hb => ?_⟩
    simp only [List.cons_append, List.nil_append, List.mem_cons] at hb
    rcases hb with rfl | hb
    · intro e; subst e; exact hnew.1 ha
    · exact h1.2.2 a ha b hb
  · rcases (hm x).1 hx with rfl | hx
    · exact hcN
    · exact hs.lt x hx
  · rcases (hm x).1 hx with rfl | hx
    · exact ⟨by rw [hpar]; exact hs.inV, hP⟩
    · exact hs.up x hx hx0
  · refine (hm d).2 ?_
    by_cases e2 : d = c
    · exact Or.inl e2
    · refine Or.inr (hs.down x hx d hd0 hd hp hPd (fun e => ?_))
      subst e
      have h1 := hle rfl
      by_cases e3 : d < k
      · exact absurd hp (hc d (by omega) e3)
      · omega
  · rcases (hm d).1 hx with e | hx
    · omega
    · exact hs.fresh d (by omega) hd0 hp hx
theorem Trie.Seek2.close {T : Trie} {P : Nat → Bool} {S V : List Nat} {v k : Nat} (hs : T.Seek2 P S V v k) (hc : ∀ d, d ≠ 0 → d < k → T.par d ≠ v) : T.Seek P S V :=
  ⟨hs.nd, hs.lt, hs.zero, hs.up, fun x hx c h0 hcN hp hP => hs.down x hx c h0 hcN hp hP (fun e => by
    subst e
    by_cases h : k ≤ c
    · exact h
    · exact absurd hp (hc c h0 (by omega)))⟩
theorem Trie.Seek.len {T : Trie} {P : Nat → Bool} {S V : List Nat} (hs : T.Seek P S V) : S.length + V.length ≤ T.N := by
  have := nodup_len hs.nd hs.lt
  simpa using this
theorem Trie.Seek2.len {T : Trie} {P : Nat → Bool} {S V : List Nat} {v k : Nat} (hs : T.Seek2 P S V v k) : S.length + V.length ≤ T.N := by
  have := nodup_len hs.nd hs.lt
  simpa using this
/-- Every node that the search has come upon has its path in the set. -/
theorem Trie.all_in {T : Trie} (h : T.Ok) {P : Nat → Bool} {A : List Nat} (hup : ∀ x ∈ A, x ≠ 0 → T.par x ∈ A ∧ P (T.mb x) = true) (hlt : ∀ x ∈ A, x < T.N) : ∀ x, x ∈ A → ∃ l, T.Path x l ∧ ∀ m ∈ l, P m = true := by
  intro x
  induction x using Nat.strongRecOn with
  | _ x ih =>
    intro hx
    by_cases h0 : x = 0
    · subst h0; exact ⟨[], .root, by simp⟩
    · obtain ⟨h1, h2⟩ := hup x hx h0
      obtain ⟨l, h3, h4⟩ := ih _ (h.lt x h0 (hlt x hx)) h1
      refine ⟨l ++ [T.mb x], .step h0 (hlt x hx) h3, fun m hm => ?_⟩
      simp only [List.mem_append, List.mem_singleton] at hm
      rcases hm with hm | rfl
      · exact h4 m hm
      · exact h2
theorem Trie.Seek.found {T : Trie} (h : T.Ok) {P : Nat → Bool} {S V : List Nat} (hs : T.Seek P S V) {v : Nat} (hv : v ∈ V) (he : T.en v = true) : ∃ l, T.Has l ∧ ∀ m ∈ l, P m = true := by
  obtain ⟨l, h1, h2⟩ := T.all_in h (A := S ++ V) (P := P) (fun x hx h0 => ⟨by simp [(hs.up x hx h0).1], (hs.up x hx h0).2⟩) hs.lt v (by simp [hv])
  exact ⟨l, ⟨v, hs.lt v (by simp [hv]), he, h1⟩, h2⟩
theorem Trie.Seek.none {T : Trie} (_h : T.Ok) {P : Nat → Bool} {V : List Nat} (hs : T.Seek P [] V) (he : ∀ v ∈ V, T.en v = false) : ¬ ∃ l, T.Has l ∧ ∀ m ∈ l, P m = true := by
  rintro ⟨l, ⟨v, hv, hen, hp⟩, hl⟩
  have key : ∀ {v : Nat} {l : List Nat}, T.Path v l → (∀ m ∈ l, P m = true) → v ∈ V := by
    intro v l hp
    refine Trie.Path.ind (M := fun v l => (∀ m ∈ l, P m = true) → v ∈ V) (fun _ => by simpa using hs.zero) (fun c l h0 hc _ ih hl => ?_) hp
    · have h1 := ih (fun m hm => hl m (by simp [hm]))
      have := hs.down _ h1 c h0 hc rfl (hl _ (by simp))
      simpa using this
  have := he v (key hp hl)
  rw [hen] at this; cases this
end Go.Proofs.Qxb6613821aDoor
