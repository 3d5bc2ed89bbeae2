/- The pairs and the holders as they are gathered: plain. -/
import Derived.Test.Qxb6613821aDoorBuild
namespace Go.Proofs.Qxb6613821aDoor
set_option linter.unusedVariables false
set_option linter.unusedSimpArgs false
open Ieee Go.RowKit

def hlist (PS : List (Nat × Nat)) (v : Nat) : List Nat := (PS.filter (fun p => p.2 == v)).map (·.1)
def hlists (n : Nat) (PS : List (Nat × Nat)) : List (List Nat) := (List.range n).map (hlist PS)
theorem hlists_get {n v : Nat} (PS : List (Nat × Nat)) (hv : v < n) : (hlists n PS)[v]? = some (hlist PS v) := by simp [hlists, hv]
theorem hlists_len (n : Nat) (PS : List (Nat × Nat)) : (hlists n PS).length = n := by simp [hlists]
theorem hlist_snoc (PS : List (Nat × Nat)) (i v x : Nat) : hlist (PS ++ [(i, v)]) x = if x = v then hlist PS v ++ [i] else hlist PS x := by
  unfold hlist
  rw [List.filter_append, List.map_append]
  by_cases e : x = v
  · subst e; simp
  · have : ((v == x) = false) := by simpa using fun y => e y.symm
    rw [if_neg e]; simp [List.filter_cons, this]
theorem hlists_snoc {n : Nat} (PS : List (Nat × Nat)) (i v : Nat) (hv : v < n) : hlists n (PS ++ [(i, v)]) = (hlists n PS).set v (hlist PS v ++ [i]) := by
  apply List.ext_getElem?
  intro x
  by_cases hx : x < n
  · rw [hlists_get _ hx, hlist_snoc]
    by_cases e : x = v
    · subst e; rw [if_pos rfl, List.getElem?_set_self (by rw [hlists_len]; exact hv)]
    · rw [if_neg e, List.getElem?_set_ne (fun y => e y.symm), hlists_get _ hx]
  · rw [List.getElem?_eq_none (by rw [hlists_len]; omega), List.getElem?_eq_none (by simp [hlists_len]; omega)]
theorem hlist_mem (PS : List (Nat × Nat)) (i v : Nat) : i ∈ hlist PS v ↔ (i, v) ∈ PS := by
  unfold hlist
  simp
theorem hlist_len (PS : List (Nat × Nat)) (v : Nat) : (hlist PS v).length ≤ PS.length := by
  unfold hlist; rw [List.length_map]; exact List.length_filter_le _ _

def pcells (D : Nat → Nat → Nat) (PS : List (Nat × Nat)) : List Value := PS.flatMap fun p => [.int .i64 (p.1 : Int), .int .i64 (p.2 : Int), .float .f64 (D p.1 p.2)]
theorem pcells_snoc (D : Nat → Nat → Nat) (PS : List (Nat × Nat)) (i v : Nat) : pcells D (PS ++ [(i, v)]) = pcells D PS ++ [.int .i64 (i : Int), .int .i64 (v : Int), .float .f64 (D i v)] := by simp [pcells]
theorem pcells_len (D : Nat → Nat → Nat) (PS : List (Nat × Nat)) : (pcells D PS).length = PS.length * 3 := by
  induction PS with
  | nil => rfl
  | cons p PS ih => rw [show pcells D (p :: PS) = [.int .i64 (p.1 : Int), .int .i64 (p.2 : Int), .float .f64 (D p.1 p.2)] ++ pcells D PS from rfl, List.length_append, ih]; simp; omega

/-- The pairs gathered when t members of node i's ball are done. -/
def flat (B : List (List Nat)) (i t : Nat) : List (Nat × Nat) := (List.range i).flatMap (fun a => (B.getD a []).map (a, ·)) ++ ((B.getD i []).take t).map (i, ·)
theorem flat_step {B : List (List Nat)} {i t v : Nat} (h : (B.getD i [])[t]? = some v) : flat B i (t + 1) = flat B i t ++ [(i, v)] := by
  unfold flat
  rw [List.take_add_one, h]
  simp
theorem flat_next {B : List (List Nat)} {i t : Nat} (h : t = (B.getD i []).length) : flat B i t = flat B (i + 1) 0 := by
  unfold flat
  rw [h, List.take_length, List.range_succ, List.flatMap_append]
  simp
theorem mem_flat {B : List (List Nat)} {i t a v : Nat} : (a, v) ∈ flat B i t ↔ (a < i ∧ v ∈ B.getD a []) ∨ (a = i ∧ v ∈ (B.getD i []).take t) := by
  unfold flat
  rw [List.mem_append, List.mem_flatMap, List.mem_map]
  constructor
  · rintro (⟨x, hx, hm⟩ | ⟨x, hx, hm⟩)
    · rw [List.mem_map] at hm
      obtain ⟨y, hy, he⟩ := hm
      cases he
      exact Or.inl ⟨by simpa using hx, hy⟩
    · cases hm
      exact Or.inr ⟨rfl, hx⟩
  · rintro (⟨h1, h2⟩ | ⟨rfl, h2⟩)
    · exact Or.inl ⟨a, by simpa using h1, by rw [List.mem_map]; exact ⟨v, h2, rfl⟩⟩
    · exact Or.inr ⟨v, h2, rfl⟩
theorem flat_fresh {B : List (List Nat)} {i t v : Nat} (hn : (B.getD i []).Nodup) (h : (B.getD i [])[t]? = some v) : (i, v) ∉ flat B i t := by
  rw [mem_flat]
  rintro (⟨h1, _⟩ | ⟨_, h2⟩)
  · omega
  · obtain ⟨s, hs⟩ := List.getElem?_of_mem h2
    have hst : s < t := by
      have := (List.getElem?_eq_some_iff.1 hs).1
      rw [List.length_take] at this; omega
    rw [List.getElem?_take, if_pos hst] at hs
    have := Inj.of_nodup hn s t v hs h
    omega
theorem flat_len {B : List (List Nat)} (hb : ∀ a, (B.getD a []).length ≤ 256) : ∀ i t, (flat B i t).length ≤ 256 * (i + 1) := by
  intro i t
  have h1 : ∀ i, ((List.range i).flatMap (fun a => (B.getD a []).map (fun v => (a, v)))).length ≤ 256 * i := by
    intro i
    induction i with
    | zero => simp
    | succ i ih =>
      rw [List.range_succ, List.flatMap_append, List.length_append]
      have := hb i
      simp only [List.flatMap_cons, List.flatMap_nil, List.append_nil, List.length_map]
      omega
  have h2 := h1 i
  have h3 := hb i
  unfold flat
  rw [List.length_append, List.length_map, List.length_take]
  omega

/-- The places tell where each stands. -/
def BA (n : Nat) (PS : List (Nat × Nat)) (pl : Nat → Nat → Int) : Prop := ∀ v, v < n → Listed (hlist PS v) (fun i => decide ((i, v) ∈ PS)) (pl v)
theorem BA.start (n : Nat) (pl : Nat → Nat → Int) : BA n [] pl := fun v _ => ⟨fun s t x h => by simp [hlist] at h, fun i => by simp [hlist], fun t i h => by simp [hlist] at h⟩
theorem BA.step {n : Nat} {PS : List (Nat × Nat)} {pl : Nat → Nat → Int} (h : BA n PS pl) {i v : Nat} (hf : (i, v) ∉ PS) : BA n (PS ++ [(i, v)]) (upd pl v i ((hlist PS v).length : Int)) := by
  intro x hx
  rw [hlist_snoc]
  by_cases e : x = v
  · subst e
    rw [if_pos rfl]
    have hx2 := h x hx
    have hni : i ∉ hlist PS x := fun hh => hf ((hlist_mem PS i x).1 hh)
    refine ⟨fun s t y h1 h2 => ?_, fun j => ?_, fun t j hj => ?_⟩
    · by_cases a : s < (hlist PS x).length
      · rw [List.getElem?_append_left a] at h1
        by_cases b : t < (hlist PS x).length
        · rw [List.getElem?_append_left b] at h2
          exact hx2.inj s t y h1 h2
        · rw [List.getElem?_append_right (by omega)] at h2
          have h3 := List.mem_of_getElem? h2
          simp at h3
          subst h3
          exact absurd (List.mem_of_getElem? h1) hni
      · rw [List.getElem?_append_right (by omega)] at h1
        have h3 := List.mem_of_getElem? h1
        simp at h3
        subst h3
        by_cases b : t < (hlist PS x).length
        · rw [List.getElem?_append_left b] at h2
          exact absurd (List.mem_of_getElem? h2) hni
        · rw [List.getElem?_append_right (by omega)] at h2
          have a1 := (List.getElem?_eq_some_iff.1 h1).1
          have a2 := (List.getElem?_eq_some_iff.1 h2).1
          simp at a1 a2
          omega
    · rw [List.mem_append, hlist_mem]
      simp
    · by_cases a : t < (hlist PS x).length
      · rw [List.getElem?_append_left a] at hj
        have hji : j ≠ i := fun e => by subst e; exact hni (List.mem_of_getElem? hj)
        rw [upd_ne _ _ _ _ (fun y => hji y.2)]
        exact hx2.at_ t j hj
      · rw [List.getElem?_append_right (by omega)] at hj
        have a1 := (List.getElem?_eq_some_iff.1 hj).1
        have a2 := List.mem_of_getElem? hj
        simp at a1 a2
        subst a2
        rw [upd_same]
        congr 1; omega
  · rw [if_neg e]
    have hx2 := h x hx
    refine ⟨hx2.inj, fun j => ?_, fun t j hj => ?_⟩
    · rw [hx2.mem j]
      simp [e]
    · rw [upd_ne _ _ _ _ (fun y => e y.1)]
      exact hx2.at_ t j hj
/-! ### What is shared, as it is counted -/
def shA (hd : Nat → Nat → Bool) (v : Nat) (l : List Nat) (a b i j : Nat) : Nat := cnt (fun v' => hd i v' && hd j v') v + if (i ∈ l.take a ∧ j ∈ l) ∨ (l[a]? = some i ∧ j ∈ l.take b) then 1 else 0
theorem shA_start (hd : Nat → Nat → Bool) (v : Nat) (l : List Nat) (i j : Nat) : shA hd v l 0 0 i j = cnt (fun v' => hd i v' && hd j v') v := by simp [shA]
theorem shA_le (hd : Nat → Nat → Bool) (v : Nat) (l : List Nat) (a b i j : Nat) : shA hd v l a b i j ≤ v + 1 := by
  unfold shA
  have := cnt_le (fun v' => hd i v' && hd j v') v
  split <;> omega
theorem not_take {l : List Nat} (h : Inj l) {a x : Nat} (hx : l[a]? = some x) : x ∉ l.take a := by
  intro hm
  obtain ⟨s, hs⟩ := List.getElem?_of_mem hm
  have hst : s < a := by
    have := (List.getElem?_eq_some_iff.1 hs).1
    rw [List.length_take] at this; omega
  rw [List.getElem?_take, if_pos hst] at hs
  have := h s a x hs hx; omega
theorem mem_take_succ {l : List Nat} {b y : Nat} (hy : l[b]? = some y) (j : Nat) : j ∈ l.take (b + 1) ↔ j ∈ l.take b ∨ j = y := by
  rw [List.take_add_one, hy]; simp
theorem shA_in {hd : Nat → Nat → Bool} {v : Nat} {l : List Nat} (h : Inj l) {a b x y : Nat} (hx : l[a]? = some x) (hy : l[b]? = some y) (i j : Nat) :
    shA hd v l a (b + 1) i j = upd (shA hd v l a b) x y (shA hd v l a b x y + 1) i j := by
  by_cases e : i = x ∧ j = y
  · obtain ⟨rfl, rfl⟩ := e
    rw [upd_same]
    have h1 := not_take h hx
    have h2 := not_take h hy
    unfold shA
    rw [if_pos (Or.inr ⟨hx, (mem_take_succ hy j).2 (Or.inr rfl)⟩), if_neg (by rintro (⟨c, _⟩ | ⟨_, c⟩); exact h1 c; exact h2 c)]
  · rw [upd_ne _ _ _ _ e]
    unfold shA
    congr 1
    have : ((i ∈ l.take a ∧ j ∈ l) ∨ (l[a]? = some i ∧ j ∈ l.take (b + 1))) ↔ ((i ∈ l.take a ∧ j ∈ l) ∨ (l[a]? = some i ∧ j ∈ l.take b)) := by
      rw [mem_take_succ hy]
      constructor
      · rintro (c | ⟨c, d | d⟩)
        · exact Or.inl c
        · exact Or.inr ⟨c, d⟩
        · rw [hx] at c; cases c; exact absurd ⟨rfl, d⟩ e
      · rintro (c | ⟨c, d⟩)
        · exact Or.inl c
        · exact Or.inr ⟨c, Or.inl d⟩
    simp only [this]
theorem shA_next {hd : Nat → Nat → Bool} {v : Nat} {l : List Nat} {a b x : Nat} (hx : l[a]? = some x) (hb : b = l.length) (i j : Nat) : shA hd v l a b i j = shA hd v l (a + 1) 0 i j := by
  subst hb
  unfold shA
  congr 1
  have : ((i ∈ l.take a ∧ j ∈ l) ∨ (l[a]? = some i ∧ j ∈ l.take l.length)) ↔ ((i ∈ l.take (a + 1) ∧ j ∈ l) ∨ (l[a + 1]? = some i ∧ j ∈ l.take 0)) := by
    rw [mem_take_succ hx, List.take_length, List.take_zero, hx]
    constructor
    · rintro (⟨c, d⟩ | ⟨c, d⟩)
      · exact Or.inl ⟨Or.inl c, d⟩
      · cases c; exact Or.inl ⟨Or.inr rfl, d⟩
    · rintro (⟨c | c, d⟩ | ⟨_, d⟩)
      · exact Or.inl ⟨c, d⟩
      · subst c; exact Or.inr ⟨rfl, d⟩
      · cases d
  simp only [this]
theorem shA_end {hd : Nat → Nat → Bool} {v : Nat} {l : List Nat} (hm : ∀ i, i ∈ l ↔ hd i v = true) {a : Nat} (ha : a = l.length) (i j : Nat) : shA hd v l a 0 i j = cnt (fun v' => hd i v' && hd j v') (v + 1) := by
  subst ha
  unfold shA
  rw [show cnt (fun v' => hd i v' && hd j v') (v + 1) = cnt (fun v' => hd i v' && hd j v') v + if (hd i v && hd j v) = true then 1 else 0 from rfl]
  congr 1
  have : ((i ∈ l.take l.length ∧ j ∈ l) ∨ (l[l.length]? = some i ∧ j ∈ l.take 0)) ↔ ((hd i v && hd j v) = true) := by
    rw [List.take_length, List.take_zero, hm, hm]
    simp
  simp only [this]

theorem BM.congrSh {w wr : World} {H n : Nat} {vs : List Value} {L : List (List Nat)} {pl : Nat → Nat → Int} {sh sh' : Nat → Nat → Nat} {pv : Value} {m : Nat} {xs : List Value} (h : BM w wr H n vs L pl sh pv m xs) (e : ∀ i j, sh i j = sh' i j) : BM w wr H n vs L pl sh' pv m xs := by
  have : sh = sh' := by funext i j; exact e i j
  subst this; exact h
end Go.Proofs.Qxb6613821aDoor
