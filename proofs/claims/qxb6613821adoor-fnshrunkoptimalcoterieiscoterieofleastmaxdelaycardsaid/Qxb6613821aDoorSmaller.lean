/- Which sets hold a smaller one: plain. -/
import Derived.Test.Qxb6613821aDoorOrder2
import Derived.Sort.AssemblyPlain
namespace Go.Proofs.Qxb6613821aDoor
set_option linter.unusedVariables false
set_option linter.unusedSimpArgs false
open Ieee Go.RowKit Go.Sort Go.Lib

/-! ### The order -/
structure OrdOk (bt sz : Nat → Nat) (wd n : Nat) (o : Nat → Nat) : Prop where
  lt : ∀ k, k < n → o k < n
  inj : ∀ j k, j < n → k < n → o j = o k → j = k
  sur : ∀ q, q < n → ∃ k, k < n ∧ o k = q
  ord : ∀ i j, i < j → j < n → klt bt sz wd (o j) (o i) = false

theorem ord_ok (bt sz : Nat → Nat) (wd n : Nat) (hw : 0 < wd) : OrdOk bt sz wd n (fun k => (ordOf bt sz wd n)[k]!) := by
  by_cases h1 : n ≤ 1
  · have e : ordOf bt sz wd n = Array.range n := by unfold ordOf sorted; rw [if_pos h1]
    rw [e]
    refine ⟨fun k hk => by simp [hk], fun j k hj hk _ => by omega, fun q hq => ⟨q, hq, by simp [hq]⟩, fun i j hi hj => by omega⟩
  · have e : ordOf bt sz wd n = pdq (klt bt sz wd) (Array.range n) 0 n (Lib.bitLen n) true true := by unfold ordOf sorted; rw [if_neg h1]
    obtain ⟨⟨hs, _, hp⟩, hso⟩ := pdq_sorts (klt bt sz wd) (klt_swo bt sz wd hw) (Array.range n) 0 n (Lib.bitLen n) true true (Nat.zero_le _) (by simp) (Or.inl rfl)
    rw [← e] at hs hp hso
    have hsz : (ordOf bt sz wd n).size = n := by simpa using hs
    have hp2 : (ordOf bt sz wd n).toList.Perm (List.range n) := by
      have a0 : ∀ (a : Array Nat) (m : Nat), a.size = m → a.extract 0 m = a := by intro a m h; subst h; simp
      have a1 : (ordOf bt sz wd n).extract 0 n = ordOf bt sz wd n := a0 _ _ hsz
      have a2 : ((Array.range n).extract 0 n).toList = List.range n := by simp
      rw [a1, a2] at hp; exact hp
    have hmem : ∀ k, k < n → (ordOf bt sz wd n)[k]! ∈ (ordOf bt sz wd n).toList := by
      intro k hk
      rw [getElem!_pos _ k (by omega)]
      simp
    have hnd : (ordOf bt sz wd n).toList.Nodup := hp2.nodup_iff.2 List.nodup_range
    refine ⟨fun k hk => ?_, fun j k hj hk he => ?_, fun q hq => ?_, fun i j hi hj => hso i j (Nat.zero_le _) hi hj⟩
    · have := hp2.mem_iff.1 (hmem k hk)
      simpa using this
    · rw [getElem!_pos _ j (by omega), getElem!_pos _ k (by omega)] at he
      have hj2 : j < (ordOf bt sz wd n).toList.length := by simp; omega
      refine (List.getElem?_inj hj2 hnd).1 ?_
      rw [List.getElem?_eq_getElem hj2, List.getElem?_eq_getElem (show k < (ordOf bt sz wd n).toList.length by simp; omega)]
      simpa using he
    · have := hp2.mem_iff.2 (show q ∈ List.range n from by simpa using hq)
      obtain ⟨k, hk, he⟩ := List.getElem_of_mem this
      refine ⟨k, by simpa [hsz] using hk, ?_⟩
      rw [getElem!_pos _ k (by simpa using hk)]
      simpa using he
theorem OrdOk.sz_le {bt sz : Nat → Nat} {wd n : Nat} {o : Nat → Nat} (h : OrdOk bt sz wd n o) {i j : Nat} (hij : i ≤ j) (hj : j < n) : sz (o i) ≤ sz (o j) := by
  by_cases e : i = j
  · subst e; exact Nat.le_refl _
  · have h1 := h.ord i j (by omega) hj
    unfold klt at h1
    by_cases hs : sz (o j) = sz (o i)
    · omega
    · rw [if_neg hs] at h1
      simp at h1; exact h1

/-! ### Sets within sets -/
theorem holdsB_iff {bt : Nat → Nat} (hbt : ∀ i, bt i < 2 ^ 64) (wd a b : Nat) : holdsB bt wd a b = true ↔ ∀ v, v < 64 * wd → mem bt (b * wd) v = true → mem bt (a * wd) v = true := by
  unfold holdsB
  rw [List.all_eq_true]
  constructor
  · intro h v hv hm
    have h1 := h (v / 64) (by simp; omega)
    have h2 := (andNot_zero (hbt _) (hbt _)).1 (by simpa using h1)
    unfold mem at *
    exact h2 (v % 64) (by omega) hm
  · intro h k hk
    simp only [List.mem_range] at hk
    have h2 := (andNot_zero (x := bt (a * wd + k)) (y := bt (b * wd + k)) (hbt _) (hbt _)).2 (fun i hi hb => by
      have := h (64 * k + i) (by omega)
      rw [mem_at _ _ _ _ hi, mem_at _ _ _ _ hi] at this
      exact this hb)
    simpa using h2
theorem holdsB_trans {bt : Nat → Nat} (hbt : ∀ i, bt i < 2 ^ 64) {wd a b c : Nat} (h1 : holdsB bt wd a b = true) (h2 : holdsB bt wd b c = true) : holdsB bt wd a c = true := by
  rw [holdsB_iff hbt] at *
  exact fun v hv hm => h1 v hv (h2 v hv hm)
theorem mlist_mem (bt : Nat → Nat) (p u v : Nat) : v ∈ mlist bt p u ↔ v < u ∧ mem bt p v = true := by
  unfold mlist; simp
theorem holdsB_list {bt : Nat → Nat} (hbt : ∀ i, bt i < 2 ^ 64) (wd a b : Nat) : holdsB bt wd a b = true ↔ ∀ m ∈ mlist bt (b * wd) (64 * wd), mem bt (a * wd) m = true := by
  rw [holdsB_iff hbt]
  constructor
  · intro h m hm
    rw [mlist_mem] at hm
    exact h m hm.1 hm.2
  · intro h v hv hm
    exact h v ((mlist_mem _ _ _ _).2 ⟨hv, hm⟩)

/-- Does set q hold a smaller one? -/
def holdsS (bt sz : Nat → Nat) (wd n q : Nat) : Bool := (List.range n).any fun r => decide (sz r < sz q) && holdsB bt wd q r
theorem holdsS_iff (bt sz : Nat → Nat) (wd n q : Nat) : holdsS bt sz wd n q = true ↔ ∃ r, r < n ∧ sz r < sz q ∧ holdsB bt wd q r = true := by
  unfold holdsS
  rw [List.any_eq_true]
  constructor
  · rintro ⟨r, h1, h2⟩
    simp at h1 h2
    exact ⟨r, h1, h2.1, h2.2⟩
  · rintro ⟨r, h1, h2, h3⟩
    exact ⟨r, by simpa using h1, by simp [h2, h3]⟩
/-- It holds one that holds no smaller one. -/
theorem holdsS_least {bt sz : Nat → Nat} (hbt : ∀ i, bt i < 2 ^ 64) {wd n q : Nat} : ∀ (s r : Nat), sz r ≤ s → r < n → holdsB bt wd q r = true → ∃ r0, r0 < n ∧ sz r0 ≤ sz r ∧ holdsB bt wd q r0 = true ∧ holdsS bt sz wd n r0 = false := by
  intro s
  induction s with
  | zero =>
    intro r hs hr hb
    refine ⟨r, hr, Nat.le_refl _, hb, ?_⟩
    cases hh : holdsS bt sz wd n r with
    | false => rfl
    | true =>
      obtain ⟨x, _, h2, _⟩ := (holdsS_iff _ _ _ _ _).1 hh
      omega
  | succ s ih =>
    intro r hs hr hb
    cases hh : holdsS bt sz wd n r with
    | false => exact ⟨r, hr, Nat.le_refl _, hb, hh⟩
    | true =>
      obtain ⟨x, h1, h2, h3⟩ := (holdsS_iff _ _ _ _ _).1 hh
      obtain ⟨r0, a, b, c, d⟩ := ih x (by omega) h1 (holdsB_trans hbt hb h3)
      exact ⟨r0, a, by omega, c, d⟩
/-- Pair by pair: the sets before it in the order tell. -/
theorem holdsS_before {bt sz : Nat → Nat} {wd n : Nat} {o : Nat → Nat} (h : OrdOk bt sz wd n o) {k : Nat} (hk : k < n) :
    holdsS bt sz wd n (o k) = true ↔ ∃ j, j < k ∧ sz (o j) < sz (o k) ∧ holdsB bt wd (o k) (o j) = true := by
  rw [holdsS_iff]
  constructor
  · rintro ⟨r, h1, h2, h3⟩
    obtain ⟨j, hj, rfl⟩ := h.sur r h1
    refine ⟨j, ?_, h2, h3⟩
    by_cases e : j < k
    · exact e
    · have := h.sz_le (i := k) (j := j) (by omega) hj; omega
  · rintro ⟨j, h1, h2, h3⟩
    exact ⟨o j, h.lt j (by omega), h2, h3⟩
/-- By the trie: it holds the lists of the sets before 'start' that hold no smaller one. -/
theorem holdsS_trie {bt sz : Nat → Nat} (hbt : ∀ i, bt i < 2 ^ 64) {wd n : Nat} {o : Nat → Nat} (h : OrdOk bt sz wd n o) {start k : Nat} (hsk : start ≤ k) (hk : k < n) (hsame : sz (o k) = sz (o start)) (hless : ∀ j, j < start → sz (o j) < sz (o start))
    {Has : List Nat → Prop} (hH : ∀ l, Has l ↔ ∃ j, j < start ∧ holdsS bt sz wd n (o j) = false ∧ l = mlist bt (o j * wd) (64 * wd)) :
    (∃ l, Has l ∧ ∀ m ∈ l, mem bt (o k * wd) m = true) ↔ holdsS bt sz wd n (o k) = true := by
  constructor
  · rintro ⟨l, hl, hm⟩
    obtain ⟨j, hj, hf, rfl⟩ := (hH l).1 hl
    rw [holdsS_iff]
    exact ⟨o j, h.lt j (by omega), by have := hless j hj; omega, (holdsB_list hbt wd _ _).2 hm⟩
  · intro hh
    obtain ⟨r, h1, h2, h3⟩ := (holdsS_iff _ _ _ _ _).1 hh
    obtain ⟨r0, a, b, c, d⟩ := holdsS_least (sz := sz) (n := n) hbt (sz r) r (Nat.le_refl _) h1 h3
    obtain ⟨j, hj, rfl⟩ := h.sur r0 a
    have hjs : j < start := by
      by_cases e : j < start
      · exact e
      · have := h.sz_le (i := start) (j := j) (by omega) hj; omega
    exact ⟨_, (hH _).2 ⟨j, hjs, d, rfl⟩, (holdsB_list hbt wd _ _).1 c⟩

/-! ### Equal sets -/
theorem cmpWF_zero (bt : Nat → Nat) (p r : Nat) : ∀ k j, cmpWF bt p r k j = 0 → ∀ i, i < k → bt (p + (j + i)) = bt (r + (j + i))
  | 0, _, _, i, hi => by omega
  | k + 1, j, h, i, hi => by
    unfold cmpWF at h
    split at h
    · rename_i he
      cases i with
      | zero => exact he
      | succ i =>
        have := cmpWF_zero bt p r k (j + 1) h i (by omega)
        rw [show j + (i + 1) = j + 1 + i from by omega]; exact this
    · rename_i he
      exact absurd ((cmpI_zero _ _).1 h) he
theorem compareF_zero {bt sz : Nat → Nat} {wd a b : Nat} (h : compareF bt sz wd a b = 0) : sz a = sz b ∧ ∀ i, i < wd → bt (a * wd + i) = bt (b * wd + i) := by
  unfold compareF at h
  split at h
  · rename_i hs
    refine ⟨hs, fun i hi => ?_⟩
    have := cmpWF_zero bt _ _ wd 0 h i hi
    simpa using this
  · rename_i hs
    exact absurd ((cmpI_zero _ _).1 h) hs
theorem mem_same {bt : Nat → Nat} {wd a b : Nat} (h : ∀ i, i < wd → bt (a * wd + i) = bt (b * wd + i)) {v : Nat} (hv : v < 64 * wd) : mem bt (a * wd) v = mem bt (b * wd) v := by
  unfold mem; rw [h (v / 64) (by omega)]
theorem mlist_same {bt : Nat → Nat} {wd a b : Nat} (h : ∀ i, i < wd → bt (a * wd + i) = bt (b * wd + i)) : mlist bt (a * wd) (64 * wd) = mlist bt (b * wd) (64 * wd) := by
  unfold mlist
  refine List.filter_congr (fun v hv => ?_)
  exact mem_same h (by simpa using hv)
theorem holdsS_same {bt sz : Nat → Nat} {wd n a b : Nat} (h : compareF bt sz wd a b = 0) : holdsS bt sz wd n a = holdsS bt sz wd n b := by
  obtain ⟨h1, h2⟩ := compareF_zero h
  unfold holdsS
  congr 1
  funext r
  rw [h1]
  congr 1
  unfold holdsB
  rw [Bool.eq_iff_iff, List.all_eq_true, List.all_eq_true]
  constructor
  · intro hh k hk
    rw [← h2 k (by simpa using hk)]; exact hh k hk
  · intro hh k hk
    rw [h2 k (by simpa using hk)]; exact hh k hk

/-! ### What is known when k sets of the order are done -/
def hTo (bt sz : Nat → Nat) (wd n : Nat) (o : Nat → Nat) (k q : Nat) : Bool := (List.range k).any fun j => o j == q && holdsS bt sz wd n (o j)
theorem hTo_zero (bt sz : Nat → Nat) (wd n : Nat) (o : Nat → Nat) (q : Nat) : hTo bt sz wd n o 0 q = false := rfl
theorem hTo_self {bt sz : Nat → Nat} {wd n : Nat} {o : Nat → Nat} (h : OrdOk bt sz wd n o) {k : Nat} (hk : k < n) : hTo bt sz wd n o k (o k) = false := by
  unfold hTo
  rw [List.any_eq_false]
  intro j hj
  simp only [List.mem_range] at hj
  have : o j ≠ o k := fun e => by have := h.inj j k (by omega) hk e; omega
  simp [this]
theorem hTo_step {bt sz : Nat → Nat} {wd n : Nat} {o : Nat → Nat} (h : OrdOk bt sz wd n o) {k : Nat} (hk : k < n) (q : Nat) : hTo bt sz wd n o (k + 1) q = if q = o k then holdsS bt sz wd n (o k) else hTo bt sz wd n o k q := by
  unfold hTo
  rw [List.range_succ, List.any_append]
  by_cases e : q = o k
  · subst e
    rw [if_pos rfl]
    have := hTo_self h hk
    unfold hTo at this
    rw [this]; simp
  · rw [if_neg e]
    have : (o k == q) = false := by simpa using fun x => e x.symm
    simp [this]
theorem hTo_done {bt sz : Nat → Nat} {wd n : Nat} {o : Nat → Nat} (h : OrdOk bt sz wd n o) {j k : Nat} (hj : j < k) (hk : k ≤ n) : hTo bt sz wd n o k (o j) = holdsS bt sz wd n (o j) := by
  rw [Bool.eq_iff_iff]
  unfold hTo
  rw [List.any_eq_true]
  constructor
  · rintro ⟨i, hi, hh⟩
    simp at hi hh
    rw [← hh.1]; exact hh.2
  · intro hh
    exact ⟨j, by simpa using hj, by simp [hh]⟩
theorem hTo_end {bt sz : Nat → Nat} {wd n : Nat} {o : Nat → Nat} (h : OrdOk bt sz wd n o) {q : Nat} (hq : q < n) : hTo bt sz wd n o n q = holdsS bt sz wd n q := by
  obtain ⟨j, hj, rfl⟩ := h.sur q hq
  exact hTo_done h hj (Nat.le_refl _)
end Go.Proofs.Qxb6613821aDoor
