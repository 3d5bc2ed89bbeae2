/- What Minimal keeps: none holds another, and each set holds a kept one. Plain. -/
import Derived.Test.Qxb6613821aDoorMini
import Derived.Test.Qxb6613821aDoorPop
namespace Go.Proofs.Qxb6613821aDoor
set_option linter.unusedVariables false
set_option linter.unusedSimpArgs false
open Ieee Go.RowKit

theorem cmpI_anti (x y : Nat) : cmpI x y = - cmpI y x := by
  unfold cmpI
  by_cases h : x < y
  · rw [if_pos h, if_neg (by omega), if_pos h]
  · by_cases h2 : y < x
    · rw [if_neg h, if_pos h2, if_pos h2]; rfl
    · rw [if_neg h, if_neg h2, if_neg h2, if_neg h]; rfl
theorem cmpWF_anti (bt : Nat → Nat) (p r : Nat) : ∀ k j, cmpWF bt p r k j = - cmpWF bt r p k j
  | 0, _ => rfl
  | k + 1, j => by
    unfold cmpWF
    by_cases h : bt (p + j) = bt (r + j)
    · rw [if_pos h, if_pos h.symm, cmpWF_anti bt p r k]
    · rw [if_neg h, if_neg (fun e => h e.symm), cmpI_anti]
theorem compareF_anti (bt sz : Nat → Nat) (wd a b : Nat) : compareF bt sz wd a b = - compareF bt sz wd b a := by
  unfold compareF
  by_cases h : sz a = sz b
  · rw [if_pos h, if_pos h.symm, cmpWF_anti]
  · rw [if_neg h, if_neg (fun e => h e.symm), cmpI_anti]
theorem cmpWF_same (bt : Nat → Nat) (p p' r : Nat) : ∀ k j, (∀ i, i < k → bt (p + (j + i)) = bt (p' + (j + i))) → cmpWF bt p r k j = cmpWF bt p' r k j
  | 0, _, _ => rfl
  | k + 1, j, h => by
    have h0 := h 0 (by omega)
    rw [Nat.add_zero] at h0
    unfold cmpWF
    rw [h0, cmpWF_same bt p p' r k (j + 1) (fun i hi => by have := h (i + 1) (by omega); rwa [show j + (i + 1) = j + 1 + i from by omega] at this)]
theorem cmpWF_self (bt : Nat → Nat) (p : Nat) : ∀ k j, cmpWF bt p p k j = 0
  | 0, _ => rfl
  | k + 1, j => by unfold cmpWF; rw [if_pos rfl]; exact cmpWF_self bt p k (j + 1)
theorem compareF_same {bt sz : Nat → Nat} {wd a b : Nat} (hs : sz a = sz b) (h : ∀ i, i < wd → bt (a * wd + i) = bt (b * wd + i)) (c : Nat) : compareF bt sz wd a c = compareF bt sz wd b c := by
  unfold compareF
  rw [hs, cmpWF_same bt (a * wd) (b * wd) (c * wd) wd 0 (fun i hi => by rw [Nat.zero_add]; exact h i hi)]
theorem compareF_self (bt sz : Nat → Nat) (wd a : Nat) : compareF bt sz wd a a = 0 := by unfold compareF; rw [if_pos rfl]; exact cmpWF_self _ _ _ _
theorem compareF_of {bt sz : Nat → Nat} {wd a b : Nat} (hs : sz a = sz b) (h : ∀ i, i < wd → bt (a * wd + i) = bt (b * wd + i)) : compareF bt sz wd a b = 0 := by
  rw [compareF_same hs h]; exact compareF_self _ _ _ _
theorem compareF_symm {bt sz : Nat → Nat} {wd a b : Nat} (h : compareF bt sz wd a b = 0) : compareF bt sz wd b a = 0 := by
  rw [compareF_anti, h]; rfl
theorem compareF_trans {bt sz : Nat → Nat} {wd a b c : Nat} (h : compareF bt sz wd a b = 0) (k : compareF bt sz wd b c = 0) : compareF bt sz wd a c = 0 := by
  obtain ⟨h1, h2⟩ := compareF_zero h
  rw [compareF_same h1 h2]; exact k
/-- Not before it: compares not less. -/
theorem klt_not {bt sz : Nat → Nat} {wd a b : Nat} (hw : 0 < wd) (hs : sz a = sz b) (h : klt bt sz wd a b = false) : 0 ≤ compareF bt sz wd a b := by
  unfold klt at h
  rw [if_pos hs] at h
  by_cases h1 : bt (a * wd) = bt (b * wd)
  · rw [if_pos h1] at h
    by_cases h2 : compareF bt sz wd a b = 0
    · omega
    · rw [if_neg h2] at h
      have := of_decide_eq_false h
      omega
  · rw [if_neg h1] at h
    have h3 := of_decide_eq_false h
    unfold compareF
    rw [if_pos hs]
    obtain ⟨k, rfl⟩ : ∃ k, wd = k + 1 := ⟨wd - 1, by omega⟩
    unfold cmpWF
    simp only [Nat.add_zero]
    rw [if_neg h1]
    unfold cmpI
    rw [if_neg h3]
    split <;> omega
/-- Equal sets stand side by side. -/
theorem OrdOk.beside {bt sz : Nat → Nat} {wd n : Nat} {o : Nat → Nat} (h : OrdOk bt sz wd n o) (hw : 0 < wd) {j k : Nat} (hj : j < k) (hk : k < n) (he : compareF bt sz wd (o k) (o j) = 0) : compareF bt sz wd (o k) (o (k - 1)) = 0 := by
  by_cases e : j = k - 1
  · subst e; exact he
  · obtain ⟨hs, hb⟩ := compareF_zero he
    have s1 := h.sz_le (i := j) (j := k - 1) (by omega) (by omega)
    have s2 := h.sz_le (i := k - 1) (j := k) (by omega) hk
    have c1 := klt_not hw (by omega) (h.ord j (k - 1) (by omega) (by omega))
    have c2 := klt_not hw (by omega) (h.ord (k - 1) k (by omega) hk)
    rw [compareF_same hs hb] at c2 ⊢
    rw [compareF_anti] at c1
    omega
theorem szTo_mono {bt : Nat → Nat} (hbt : ∀ i, bt i < 2 ^ 64) (p r : Nat) : ∀ j, (∀ i, i < j → ∀ k, k < 64 → (bt (r + i)).testBit k = true → (bt (p + i)).testBit k = true) → szTo bt r j ≤ szTo bt p j ∧ (szTo bt r j = szTo bt p j → ∀ i, i < j → bt (r + i) = bt (p + i))
  | 0, _ => ⟨Nat.le_refl _, fun _ i hi => absurd hi (by omega)⟩
  | j + 1, h => by
    obtain ⟨a1, a2⟩ := szTo_mono hbt p r j (fun i hi => h i (by omega))
    obtain ⟨b1, b2⟩ := ones_mono (hbt _) (hbt _) (h j (by omega))
    simp only [szTo]
    refine ⟨by omega, fun e i hi => ?_⟩
    by_cases e2 : i = j
    · subst e2; exact b2 (by omega)
    · exact a2 (by omega) i (by omega)
theorem sz_mono {bt : Nat → Nat} (hbt : ∀ i, bt i < 2 ^ 64) {wd a b : Nat} (h : holdsB bt wd a b = true) : szOf bt wd b ≤ szOf bt wd a ∧ (szOf bt wd b = szOf bt wd a → ∀ i, i < wd → bt (b * wd + i) = bt (a * wd + i)) := by
  refine szTo_mono hbt (a * wd) (b * wd) wd (fun i hi k hk hb => ?_)
  unfold holdsB at h
  rw [List.all_eq_true] at h
  have h1 := h i (by simpa using hi)
  exact (andNot_zero (hbt _) (hbt _)).1 (by simpa using h1) k hk hb
theorem keepF_iff {bt sz : Nat → Nat} {wd n q : Nat} : keepF bt sz wd n q = true ↔ ∃ k, k < n ∧ (ordOf bt sz wd n)[k]! = q ∧ kAt bt sz wd n (fun k => (ordOf bt sz wd n)[k]!) k = true := by
  unfold keepF kTo
  rw [List.any_eq_true]
  constructor
  · rintro ⟨k, hk, h⟩
    rw [Bool.and_eq_true, beq_iff_eq] at h
    exact ⟨k, by simpa using hk, h.1, h.2⟩
  · rintro ⟨k, hk, h1, h2⟩
    exact ⟨k, by simpa using hk, by rw [Bool.and_eq_true, beq_iff_eq]; exact ⟨h1, h2⟩⟩
theorem kAt_iff {bt sz : Nat → Nat} {wd n : Nat} {o : Nat → Nat} {k : Nat} : kAt bt sz wd n o k = true ↔ holdsS bt sz wd n (o k) = false ∧ (k = 0 ∨ compareF bt sz wd (o k) (o (k - 1)) ≠ 0) := by
  unfold kAt
  simp [bne_iff_ne]
/-- None that is kept holds another that is kept. -/
theorem keep_anti {bt : Nat → Nat} (hbt : ∀ i, bt i < 2 ^ 64) {wd n a b : Nat} (hw : 0 < wd) (ha : keepF bt (szOf bt wd) wd n a = true) (hb : keepF bt (szOf bt wd) wd n b = true) (hne : a ≠ b) : holdsB bt wd a b = false := by
  cases hh : holdsB bt wd a b with
  | false => rfl
  | true =>
    exfalso
    have hO := ord_ok bt (szOf bt wd) wd n hw
    obtain ⟨ka, hka, ea, ta⟩ := keepF_iff.1 ha
    obtain ⟨kb, hkb, eb, tb⟩ := keepF_iff.1 hb
    obtain ⟨sa, ca⟩ := kAt_iff.1 ta
    obtain ⟨sb, cb⟩ := kAt_iff.1 tb
    rw [ea] at sa ca
    rw [eb] at sb cb
    obtain ⟨h1, h2⟩ := sz_mono hbt hh
    have hbn : b < n := by rw [← eb]; exact hO.lt kb hkb
    have hse : szOf bt wd b = szOf bt wd a := by
      by_cases hlt : szOf bt wd b < szOf bt wd a
      · rw [(holdsS_iff _ _ _ _ _).2 ⟨b, hbn, hlt, hh⟩] at sa; cases sa
      · omega
    have hc : compareF bt (szOf bt wd) wd b a = 0 := compareF_of hse (h2 hse)
    have hkne : ka ≠ kb := fun e => hne (by rw [← ea, ← eb, e])
    by_cases hlt : ka < kb
    · have := hO.beside hw hlt hkb (by simp only [ea, eb]; exact hc)
      simp only [eb] at this
      rcases cb with h | h
      · omega
      · exact h this
    · have := hO.beside hw (j := kb) (k := ka) (by omega) hka (by simp only [ea, eb]; exact compareF_symm hc)
      simp only [ea] at this
      rcases ca with h | h
      · omega
      · exact h this
/-- The first of the equal sets. -/
theorem first_same {bt sz : Nat → Nat} {wd n r : Nat} (o : Nat → Nat) : ∀ k, k < n → compareF bt sz wd (o k) r = 0 → ∃ j, j ≤ k ∧ compareF bt sz wd (o j) r = 0 ∧ (j = 0 ∨ compareF bt sz wd (o (j - 1)) r ≠ 0)
  | 0, _, h => ⟨0, Nat.le_refl _, h, Or.inl rfl⟩
  | k + 1, hk, h => by
    by_cases e : compareF bt sz wd (o k) r = 0
    · obtain ⟨j, a, b, c⟩ := first_same (n := n) o k (by omega) e
      exact ⟨j, by omega, b, c⟩
    · exact ⟨k + 1, Nat.le_refl _, h, Or.inr e⟩
/-- Each set holds one that is kept. -/
theorem keep_below {bt : Nat → Nat} (hbt : ∀ i, bt i < 2 ^ 64) {wd n i : Nat} (hw : 0 < wd) (hi : i < n) : ∃ k, k < n ∧ keepF bt (szOf bt wd) wd n k = true ∧ holdsB bt wd i k = true := by
  have hO := ord_ok bt (szOf bt wd) wd n hw
  obtain ⟨r, hr, _, hb, hs⟩ := holdsS_least (sz := szOf bt wd) hbt (n := n) (q := i) (wd := wd) (szOf bt wd i) i (Nat.le_refl _) hi ((holdsB_iff hbt _ _ _).2 (fun _ _ h => h))
  obtain ⟨k, hk, ek⟩ := hO.sur r hr
  obtain ⟨j, hj, c1, c2⟩ := first_same (n := n) (r := r) (bt := bt) (sz := szOf bt wd) (wd := wd) (fun k => (ordOf bt (szOf bt wd) wd n)[k]!) k hk (by rw [ek]; exact compareF_self _ _ _ _)
  refine ⟨(ordOf bt (szOf bt wd) wd n)[j]!, hO.lt j (by omega), keepF_iff.2 ⟨j, by omega, rfl, kAt_iff.2 ⟨?_, ?_⟩⟩, ?_⟩
  · rw [holdsS_same c1]; exact hs
  · rcases c2 with h | h
    · exact Or.inl h
    · exact Or.inr (fun e => h (compareF_trans (compareF_symm e) c1))
  · rw [holdsB_iff hbt] at hb ⊢
    intro v hv hm
    exact hb v hv (by rw [← mem_same (compareF_zero c1).2 hv]; exact hm)

/-! ### Lists -/
theorem btOf_lt (L : List (List Nat)) (wd i : Nat) : btOf L wd i < 2 ^ 64 := setBits_lt _ _
theorem mem_btOf (L : List (List Nat)) (wd q v : Nat) (hv : v < 64 * wd) : mem (btOf L wd) (q * wd) v = decide (v ∈ L.getD q []) := by
  unfold mem btOf
  have h1 : v / 64 < wd := by omega
  rw [show q * wd + v / 64 = v / 64 + q * wd from Nat.add_comm _ _, Nat.add_mul_div_right _ _ (by omega), Nat.div_eq_of_lt h1, Nat.zero_add, Nat.add_mul_mod_self_right, Nat.mod_eq_of_lt h1, setBits_bit _ _ _ (Nat.mod_lt _ (by omega))]
  rw [show 64 * (v / 64) + v % 64 = v from by omega]
theorem kept_anti {L : List (List Nat)} {n a b : Nat} (hlt : ∀ q v, v ∈ L.getD q [] → v < n) (ha : a ∈ kept L n) (hb : b ∈ kept L n) (hne : a ≠ b) : ¬ ∀ v ∈ L.getD b [], v ∈ L.getD a [] := by
  intro h
  have hw : 0 < n / 64 + 1 := by omega
  unfold kept klist at ha hb
  rw [List.mem_filter] at ha hb
  have := keep_anti (btOf_lt L (n / 64 + 1)) hw ha.2 hb.2 hne
  rw [(holdsB_iff (btOf_lt L (n / 64 + 1)) _ _ _).2 (fun v hv hm => by
    rw [mem_btOf _ _ _ _ hv, decide_eq_true_eq] at hm ⊢
    exact h v hm)] at this
  cases this
theorem kept_below {L : List (List Nat)} {n i : Nat} (hlt : ∀ q v, v ∈ L.getD q [] → v < n) (hi : i < n) : ∃ k, k ∈ kept L n ∧ ∀ v ∈ L.getD k [], v ∈ L.getD i [] := by
  have hw : 0 < n / 64 + 1 := by omega
  obtain ⟨k, hk, h1, h2⟩ := keep_below (btOf_lt L (n / 64 + 1)) hw hi
  refine ⟨k, ?_, fun v hv => ?_⟩
  · unfold kept klist
    rw [List.mem_filter]
    exact ⟨by simpa using hk, h1⟩
  · have hvn := hlt k v hv
    have hv64 : v < 64 * (n / 64 + 1) := by omega
    have := (holdsB_iff (btOf_lt L (n / 64 + 1)) _ _ _).1 h2 v hv64 (by rw [mem_btOf _ _ _ _ hv64, decide_eq_true_eq]; exact hv)
    rwa [mem_btOf _ _ _ _ hv64, decide_eq_true_eq] at this
end Go.Proofs.Qxb6613821aDoor
