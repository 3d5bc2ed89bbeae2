/- The pairs in order: plain. -/
import Derived.Test.Qxb6613821aDoorMS
namespace Go.Proofs.Qxb6613821aDoor
set_option linter.unusedVariables false
set_option linter.unusedSimpArgs false
open Ieee Go.Shelf Go.RowKit Go.Lib Go.Sort

/-- Distances, 0 beyond n. -/
def Dc (D : Nat → Nat → Nat) (n i j : Nat) : Nat := if i < n ∧ j < n then D i j else 0
theorem nf_Dc {D : Nat → Nat → Nat} {n : Nat} (h : NF D n) (i j : Nat) : nf (Dc D n i j) = true := by
  unfold Dc
  split
  · rename_i hh; exact h i j hh.1 hh.2
  · exact nf_zero
theorem Dc_in {D : Nat → Nat → Nat} {n i j : Nat} (hi : i < n) (hj : j < n) : Dc D n i j = D i j := by unfold Dc; rw [if_pos ⟨hi, hj⟩]
theorem pcells_Dc {D : Nat → Nat → Nat} {n : Nat} {PS : List (Nat × Nat)} (h : ∀ i v, (i, v) ∈ PS → i < n ∧ v < n) : pcells D PS = pcells (Dc D n) PS := by
  induction PS with
  | nil => rfl
  | cons p PS ih =>
    obtain ⟨i, v⟩ := p
    obtain ⟨h1, h2⟩ := h i v (by simp)
    rw [show pcells D ((i, v) :: PS) = encP D (i, v) ++ pcells D PS from rfl, show pcells (Dc D n) ((i, v) :: PS) = encP (Dc D n) (i, v) ++ pcells (Dc D n) PS from rfl, ih (fun a b hab => h a b (by simp [hab]))]
    congr 1
    simp [encP, Dc_in h1 h2]
theorem pcells_get (D : Nat → Nat → Nat) : ∀ {PS : List (Nat × Nat)} {k c : Nat} {p : Nat × Nat}, PS[k]? = some p → c < 3 → (pcells D PS)[k * 3 + c]? = (encP D p)[c]?
  | [], k, c, p, h, _ => by simp at h
  | x :: PS, 0, c, p, h, hc => by
    simp at h; subst h
    rw [show pcells D (x :: PS) = encP D x ++ pcells D PS from rfl, List.getElem?_append_left (by simp [encP]; omega)]
    simp
  | x :: PS, k + 1, c, p, h, hc => by
    simp at h
    rw [show pcells D (x :: PS) = encP D x ++ pcells D PS from rfl, List.getElem?_append_right (by simp [encP]; omega)]
    have := pcells_get D h hc
    rw [← this]
    congr 1
    simp [encP]; omega
theorem flat_nodup {B : List (List Nat)} (hn : ∀ a, (B.getD a []).Nodup) : ∀ i t, t ≤ (B.getD i []).length → (flat B i t).Nodup := by
  intro i
  induction i with
  | zero =>
    intro t
    induction t with
    | zero => intro _; simp [flat]
    | succ t ih =>
      intro ht
      obtain ⟨v, hv⟩ : ∃ v, (B.getD 0 [])[t]? = some v := ⟨_, List.getElem?_eq_getElem (by omega)⟩
      rw [flat_step hv, List.nodup_append]
      refine ⟨ih (by omega), by simp, fun a ha b hb e => ?_⟩
      simp at hb; subst e; subst hb
      exact flat_fresh (hn 0) hv ha
  | succ i ihi =>
    intro t
    induction t with
    | zero => intro _; rw [← flat_next (i := i) rfl]; exact ihi _ (Nat.le_refl _)
    | succ t ih =>
      intro ht
      obtain ⟨v, hv⟩ : ∃ v, (B.getD (i + 1) [])[t]? = some v := ⟨_, List.getElem?_eq_getElem (by omega)⟩
      rw [flat_step hv, List.nodup_append]
      refine ⟨ih (by omega), by simp, fun a ha b hb e => ?_⟩
      simp at hb; subst e; subst hb
      exact flat_fresh (hn (i + 1)) hv ha

def prsOf (D : Nat → Nat → Nat) (n : Nat) (PS : List (Nat × Nat)) : Pairs :=
  ⟨n, (sortP D PS.toArray).size, fun k => (sortP D PS.toArray)[k]!.1, fun k => (sortP D PS.toArray)[k]!.2, fun a b => am (D (sortP D PS.toArray)[a]!.1 (sortP D PS.toArray)[a]!.2) (D (sortP D PS.toArray)[b]!.1 (sortP D PS.toArray)[b]!.2)⟩
theorem sortP_perm (D : Nat → Nat → Nat) (PS : List (Nat × Nat)) : (sortP D PS.toArray).toList.Perm PS := by
  unfold sortP
  split
  · exact List.Perm.refl _
  · obtain ⟨⟨hs, _, hp⟩, _⟩ := pdq_sorts (ltP D) (swo_ltP D) PS.toArray 0 PS.toArray.size (Lib.bitLen PS.toArray.size) true true (Nat.zero_le _) (Nat.le_refl _) (Or.inl rfl)
    have a0 : ∀ (a : Array (Nat × Nat)) (m : Nat), a.size = m → a.extract 0 m = a := by intro a m h; subst h; simp
    rw [a0 _ _ hs, a0 _ _ rfl] at hp
    exact hp
theorem sortP_size (D : Nat → Nat → Nat) (PS : List (Nat × Nat)) : (sortP D PS.toArray).size = PS.length := by
  have := (sortP_perm D PS).length_eq
  simpa using this
theorem am_refl {x : Nat} (hx : nf x = true) : am x x = true := by
  unfold am
  rw [fle_q hx hx]
  simp
theorem prs_ok {D : Nat → Nat → Nat} (hD : ∀ i j, nf (D i j) = true) {n : Nat} {PS : List (Nat × Nat)} (hnd : PS.Nodup) (hin : ∀ i v, (i, v) ∈ PS → i < n ∧ v < n) : (prsOf D n PS).Ok (fun i v => decide ((i, v) ∈ PS)) := by
  have hp := sortP_perm D PS
  have hnd2 : (sortP D PS.toArray).toList.Nodup := hp.nodup_iff.2 hnd
  have hat : ∀ k, k < (sortP D PS.toArray).size → (sortP D PS.toArray)[k]! ∈ PS := fun k hk => by
    refine hp.mem_iff.1 ?_
    rw [getElem!_pos _ k hk]; simp
  refine ⟨fun k hk => (hin _ _ (hat k hk)).1, fun k hk => (hin _ _ (hat k hk)).2, fun k j hk hj h1 h2 => ?_, fun i v => ?_, fun k hk => am_refl (hD _ _)⟩
  · have hk0 : k < (sortP D PS.toArray).size := hk
    have hj0 : j < (sortP D PS.toArray).size := hj
    have hk2 : k < (sortP D PS.toArray).toList.length := by simpa using hk0
    have hj2 : j < (sortP D PS.toArray).toList.length := by simpa using hj0
    refine (List.getElem?_inj hk2 hnd2).1 ?_
    rw [List.getElem?_eq_getElem hk2, List.getElem?_eq_getElem hj2]
    have : (sortP D PS.toArray)[k]! = (sortP D PS.toArray)[j]! := Prod.ext h1 h2
    rw [getElem!_pos _ k hk0, getElem!_pos _ j hj0] at this
    rw [Array.getElem_toList, Array.getElem_toList]
    exact congrArg some this
  · rw [decide_eq_true_eq]
    constructor
    · intro hm
      obtain ⟨k, hk, he⟩ := List.getElem_of_mem (hp.mem_iff.2 hm)
      have hk2 : k < (sortP D PS.toArray).size := by simpa using hk
      refine ⟨k, hk2, ?_, ?_⟩
      · show (sortP D PS.toArray)[k]!.1 = i
        rw [getElem!_pos _ k hk2]; simp at he; rw [he]
      · show (sortP D PS.toArray)[k]!.2 = v
        rw [getElem!_pos _ k hk2]; simp at he; rw [he]
    · rintro ⟨k, hk, rfl, rfl⟩
      exact hat k hk
end Go.Proofs.Qxb6613821aDoor
