/- The quorums meet, hold none another, and lie within the balls: plain. -/
import Derived.Test.Qxb6613821aDoorWf
import Derived.Test.Qxb6613821aDoorAnti
import Derived.Test.Qxb6613821aDoorLeast
namespace Go.Proofs.Qxb6613821aDoor
set_option linter.unusedVariables false
set_option linter.unusedSimpArgs false
open Ieee Go.RowKit

theorem quorum_at {D : Nat → Nat → Nat} {n i : Nat} {l : List Nat} (h : (quorums D n)[i]? = some l) : ∃ k, (kept (leftB D n) n)[i]? = some k ∧ k < n ∧ l = (leftB D n).getD k [] := by
  unfold quorums at h
  rw [List.getElem?_map] at h
  obtain ⟨k, hk, e⟩ := Option.map_eq_some_iff.1 h
  exact ⟨k, hk, klist_lt _ _ _ _ _ _ _ hk, e.symm⟩
theorem left_at {D : Nat → Nat → Nat} {n k : Nat} (hk : k < n) : (leftB D n).getD k [] = (ball D n (radius D n) k).filter (shrunk D n (flat (balls D n (radius D n)) n 0) k) := by
  rw [List.getD_eq_getElem?_getD, leftB_get hk]; rfl
theorem left_lt {D : Nat → Nat → Nat} {n k v : Nat} (h : v ∈ (leftB D n).getD k []) : v < n := by
  cases hg : (leftB D n)[k]? with
  | none => rw [List.getD_eq_getElem?_getD, hg] at h; simp at h
  | some l =>
    rw [List.getD_eq_getElem?_getD, hg] at h
    exact leftB_sub D n k v l hg h
theorem balls_meet {D : Nat → Nat → Nat} {n : Nat} (hF : NF D n) (hz : ∀ a, a < n → q (D a a) = 0) (hs : ∀ a b, a < n → b < n → q (D a b) = q (D b a)) {u v : Nat} (hu : u < n) (hv : v < n) : ∃ w, w ∈ ball D n (radius D n) u ∧ w ∈ ball D n (radius D n) v := by
  have nr := nf_radius hF
  have hE := radius_ok hF
  have key : ∀ a w, a < n → w < n → q (D a w) ≤ q (exact D n) → w ∈ ball D n (radius D n) a := fun a w ha hw h =>
    (ball_mem _ _ _ _ _).2 ⟨hw, am_mono (hF a w ha hw) (nf_exact hF) nr h hE.2⟩
  by_cases h1 : u < v
  · obtain ⟨w, w1, w2, w3⟩ := exact_upper hF hz hs u v h1 hv
    exact ⟨w, key u w hu w1 w2, key v w hv w1 w3⟩
  · by_cases h2 : v < u
    · obtain ⟨w, w1, w2, w3⟩ := exact_upper hF hz hs v u h2 hu
      exact ⟨w, key u w hu w1 w3, key v w hv w1 w2⟩
    · have e : u = v := by omega
      subst e
      exact ⟨u, key u u hu hu (by rw [hz u hu]; omega), key u u hu hu (by rw [hz u hu]; omega)⟩
theorem left_meet {D : Nat → Nat → Nat} {n : Nat} (hF : NF D n) (hz : ∀ a, a < n → q (D a a) = 0) (hs : ∀ a b, a < n → b < n → q (D a b) = q (D b a)) {u v : Nat} (hu : u < n) (hv : v < n) : ∃ w, w ∈ (leftB D n).getD u [] ∧ w ∈ (leftB D n).getD v [] := by
  obtain ⟨x, x1, x2⟩ := balls_meet hF hz hs hu hv
  obtain ⟨w, w1, w2⟩ := (shrunk_inv hF (radius D n)).2 u v ⟨x, hu, hv, x1, x2⟩
  refine ⟨w, ?_, ?_⟩
  · rw [left_at hu, List.mem_filter]
    exact ⟨((shrunk_inv hF (radius D n)).1 u w w1).2, w1⟩
  · rw [left_at hv, List.mem_filter]
    exact ⟨((shrunk_inv hF (radius D n)).1 v w w2).2, w2⟩
theorem quorums_good {D : Nat → Nat → Nat} {n : Nat} (hF : NF D n) (hz : ∀ a, a < n → q (D a a) = 0) (hs : ∀ a b, a < n → b < n → q (D a b) = q (D b a)) (hn : 0 < n) : Good D n (quorums D n) := by
  have hW := quorums_wf hF hz hn
  refine ⟨hW.ne, hW.lt, hW.one, fun l hl m hm => ?_, fun i hi => ?_⟩
  · obtain ⟨i, hi⟩ := List.getElem?_of_mem hl
    obtain ⟨j, hj⟩ := List.getElem?_of_mem hm
    obtain ⟨k1, _, a1, rfl⟩ := quorum_at hi
    obtain ⟨k2, _, a2, rfl⟩ := quorum_at hj
    exact left_meet hF hz hs a1 a2
  · obtain ⟨k, hk, hsub⟩ := kept_below (L := leftB D n) (fun q v hv => left_lt hv) hi
    refine ⟨(leftB D n).getD k [], ?_, fun w hw => ?_⟩
    · unfold quorums
      rw [List.mem_map]
      exact ⟨k, hk, rfl⟩
    · have h1 := hsub w hw
      rw [left_at hi, List.mem_filter] at h1
      exact ((ball_mem _ _ _ _ _).1 h1.1).2
theorem kept_inj {L : List (List Nat)} {n i j k : Nat} (h1 : (kept L n)[i]? = some k) (h2 : (kept L n)[j]? = some k) : i = j := by
  have hnd : (kept L n).Nodup := by unfold kept klist; exact List.nodup_range.filter _
  exact (List.getElem?_inj (List.getElem?_eq_some_iff.1 h1).1 hnd).1 (h1.trans h2.symm)
theorem quorums_anti {D : Nat → Nat → Nat} {n i j : Nat} {l m : List Nat} (hi : (quorums D n)[i]? = some l) (hj : (quorums D n)[j]? = some m) (hne : i ≠ j) : ¬ ∀ v ∈ l, v ∈ m := by
  obtain ⟨k1, e1, a1, rfl⟩ := quorum_at hi
  obtain ⟨k2, e2, a2, rfl⟩ := quorum_at hj
  exact kept_anti (fun q v hv => left_lt hv) (List.mem_of_getElem? e2) (List.mem_of_getElem? e1) (fun e => hne (by subst e; exact kept_inj e1 e2))
end Go.Proofs.Qxb6613821aDoor
