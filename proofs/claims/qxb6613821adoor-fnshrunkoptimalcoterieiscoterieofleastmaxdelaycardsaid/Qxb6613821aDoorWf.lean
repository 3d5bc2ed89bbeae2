/- The quorums are well formed: plain. -/
import Derived.Test.Qxb6613821aDoorLaw
namespace Go.Proofs.Qxb6613821aDoor
set_option linter.unusedVariables false
set_option linter.unusedSimpArgs false
open Ieee Go.RowKit Go.Sort Go.Lib

theorem step_inv {P : Pairs} {hd : Nat → Nat → Bool} (hP : P.Ok hd) {s : SS} (h : Inv P hd s.hold s.st s.top s.fin) (ht : s.top < P.N) : Inv P hd (s.step P).hold (s.step P).st (s.step P).top (s.step P).fin := by
  have hf := h.finN
  have h1 := joinTo_inv (P := P) (hold := s.hold) (top := s.top) hP (f := P.N - s.fin) h (by omega)
  have h2 := joinTo_gt (P := P) (hold := s.hold) (top := s.top) hP (f := P.N - s.fin) h (by omega) ht
  obtain ⟨i, hi⟩ := pick_some hP h1 ht h2 (fun c => share P.n s.hold c c)
  have hpk : pickN P s (joinTo P s.top (P.N - s.fin) s.fin s.st).2 = i := by unfold pickN; rw [hi]; rfl
  have hrd := (best_some hi).2
  have hl := (lead_ready hrd).1
  unfold SS.step
  rw [hpk]
  exact Inv.acted hP h1 hl
theorem run_inv {P : Pairs} {hd : Nat → Nat → Bool} (hP : P.Ok hd) : ∀ (f : Nat) (s : SS), Inv P hd s.hold s.st s.top s.fin → Inv P hd (SS.run P f s).hold (SS.run P f s).st (SS.run P f s).top (SS.run P f s).fin
  | 0, _, h => h
  | f + 1, s, h => by
    unfold SS.run
    split
    · rename_i ht; exact run_inv hP f _ (step_inv hP h ht)
    · exact h

/-- What is known of the balls at the radius. -/
theorem flat_in {D : Nat → Nat → Nat} {n r i v : Nat} : (i, v) ∈ flat (balls D n r) n 0 ↔ i < n ∧ v ∈ ball D n r i := by
  rw [mem_flat]
  constructor
  · rintro (⟨h1, h2⟩ | ⟨_, h2⟩)
    · rw [balls_get, if_pos h1] at h2; exact ⟨h1, h2⟩
    · simp at h2
  · rintro ⟨h1, h2⟩
    exact Or.inl ⟨h1, by rw [balls_get, if_pos h1]; exact h2⟩
theorem shrunk_inv {D : Nat → Nat → Nat} {n : Nat} (hF : NF D n) (r : Nat) :
    (∀ i v, shrunk D n (flat (balls D n r) n 0) i v = true → i < n ∧ v ∈ ball D n r i) ∧ (∀ i j, (∃ v, i < n ∧ j < n ∧ v ∈ ball D n r i ∧ v ∈ ball D n r j) → ∃ v, shrunk D n (flat (balls D n r) n 0) i v = true ∧ shrunk D n (flat (balls D n r) n 0) j v = true) := by
  have hnd : (flat (balls D n r) n 0).Nodup := flat_nodup (fun a => by
    rw [balls_get]; split
    · exact ball_nodup _ _ _ _
    · exact List.nodup_nil) n 0 (Nat.zero_le _)
  have hin : ∀ i v, (i, v) ∈ flat (balls D n r) n 0 → i < n ∧ v < n := fun i v h => by
    obtain ⟨h1, h2⟩ := flat_in.1 h
    exact ⟨h1, ((ball_mem _ _ _ _ _).1 h2).1⟩
  have hok := prs_ok (nf_Dc hF) hnd hin
  have hinv := run_inv hok ((flat (balls D n r) n 0).length + 2) ⟨fun i v => decide ((i, v) ∈ flat (balls D n r) n 0), fun _ _ => 0, 0, 0⟩ inv_start
  refine ⟨fun i v h => ?_, fun i j ⟨v, h1, h2, h3, h4⟩ => ?_⟩
  · have := hinv.sub i v h
    rw [decide_eq_true_eq] at this
    exact flat_in.1 this
  · exact hinv.meet i j ⟨v, by rw [decide_eq_true_eq]; exact flat_in.2 ⟨h1, h3⟩, by rw [decide_eq_true_eq]; exact flat_in.2 ⟨h2, h4⟩⟩

theorem leftB_get {D : Nat → Nat → Nat} {n k : Nat} (hk : k < n) : (leftB D n)[k]? = some ((ball D n (radius D n) k).filter (shrunk D n (flat (balls D n (radius D n)) n 0) k)) := by
  unfold leftB leftOf
  simp only [List.getElem?_map, List.getElem?_range hk, Option.map_some]
  rw [balls_get, if_pos hk]
theorem kept_ne {L : List (List Nat)} {n : Nat} (hn : 0 < n) : kept L n ≠ [] := by
  have hO := ord_ok (btOf L (n / 64 + 1)) (szOf (btOf L (n / 64 + 1)) (n / 64 + 1)) (n / 64 + 1) n (by omega)
  have h0 := hO.lt 0 hn
  have hk : keepF (btOf L (n / 64 + 1)) (szOf (btOf L (n / 64 + 1)) (n / 64 + 1)) (n / 64 + 1) n ((ordOf (btOf L (n / 64 + 1)) (szOf (btOf L (n / 64 + 1)) (n / 64 + 1)) (n / 64 + 1) n)[0]!) = true := by
    unfold keepF kTo
    rw [List.any_eq_true]
    refine ⟨0, by simpa using hn, ?_⟩
    have hs : holdsS (btOf L (n / 64 + 1)) (szOf (btOf L (n / 64 + 1)) (n / 64 + 1)) (n / 64 + 1) n ((ordOf (btOf L (n / 64 + 1)) (szOf (btOf L (n / 64 + 1)) (n / 64 + 1)) (n / 64 + 1) n)[0]!) = false := by
      cases hh : holdsS (btOf L (n / 64 + 1)) (szOf (btOf L (n / 64 + 1)) (n / 64 + 1)) (n / 64 + 1) n ((ordOf (btOf L (n / 64 + 1)) (szOf (btOf L (n / 64 + 1)) (n / 64 + 1)) (n / 64 + 1) n)[0]!) with
      | false => rfl
      | true =>
        obtain ⟨j, hj, _⟩ := (holdsS_before hO hn).1 hh
        omega
    unfold kAt
    rw [hs]
    simp
  intro e
  have hm : (ordOf (btOf L (n / 64 + 1)) (szOf (btOf L (n / 64 + 1)) (n / 64 + 1)) (n / 64 + 1) n)[0]! ∈ kept L n := by
    unfold kept klist
    rw [List.mem_filter]
    exact ⟨by simpa using h0, hk⟩
  rw [e] at hm
  simp at hm
theorem quorums_wf {D : Nat → Nat → Nat} {n : Nat} (hF : NF D n) (hz : ∀ a, a < n → q (D a a) = 0) (hn : 0 < n) : WF (quorums D n) n := by
  have hmem : ∀ l ∈ quorums D n, ∃ k, k < n ∧ (leftB D n)[k]? = some l := fun l hl => by
    unfold quorums at hl
    rw [List.mem_map] at hl
    obtain ⟨k, hk, rfl⟩ := hl
    obtain ⟨i, hi⟩ := List.getElem?_of_mem hk
    have hkn : k < n := klist_lt _ _ _ _ _ _ _ hi
    refine ⟨k, hkn, ?_⟩
    rw [List.getD_eq_getElem?_getD, leftB_get hkn]; rfl
  refine ⟨?_, fun l hl e => ?_, fun l hl x hx => ?_, fun l hl j x y h1 h2 => ?_⟩
  · unfold quorums
    intro e
    rw [List.map_eq_nil_iff] at e
    exact kept_ne hn e
  · obtain ⟨k, hk, hg⟩ := hmem l hl
    rw [leftB_get hk] at hg
    have hkk : k ∈ ball D n (radius D n) k := (ball_mem _ _ _ _ _).2 ⟨hk, by
      unfold am
      rw [fle_q (hF k k hk hk) (nf_radius hF), hz k hk]
      simp⟩
    obtain ⟨v, hv, _⟩ := (shrunk_inv hF (radius D n)).2 k k ⟨k, hk, hk, hkk, hkk⟩
    have hb := ((shrunk_inv hF (radius D n)).1 k v hv).2
    have : v ∈ l := by
      rw [← Option.some.inj hg, List.mem_filter]
      exact ⟨hb, hv⟩
    rw [e] at this
    simp at this
  · obtain ⟨k, _, hg⟩ := hmem l hl
    exact leftB_sub D n k x l hg hx
  · obtain ⟨k, hk, hg⟩ := hmem l hl
    rw [leftB_get hk] at hg
    have hp : l.Pairwise (· < ·) := by
      rw [← Option.some.inj hg]
      unfold ball
      exact (List.pairwise_lt_range.filter _).filter _
    obtain ⟨a1, a2⟩ := List.getElem?_eq_some_iff.1 h1
    obtain ⟨b1, b2⟩ := List.getElem?_eq_some_iff.1 h2
    have := List.pairwise_iff_getElem.1 hp j (j + 1) a1 b1 (by omega)
    rw [a2, b2] at this
    exact this
end Go.Proofs.Qxb6613821aDoor
