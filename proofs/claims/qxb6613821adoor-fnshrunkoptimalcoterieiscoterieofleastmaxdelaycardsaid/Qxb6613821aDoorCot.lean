/- ShrunkOptimalCoterie. -/
import Derived.Test.Qxb6613821aDoorShr
import Derived.Test.Qxb6613821aDoorMini
namespace Go.Proofs.Qxb6613821aDoor
set_option linter.unusedVariables false
set_option linter.unusedSimpArgs false
open Ieee Go.RowKit

/-- Quorums in memory: block rb holds their slices. -/
structure QAt (w : World) (rb : Nat) (QS : List (List Nat)) : Prop where
  row : ∀ (k : Nat) l, QS[k]? = some l → ∃ go cap, w.cell? ⟨rb, k, none⟩ = some (.slice go l.length cap) ∧ l.length ≤ cap ∧ ∀ (j x : Nat), l[j]? = some x → ∃ g, go = some ⟨g, 0, none⟩ ∧ w.cell? ⟨g, j, none⟩ = some (.int .i64 (x : Int))
theorem QAt.keep {w w' : World} {rb : Nat} {QS : List (List Nat)} (h : QAt w rb QS) (hb : Below w.heap.size w w') : QAt w' rb QS := ⟨fun k l hl => by
  obtain ⟨go, cap, h1, h2, h3⟩ := h.row k l hl
  refine ⟨go, cap, (hb.cell (World.block_lt_of_cell? _ _ h1)).trans h1, h2, fun j x hj => ?_⟩
  obtain ⟨g, e, hc⟩ := h3 j x hj
  exact ⟨g, e, (hb.cell (World.block_lt_of_cell? _ _ hc)).trans hc⟩⟩

theorem balls_get (D : Nat → Nat → Nat) (n r a : Nat) : (balls D n r).getD a [] = if a < n then ball D n r a else [] := by
  unfold balls
  by_cases h : a < n
  · simp [h]
  · simp [h]
theorem ball_mem (D : Nat → Nat → Nat) (n r a v : Nat) : v ∈ ball D n r a ↔ v < n ∧ am (D a v) r = true := by unfold ball; simp
theorem ball_nodup (D : Nat → Nat → Nat) (n r a : Nat) : (ball D n r a).Nodup := List.nodup_range.filter _
theorem ball_len (D : Nat → Nat → Nat) (n r a : Nat) : (ball D n r a).length ≤ n := by
  unfold ball; exact Nat.le_trans (List.length_filter_le _ _) (by simp)

/-- The balls, what is left of them, and the quorums. -/
def leftB (D : Nat → Nat → Nat) (n : Nat) : List (List Nat) := leftOf (balls D n (radius D n)) (shrunk D n (flat (balls D n (radius D n)) n 0)) n
def quorums (D : Nat → Nat → Nat) (n : Nat) : List (List Nat) := (kept (leftB D n) n).map fun k => (leftB D n).getD k []
theorem leftB_len (D : Nat → Nat → Nat) (n : Nat) : (leftB D n).length = n := by simp [leftB, leftOf]
theorem leftB_sub (D : Nat → Nat → Nat) (n k v : Nat) (l : List Nat) (h : (leftB D n)[k]? = some l) (hv : v ∈ l) : v < n := by
  have hk : k < n := by have := (List.getElem?_eq_some_iff.1 h).1; rw [leftB_len] at this; exact this
  unfold leftB leftOf at h
  simp only [List.getElem?_map, List.getElem?_range hk, Option.map_some, Option.some.injEq] at h
  subst h
  have := (List.mem_filter.1 hv).1
  rw [balls_get, if_pos hk, ball_mem] at this
  exact this.1
theorem leftB_short (D : Nat → Nat → Nat) (n k : Nat) (l : List Nat) (h : (leftB D n)[k]? = some l) : l.length ≤ n := by
  have hk : k < n := by have := (List.getElem?_eq_some_iff.1 h).1; rw [leftB_len] at this; exact this
  unfold leftB leftOf at h
  simp only [List.getElem?_map, List.getElem?_range hk, Option.map_some, Option.some.injEq] at h
  subst h
  refine Nat.le_trans (List.length_filter_le _ _) ?_
  rw [balls_get, if_pos hk]; exact ball_len _ _ _ _

set_option maxHeartbeats 2000000 in
theorem coterie_any (b o n cap : Nat) (rb ro rc : Nat → Nat) (D : Nat → Nat → Nat) (w : World) (hM : MatAt w b o n rb ro rc D) (hF : NF D n) (hz : ∀ a, a < n → q (D a a) = 0) (hT : TabAt 1 Lib.deBruijn64tab w) (hn0 : 0 < n) (hn : n ≤ 256) :
    Calls Tryd.prog 7 #[.slice (some ⟨b, o, none⟩) n cap] w fun e w' => ∃ rb, e = .returned (.slice (some ⟨rb, 0, none⟩) (quorums D n).length (quorums D n).length) ∧ w.heap.size ≤ rb ∧ QAt w' rb (quorums D n) ∧ Below w.heap.size w w' := by
  have HM : Hid (MatAt w b o n rb ro rc D) := hM
  have HF : Hid (NF D n) := hF
  have HT : Hid (TabAt 1 Lib.deBruijn64tab w) := hT
  have hbal : ∀ a, a < n → (balls D n (radius D n)).getD a [] = ball D n (radius D n) a := fun a ha => by rw [balls_get, if_pos ha]
  have HR : Hid (∀ w, MatAt w b o n rb ro rc D → Calls Tryd.prog 19 #[.slice (some ⟨b, o, none⟩) n cap] w fun e w' => e = .returned (.float .f64 (radius D n)) ∧ ∃ k, w' = w.drewN k) := fun w h => radius_any b o n cap rb ro rc D w h hF hn
  have HB : Hid (∀ w, MatAt w b o n rb ro rc D → Calls Tryd.prog 18 #[.slice (some ⟨b, o, none⟩) n cap, .float .f64 (radius D n)] w fun e w' => e = .returned (.slice (some ⟨w.heap.size, 0, none⟩) n n) ∧ Below w.heap.size w w' ∧ ∃ vs, Nest w' w.heap.size vs (balls D n (radius D n))) := fun w h => balls_any b o n cap (radius D n) rb ro rc D w h hF (nf_radius hF) hn
  have HS : Hid (∀ (w : World) (Bb : Nat) (vb : List Value), MatAt w b o n rb ro rc D → Nest w Bb vb (balls D n (radius D n)) → Calls Tryd.prog 17 #[.slice (some ⟨b, o, none⟩) n cap, .slice (some ⟨Bb, 0, none⟩) n n] w fun e w' => ∃ rb vs', e = .returned (.slice (some ⟨rb, 0, none⟩) n n) ∧ w.heap.size ≤ rb ∧ Nest w' rb vs' (leftB D n) ∧ Below w.heap.size w w') := fun w Bb vb h1 h2 => by
    refine shrink_any b o n cap rb ro rc D w h1 hF Bb vb (balls D n (radius D n)) h2 (by simp [balls]) (fun a => ?_) (fun a v hv => ?_) (fun a => ?_) (fun a ha e => ?_) hn0 hn
    · rw [balls_get]; split
      · exact ball_nodup _ _ _ _
      · exact List.nodup_nil
    · rw [balls_get] at hv
      split at hv
      · exact ((ball_mem _ _ _ _ _).1 hv).1
      · simp at hv
    · rw [balls_get]; split
      · exact Nat.le_trans (ball_len _ _ _ _) hn
      · simp
    · rw [hbal a ha] at e
      have : a ∈ ball D n (radius D n) a := (ball_mem _ _ _ _ _).2 ⟨ha, by
        unfold am
        rw [fle_q (hF a a ha ha) (nf_radius hF), hz a ha]
        simp⟩
      rw [e] at this; simp at this
  have HMi : Hid (∀ (w : World) (B : Nat) (vs : List Value), TabAt 1 Lib.deBruijn64tab w → Nest w B vs (leftB D n) → Calls Tryd.prog 16 #[.int .i64 (n : Int), .slice (some ⟨B, 0, none⟩) n n] w fun e w' => ∃ rb, e = .returned (.slice (some ⟨rb, 0, none⟩) (quorums D n).length (quorums D n).length) ∧ w.heap.size ≤ rb ∧ QAt w' rb (quorums D n) ∧ Below w.heap.size w w') := fun w B vs h1 h2 => by
    refine (minimal_any B n vs (leftB D n) hn0 hn (leftB_len D n) (fun k l v h hv => leftB_sub D n k v l h hv) (fun k l h => Nat.le_trans (leftB_short D n k l h) hn) w h2 h1).mono ?_
    rintro e w' ⟨rb, rfl, hr1, hr2, hr3⟩
    have hql : (quorums D n).length = (kept (leftB D n) n).length := by simp [quorums]
    refine ⟨rb, by rw [hql], hr1, ⟨fun k l hl => ?_⟩, hr3⟩
    have hk : k < (kept (leftB D n) n).length := by rw [← hql]; exact (List.getElem?_eq_some_iff.1 hl).1
    have hc := hr2.cell (i := k) hk
    obtain ⟨x, hx⟩ : ∃ x, (kept (leftB D n) n)[k]? = some x := ⟨_, List.getElem?_eq_getElem hk⟩
    have hxn : x < n := klist_lt _ _ _ _ _ _ _ hx
    have hxl : l = (leftB D n).getD x [] := by
      unfold quorums at hl
      rw [List.getElem?_map, hx] at hl
      simpa using hl.symm
    have hLx : (leftB D n)[x]? = some l := by
      rw [hxl, List.getD_eq_getElem?_getD, List.getElem?_eq_getElem (by rw [leftB_len]; exact hxn)]; rfl
    obtain ⟨v, hv⟩ : ∃ v, vs[x]? = some v := ⟨vs[x]'(by rw [h2.rows.len, leftB_len]; exact hxn), List.getElem?_eq_getElem _⟩
    have hown := h2.rows.own x v l hv hLx
    have hval : vs.getD ((kept (leftB D n) n).getD k 0) (.slice none 0 0) = v := by
      rw [List.getD_eq_getElem?_getD, List.getD_eq_getElem?_getD, hx]
      simp [hv]
    rw [hval] at hc
    rcases hown.2 with ⟨e1, e2⟩ | ⟨g, c, cur, e1, _, _, e2, _⟩
    · have hl0 : l = [] := List.eq_nil_of_length_eq_zero e2
      subst hl0
      exact ⟨none, 0, by rw [hc, e1]; rfl, Nat.le_refl _, fun j x hj => by simp at hj⟩
    · refine ⟨some ⟨g, 0, none⟩, c, by rw [hc, e1], e2, fun j y hj => ⟨g, rfl, ?_⟩⟩
      subst e1
      have hcell := own_cell hown (ints_get l hj)
      exact (hr3.cell (World.block_lt_of_cell? _ _ hcell)).trans hcell
  clear hM hF hT hbal hz
  generalize quorums D n = QS at *
  generalize leftB D n = LB at *
  generalize radius D n = r at *
  go_enter Tryd.func7, Tryd.ntmps7
  go_wp2_with (first
    | (go_at_call 19
       refine (HR.out _ HM.out).mono ?_
       rintro e w1 ⟨rfl, k1, rfl⟩
       have HM1 : Hid (MatAt (w.drewN k1) b o n rb ro rc D) := HM.out.keep (Nat.le_refl _) ((Below.refl _ _).drewN' k1))
    | (go_at_call 18
       refine (HB.out _ HM1.out).mono ?_
       rintro e w2 ⟨rfl, hb2, vs2, hn2⟩
       have HB2 : Hid (Below w.heap.size w w2) := ((Below.refl _ _).drewN' k1).trans hb2
       have HN2 : Hid (Nest w2 (w.drewN k1).heap.size vs2 (balls D n r)) := hn2
       clear hb2 hn2)
    | (go_at_call 17
       refine (HS.out w2 _ vs2 (HM.out.keep (Nat.le_refl _) HB2.out) HN2.out).mono ?_
       rintro e w3 ⟨rb3, vs3, rfl, hr3, hn3, hb3⟩
       have HB3 : Hid (Below w.heap.size w w3) := HB2.out.trans (hb3.mono HB2.out.size)
       have HN3 : Hid (Nest w3 rb3 vs3 LB) := hn3
       clear hn3 hb3)
    | (go_at_call 16
       refine (HMi.out w3 rb3 vs3 (tab_grown HT.out (grown_below HB3.out none) (by simp)) HN3.out).mono ?_
       rintro e w4 ⟨rb4, rfl, hr4, hq4, hb4⟩
       have HQ4 : Hid (QAt w4 rb4 QS) := hq4
       have HB4 : Hid (Below w.heap.size w w4) := HB3.out.trans (hb4.mono HB3.out.size)
       have hs3 := HB3.out.size
       clear hq4 hb4))
  go_ret
  exact ⟨rb4, rfl, by omega, HQ4.out, HB4.out⟩
end Go.Proofs.Qxb6613821aDoor
