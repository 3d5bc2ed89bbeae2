/- The room of shrinkBalls' main loop. -/
import Derived.Test.Qxb6613821aDoorSl
namespace Go.Proofs.Qxb6613821aDoor
set_option linter.unusedVariables false
set_option linter.unusedSimpArgs false
open Ieee Go.Shelf Go.RowKit Go.Lib Go.Sort

structure MS (w wr : World) (H n S0 pg N c : Nat) (vs : List Value) (L : List (List Nat)) (pl : Nat → Nat → Int) (sh st : Nat → Nat → Nat) (rd : Nat → Nat) (P : Pairs) (D : Nat → Nat → Nat) : Prop where
  out : wr.heap[H]? = some (.cells vs.toArray 29 (0, 0))
  rows : RowsOf wr (H + 4) vs L
  place : wr.rowIs (H + 1) 3 (n * n) (fun k => .int .i64 (pl (k / n) (k % n)))
  shared : wr.rowIs (H + 2) 21 (n * n) (fun k => .int .i32 (sh (k / n) (k % n) : Int))
  box : wr.rowIs (H + 3) 43 1 (fun _ => .slice (some ⟨pg, 0, none⟩) N c)
  prs : ∀ k, k < N → wr.cell? ⟨pg, k * 3, none⟩ = some (.int .i64 (P.nd k : Int)) ∧ wr.cell? ⟨pg, k * 3 + 1, none⟩ = some (.int .i64 (P.mb k : Int)) ∧ wr.cell? ⟨pg, k * 3 + 2, none⟩ = some (.float .f64 (D (P.nd k) (P.mb k)))
  state : wr.rowIs S0 5 (n * n) (fun k => .int .u8 (st (k / n) (k % n) : Int))
  ready : wr.rowIs (S0 + 1) 3 n (fun k => .int .i64 (rd k : Int))
  ap : ∀ (i : Nat) v k, vs[i]? = some v → v.ownBlock = some k → k ≠ pg ∧ k < S0
  low : Below H w wr
  pg1 : H + 4 ≤ pg
  pg2 : pg < S0
section
variable {w wr w2 : World} {H n S0 pg N c : Nat} {vs : List Value} {L : List (List Nat)} {pl : Nat → Nat → Int} {sh st : Nat → Nat → Nat} {rd : Nat → Nat} {P : Pairs} {D : Nat → Nat → Nat}

theorem MS.sz (h : MS w wr H n S0 pg N c vs L pl sh st rd P D) : S0 + 1 < wr.heap.size := h.ready.lt
theorem MS.keep (h : MS w wr H n S0 pg N c vs L pl sh st rd P D) (hf : Fr (fun _ => False) wr w2) : MS w w2 H n S0 pg N c vs L pl sh st rd P D := by
  have hsz := h.sz
  have p1 := h.pg1
  have p2 := h.pg2
  refine ⟨(hf.block H (Array.getElem?_eq_some_iff.1 h.out).1 (fun x => x)).trans h.out, ⟨h.rows.len, fun i v l hv hl => hf.own (h.rows.own i v l hv hl) (fun _ _ x => x), h.rows.apart⟩, hf.row h.place (fun x => x), hf.row h.shared (fun x => x), hf.row h.box (fun x => x), fun k hk => ?_, hf.row h.state (fun x => x), hf.row h.ready (fun x => x), h.ap, ?_, h.pg1, h.pg2⟩
  · obtain ⟨a, b, c⟩ := h.prs k hk
    exact ⟨hf.cell a (fun x => x), hf.cell b (fun x => x), hf.cell c (fun x => x)⟩
  · exact h.low.trans ⟨hf.os, hf.tape, hf.output, hf.size, fun k hk => hf.block k (by omega) (fun x => x)⟩
theorem MS.below (h : MS w wr H n S0 pg N c vs L pl sh st rd P D) (hb : Below wr.heap.size wr w2) : MS w w2 H n S0 pg N c vs L pl sh st rd P D := h.keep (Fr.of_below hb _)
theorem MS.drewN (h : MS w wr H n S0 pg N c vs L pl sh st rd P D) (k : Nat) : MS w (wr.drewN k) H n S0 pg N c vs L pl sh st rd P D := h.keep ((Fr.refl _ _).drewN k)
theorem MS.alloc (h : MS w wr H n S0 pg N c vs L pl sh st rd P D) (o : Obj) : MS w (wr.alloc o) H n S0 pg N c vs L pl sh st rd P D := h.keep ((Fr.refl _ _).alloc o)
theorem MS.one (h : MS w wr H n S0 pg N c vs L pl sh st rd P D) {b : Nat} (hb : b = H + 1 ∨ b = H + 2 ∨ b = S0 ∨ b = S0 + 1) (hf : Fr (fun k => k = b) wr w2) {pl' : Nat → Nat → Int} {sh' st' : Nat → Nat → Nat} {rd' : Nat → Nat}
    (h1 : w2.rowIs (H + 1) 3 (n * n) (fun k => .int .i64 (pl' (k / n) (k % n)))) (h2 : w2.rowIs (H + 2) 21 (n * n) (fun k => .int .i32 (sh' (k / n) (k % n) : Int))) (h3 : w2.rowIs S0 5 (n * n) (fun k => .int .u8 (st' (k / n) (k % n) : Int))) (h4 : w2.rowIs (S0 + 1) 3 n (fun k => .int .i64 (rd' k : Int))) :
    MS w w2 H n S0 pg N c vs L pl' sh' st' rd' P D := by
  have hsz := h.sz
  have p1 := h.pg1
  have p2 := h.pg2
  refine ⟨(hf.block H (Array.getElem?_eq_some_iff.1 h.out).1 (by omega)).trans h.out, ⟨h.rows.len, fun i v l hv hl => hf.own (h.rows.own i v l hv hl) (fun g hg x => ?_), h.rows.apart⟩, h1, h2, hf.row h.box (by omega), fun k hk => ?_, h3, h4, h.ap, ?_, h.pg1, h.pg2⟩
  · have a1 := (row_blk h.rows hv hg).1
    have a2 := h.ap i v g hv hg
    omega
  · obtain ⟨a, b, c⟩ := h.prs k hk
    exact ⟨hf.cell a (by simp; omega), hf.cell b (by simp; omega), hf.cell c (by simp; omega)⟩
  · exact h.low.trans ⟨hf.os, hf.tape, hf.output, hf.size, fun k hk => hf.block k (by omega) (by omega)⟩
theorem MS.setPlace (h : MS w wr H n S0 pg N c vs L pl sh st rd P D) {v i : Nat} (hi : i < n) (x : Int) : MS w (wr.setCell ⟨H + 1, v * n + i, none⟩ (.int .i64 x)) H n S0 pg N c vs L (upd pl v i x) sh st rd P D := by
  have p1 := h.pg1
  have p2 := h.pg2
  refine h.one (b := H + 1) (by omega) ((Fr.refl _ _).setCell _ _ (Or.inl rfl)) ?_ (h.shared.setOther (by simp) _) (h.state.setOther (by simp; omega) _) (h.ready.setOther (by simp; omega) _)
  refine (h.place.set (v * n + i) _).congr (fun k _ => ?_)
  by_cases e : k = v * n + i
  · rw [if_pos e, ((divmod_at hi).2 e).1, ((divmod_at hi).2 e).2, upd_same]
  · rw [if_neg e, upd_ne _ _ _ _ (fun x => e ((divmod_at hi).1 x))]
theorem MS.setShared (h : MS w wr H n S0 pg N c vs L pl sh st rd P D) {a b : Nat} (hb : b < n) (x : Nat) : MS w (wr.setCell ⟨H + 2, a * n + b, none⟩ (.int .i32 (x : Int))) H n S0 pg N c vs L pl (upd sh a b x) st rd P D := by
  have p1 := h.pg1
  have p2 := h.pg2
  refine h.one (b := H + 2) (by omega) ((Fr.refl _ _).setCell _ _ (Or.inl rfl)) (h.place.setOther (by simp) _) ?_ (h.state.setOther (by simp; omega) _) (h.ready.setOther (by simp; omega) _)
  refine (h.shared.set (a * n + b) _).congr (fun k _ => ?_)
  by_cases e : k = a * n + b
  · rw [if_pos e, ((divmod_at hb).2 e).1, ((divmod_at hb).2 e).2, upd_same]
  · rw [if_neg e, upd_ne _ _ _ _ (fun x => e ((divmod_at hb).1 x))]
theorem MS.setState (h : MS w wr H n S0 pg N c vs L pl sh st rd P D) {a b : Nat} (hb : b < n) (x : Nat) : MS w (wr.setCell ⟨S0, a * n + b, none⟩ (.int .u8 (x : Int))) H n S0 pg N c vs L pl sh (upd st a b x) rd P D := by
  have p1 := h.pg1
  have p2 := h.pg2
  refine h.one (b := S0) (by omega) ((Fr.refl _ _).setCell _ _ (Or.inl rfl)) (h.place.setOther (by simp; omega) _) (h.shared.setOther (by simp; omega) _) ?_ (h.ready.setOther (by simp) _)
  refine (h.state.set (a * n + b) _).congr (fun k _ => ?_)
  by_cases e : k = a * n + b
  · rw [if_pos e, ((divmod_at hb).2 e).1, ((divmod_at hb).2 e).2, upd_same]
  · rw [if_neg e, upd_ne _ _ _ _ (fun x => e ((divmod_at hb).1 x))]
theorem MS.setReady (h : MS w wr H n S0 pg N c vs L pl sh st rd P D) (a x : Nat) : MS w (wr.setCell ⟨S0 + 1, a, none⟩ (.int .i64 (x : Int))) H n S0 pg N c vs L pl sh st (fun i => if i = a then x else rd i) P D := by
  have p1 := h.pg1
  have p2 := h.pg2
  refine h.one (b := S0 + 1) (by omega) ((Fr.refl _ _).setCell _ _ (Or.inl rfl)) (h.place.setOther (by simp; omega) _) (h.shared.setOther (by simp; omega) _) (h.state.setOther (by simp) _) ?_
  refine (h.ready.set a _).congr (fun k _ => ?_)
  by_cases e : k = a
  · rw [if_pos e, if_pos e]
  · rw [if_neg e, if_neg e]
theorem MS.congr (h : MS w wr H n S0 pg N c vs L pl sh st rd P D) {sh' st' : Nat → Nat → Nat} {rd' : Nat → Nat} (e1 : ∀ i j, sh i j = sh' i j) (e2 : ∀ i j, st i j = st' i j) (e3 : ∀ i, rd i = rd' i) : MS w wr H n S0 pg N c vs L pl sh' st' rd' P D := by
  have a1 : sh = sh' := by funext i j; exact e1 i j
  have a2 : st = st' := by funext i j; exact e2 i j
  have a3 : rd = rd' := funext e3
  subst a1; subst a2; subst a3; exact h
/-- A row changes, its block being its own still. -/
theorem MS.rowAny (h : MS w wr H n S0 pg N c vs L pl sh st rd P D) {i g : Nat} {v v' : Value} {l' : List Nat} (hv : vs[i]? = some v) (hg : v.ownBlock = some g) (hg' : v'.ownBlock = some g) (hf : Fr (fun k => k = g ∨ k = H) wr w2) (hout : w2.heap[H]? = some (.cells (vs.set i v').toArray 29 (0, 0)))
    (hown : w2.ownsRow (H + 4) 3 1 v' l'.length (ints l')) : MS w w2 H n S0 pg N c (vs.set i v') (L.set i l') pl sh st rd P D := by
  have hsz := h.sz
  have p1 := h.pg1
  have p2 := h.pg2
  have hin : i < vs.length := (List.getElem?_eq_some_iff.1 hv).1
  have hgl := (row_blk h.rows hv hg).1
  have hga := h.ap i v g hv hg
  refine ⟨hout, ⟨by simp [h.rows.len], fun j u k hu hk => ?_, fun a b u u' hu hu' hab => ?_⟩, hf.row h.place (by omega), hf.row h.shared (by omega), hf.row h.box (by omega), fun k hk => ?_, hf.row h.state (by omega), hf.row h.ready (by omega), fun j u k hu hk => ?_, ?_, h.pg1, h.pg2⟩
  · by_cases e : i = j
    · subst e
      rw [List.getElem?_set_self hin] at hu
      rw [List.getElem?_set_self (by rw [← h.rows.len]; exact hin)] at hk
      cases hu; cases hk
      exact hown
    · rw [List.getElem?_set_ne e] at hu hk
      refine hf.own (h.rows.own j u k hu hk) (fun g2 hg2 x => ?_)
      have a1 := (row_blk h.rows hu hg2).1
      rcases x with x | x
      · subst x
        rcases h.rows.apart j i u v hu hv (fun x => e x.symm) with y | y
        · rw [y] at hg2; cases hg2
        · exact y (hg2.trans hg.symm)
      · omega
  · by_cases ea : i = a
    · subst ea
      rw [List.getElem?_set_self hin] at hu
      rw [List.getElem?_set_ne hab] at hu'
      cases hu
      rw [hg', ← hg]; exact h.rows.apart i b v u' hv hu' hab
    · rw [List.getElem?_set_ne ea] at hu
      by_cases eb : i = b
      · subst eb
        rw [List.getElem?_set_self hin] at hu'
        cases hu'
        rw [hg', ← hg]; exact h.rows.apart a i u v hu hv hab
      · rw [List.getElem?_set_ne eb] at hu'
        exact h.rows.apart a b u u' hu hu' hab
  · obtain ⟨a, b, c⟩ := h.prs k hk
    exact ⟨hf.cell a (by simp; omega), hf.cell b (by simp; omega), hf.cell c (by simp; omega)⟩
  · by_cases e : i = j
    · subst e
      rw [List.getElem?_set_self hin] at hu
      cases hu
      rw [hg'] at hk; cases hk
      exact hga
    · rw [List.getElem?_set_ne e] at hu
      exact h.ap j u k hu hk
  · exact h.low.trans ⟨hf.os, hf.tape, hf.output, hf.size, fun k hk => hf.block k (by omega) (by omega)⟩
theorem MS.rowCell (h : MS w wr H n S0 pg N c vs L pl sh st rd P D) {i g cap t y : Nat} {l : List Nat} (hv : vs[i]? = some (.slice (some ⟨g, 0, none⟩) l.length cap)) (hl : L[i]? = some l) : MS w (wr.setCell ⟨g, t, none⟩ (.int .i64 (y : Int))) H n S0 pg N c vs (L.set i (l.set t y)) pl sh st rd P D := by
  have hown := h.rows.own i _ _ hv hl
  have hgl : H + 4 ≤ g := (row_blk h.rows hv rfl).1
  have e : vs.set i (.slice (some ⟨g, 0, none⟩) l.length cap) = vs := by
    apply List.ext_getElem?
    intro j
    by_cases e : i = j
    · subst e; rw [List.getElem?_set_self (List.getElem?_eq_some_iff.1 hv).1, hv]
    · rw [List.getElem?_set_ne e]
  have := h.rowAny (w2 := wr.setCell ⟨g, t, none⟩ (.int .i64 (y : Int))) (v' := .slice (some ⟨g, 0, none⟩) l.length cap) (l' := l.set t y) hv rfl rfl ((Fr.refl _ _).setCell _ _ (Or.inl (Or.inl rfl))) (by
    rw [e]
    exact (heap_setCell_other wr ⟨g, t, none⟩ H _ (by simp; omega)).trans h.out) (by
    have h1 := own_set hown t (.int .i64 (y : Int))
    rw [show (ints l).set t (.int .i64 (y : Int)) = ints (l.set t y) from by simp [ints, List.map_set]] at h1
    rw [List.length_set]; exact h1)
  rw [e] at this
  exact this
theorem MS.rowCut (h : MS w wr H n S0 pg N c vs L pl sh st rd P D) {i g cap k : Nat} {l : List Nat} (hv : vs[i]? = some (.slice (some ⟨g, 0, none⟩) l.length cap)) (hl : L[i]? = some l) (hk : k ≤ l.length) : MS w (wr.setCell ⟨H, i, none⟩ (.slice (some ⟨g, 0, none⟩) k cap)) H n S0 pg N c (vs.set i (.slice (some ⟨g, 0, none⟩) k cap)) (L.set i (l.take k)) pl sh st rd P D := by
  have hown := h.rows.own i _ _ hv hl
  have hgl : H + 4 ≤ g := (row_blk h.rows hv rfl).1
  have hin : i < vs.length := (List.getElem?_eq_some_iff.1 hv).1
  refine h.rowAny (v' := .slice (some ⟨g, 0, none⟩) k cap) hv rfl rfl ((Fr.refl _ _).setCell _ _ (Or.inl (Or.inr rfl))) ?_ ?_
  · rw [heap_setCell_same wr H i _ _ _ h.out]; simp [hin]
  · have h1 := own_cut hown k hk
    rw [ints_take] at h1
    rw [List.length_take, Nat.min_eq_left hk]
    exact ((Fr.refl (fun b => b = H) wr).setCell ⟨H, i, none⟩ _ (Or.inl rfl)).own h1 (fun g2 hg2 x => by simp [Value.ownBlock] at hg2; omega)
end
end Go.Proofs.Qxb6613821aDoor
