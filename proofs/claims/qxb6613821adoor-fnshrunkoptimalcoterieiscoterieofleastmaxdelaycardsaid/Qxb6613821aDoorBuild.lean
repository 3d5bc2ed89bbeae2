/- The room in which balls are shrunk: holders, places, what is shared, pairs. -/
import Derived.Test.Qxb6613821aDoorOwn
import Derived.Test.Qxb6613821aDoorBalls
import Derived.Test.Qxb6613821aDoorShrink
import Derived.Deep.RegionLaw
namespace Go.Proofs.Qxb6613821aDoor
set_option linter.unusedVariables false
set_option linter.unusedSimpArgs false
open Ieee Go.RowKit

theorem info21 : (Tryd.prog.info? 21).map (fun i => (i.zero, i.size, i.bytes)) = some (some (.int .i32 0), 1, 4) := by kernel_rfl
theorem info45 : (Tryd.prog.info? 45).map (fun i => (i.zero, i.size, i.bytes)) = some (some (.agg #[.int .i64 0, .int .i64 0, .float .f64 0]), 3, 24) := by kernel_rfl
theorem info5 : (Tryd.prog.info? 5).map (fun i => (i.zero, i.size, i.bytes)) = some (some (.int .u8 0), 1, 1) := by kernel_rfl

/-- The memory, H the first block of the room: holders (H), places (H+1), what is shared (H+2), the variable 'pairs' (H+3); lists of its own behind. -/
structure BM (w wr : World) (H n : Nat) (vs : List Value) (L : List (List Nat)) (pl : Nat → Nat → Int) (sh : Nat → Nat → Nat) (pv : Value) (m : Nat) (xs : List Value) : Prop where
  out : wr.heap[H]? = some (.cells vs.toArray 29 (0, 0))
  rows : RowsOf wr (H + 4) vs L
  place : wr.rowIs (H + 1) 3 (n * n) (fun k => .int .i64 (pl (k / n) (k % n)))
  shared : wr.rowIs (H + 2) 21 (n * n) (fun k => .int .i32 (sh (k / n) (k % n) : Int))
  box : wr.rowIs (H + 3) 43 1 (fun _ => pv)
  pairs : wr.ownsRow (H + 4) 45 3 pv m xs
  ap : ∀ (i : Nat) v, vs[i]? = some v → v.ownBlock = none ∨ v.ownBlock ≠ pv.ownBlock
  low : Below H w wr
  size : H + 4 ≤ wr.heap.size
section
variable {w wr w2 : World} {H n : Nat} {vs : List Value} {L : List (List Nat)} {pl : Nat → Nat → Int} {sh : Nat → Nat → Nat} {pv : Value} {m : Nat} {xs : List Value}

theorem row_blk (h : RowsOf wr (H + 4) vs L) {i : Nat} {v : Value} (hv : vs[i]? = some v) {k : Nat} (hk : v.ownBlock = some k) : H + 4 ≤ k ∧ k < wr.heap.size := by
  have hi : i < L.length := by rw [← h.len]; exact (List.getElem?_eq_some_iff.1 hv).1
  exact (h.own i v _ hv (List.getElem?_eq_getElem hi)).lt k hk
/-- Nothing of the room has changed. -/
theorem BM.keep (h : BM w wr H n vs L pl sh pv m xs) (hf : Fr (fun _ => False) wr w2) : BM w w2 H n vs L pl sh pv m xs := by
  refine ⟨(hf.block H (Array.getElem?_eq_some_iff.1 h.out).1 (fun x => x)).trans h.out, ⟨h.rows.len, fun i v l hv hl => hf.own (h.rows.own i v l hv hl) (fun _ _ x => x), h.rows.apart⟩, hf.row h.place (fun x => x), hf.row h.shared (fun x => x), hf.row h.box (fun x => x), hf.own h.pairs (fun _ _ x => x), h.ap, ?_, Nat.le_trans h.size hf.size⟩
  exact h.low.trans ⟨hf.os, hf.tape, hf.output, hf.size, fun k hk => hf.block k (by have := h.size; omega) (fun x => x)⟩
theorem BM.below (h : BM w wr H n vs L pl sh pv m xs) (hb : Below wr.heap.size wr w2) : BM w w2 H n vs L pl sh pv m xs := h.keep (Fr.of_below hb _)
theorem BM.drewN (h : BM w wr H n vs L pl sh pv m xs) (k : Nat) : BM w (wr.drewN k) H n vs L pl sh pv m xs := h.keep ((Fr.refl _ _).drewN k)
theorem BM.alloc (h : BM w wr H n vs L pl sh pv m xs) (o : Obj) : BM w (wr.alloc o) H n vs L pl sh pv m xs := h.keep ((Fr.refl _ _).alloc o)
/-- One block of the four has changed. -/
theorem BM.one (h : BM w wr H n vs L pl sh pv m xs) {b : Nat} (hb : H < b) (hb4 : b < H + 4) (hf : Fr (fun k => k = b) wr w2) {pl' : Nat → Nat → Int} {sh' : Nat → Nat → Nat}
    (h1 : w2.rowIs (H + 1) 3 (n * n) (fun k => .int .i64 (pl' (k / n) (k % n)))) (h2 : w2.rowIs (H + 2) 21 (n * n) (fun k => .int .i32 (sh' (k / n) (k % n) : Int))) (h3 : w2.rowIs (H + 3) 43 1 (fun _ => pv)) : BM w w2 H n vs L pl' sh' pv m xs := by
  refine ⟨(hf.block H (Array.getElem?_eq_some_iff.1 h.out).1 (by omega)).trans h.out, ⟨h.rows.len, fun i v l hv hl => hf.own (h.rows.own i v l hv hl) (fun g hg x => ?_), h.rows.apart⟩, h1, h2, h3, hf.own h.pairs (fun g hg x => ?_), h.ap, ?_, Nat.le_trans h.size hf.size⟩
  · have := (row_blk h.rows hv hg).1; omega
  · have := (h.pairs.lt g hg).1; omega
  · exact h.low.trans ⟨hf.os, hf.tape, hf.output, hf.size, fun k hk => hf.block k (by have := h.size; omega) (by omega)⟩
theorem divmod_at {n a b k : Nat} (hb : b < n) : (k / n = a ∧ k % n = b) ↔ k = a * n + b := by
  constructor
  · rintro ⟨rfl, rfl⟩
    have := Nat.div_add_mod k n
    rw [Nat.mul_comm] at this; omega
  · rintro rfl
    have hn : 0 < n := by omega
    rw [Nat.mul_comm, Nat.mul_add_div hn, Nat.mul_add_mod, Nat.div_eq_of_lt hb, Nat.mod_eq_of_lt hb]; simp
theorem BM.setPlace (h : BM w wr H n vs L pl sh pv m xs) {v i : Nat} (hi : i < n) (x : Int) : BM w (wr.setCell ⟨H + 1, v * n + i, none⟩ (.int .i64 x)) H n vs L (upd pl v i x) sh pv m xs := by
  refine h.one (b := H + 1) (by omega) (by omega) ((Fr.refl _ _).setCell _ _ (Or.inl rfl)) ?_ (h.shared.setOther (by simp) _) (h.box.setOther (by simp) _)
  refine (h.place.set (v * n + i) _).congr (fun k _ => ?_)
  by_cases e : k = v * n + i
  · rw [if_pos e, ((divmod_at hi).2 e).1, ((divmod_at hi).2 e).2, upd_same]
  · rw [if_neg e, upd_ne _ _ _ _ (fun x => e ((divmod_at hi).1 x))]
theorem BM.setShared (h : BM w wr H n vs L pl sh pv m xs) {a b : Nat} (hb : b < n) (x : Nat) : BM w (wr.setCell ⟨H + 2, a * n + b, none⟩ (.int .i32 (x : Int))) H n vs L pl (upd sh a b x) pv m xs := by
  refine h.one (b := H + 2) (by omega) (by omega) ((Fr.refl _ _).setCell _ _ (Or.inl rfl)) (h.place.setOther (by simp) _) ?_ (h.box.setOther (by simp) _)
  refine (h.shared.set (a * n + b) _).congr (fun k _ => ?_)
  by_cases e : k = a * n + b
  · rw [if_pos e, ((divmod_at hb).2 e).1, ((divmod_at hb).2 e).2, upd_same]
  · rw [if_neg e, upd_ne _ _ _ _ (fun x => e ((divmod_at hb).1 x))]
/-- A row is replaced. -/
theorem BM.setRow (h : BM w wr H n vs L pl sh pv m xs) {i : Nat} {v v' : Value} {l' : List Nat} (hv : vs[i]? = some v) (hf : Fr (fun k => v.ownBlock = some k) wr w2) (hown : w2.ownsRow (H + 4) 3 1 v' l'.length (ints l')) (hw : v'.ownBlock = v.ownBlock ∨ ∃ k, v'.ownBlock = some k ∧ wr.heap.size ≤ k) :
    BM w (w2.setCell ⟨H, i, none⟩ v') H n (vs.set i v') (L.set i l') pl sh pv m xs := by
  have hin : i < vs.length := (List.getElem?_eq_some_iff.1 hv).1
  have hlow : ∀ b, b < H + 4 → ¬ v.ownBlock = some b := fun b hb x => by have := (row_blk h.rows hv x).1; omega
  have hf2 : Fr (fun k => k = H) w2 (w2.setCell ⟨H, i, none⟩ v') := (Fr.refl _ _).setCell _ _ (Or.inl rfl)
  have hneH : ∀ g, H + 4 ≤ g → ¬ g = H := fun g hg x => by omega
  have hout2 : w2.heap[H]? = some (.cells vs.toArray 29 (0, 0)) := (hf.block H (Array.getElem?_eq_some_iff.1 h.out).1 (hlow H (by omega))).trans h.out
  have hsz2 := hf.size
  refine ⟨?_, ⟨by simp [h.rows.len], fun j u k hu hk => ?_, fun a b u u' hu hu' hab => ?_⟩, hf2.row (hf.row h.place (hlow _ (by omega))) (by omega), hf2.row (hf.row h.shared (hlow _ (by omega))) (by omega), hf2.row (hf.row h.box (hlow _ (by omega))) (by omega), hf2.own (hf.own h.pairs (fun g hg x => ?_)) (fun g hg => hneH g (h.pairs.lt g hg).1), fun j u hu => ?_, ?_, ?_⟩
  · rw [heap_setCell_same w2 H i _ _ _ hout2]
    simp [hin]
  · by_cases e : i = j
    · subst e
      rw [List.getElem?_set_self hin] at hu
      rw [List.getElem?_set_self (by rw [← h.rows.len]; exact hin)] at hk
      cases hu; cases hk
      exact hf2.own hown (fun g hg => hneH g (hown.lt g hg).1)
    · rw [List.getElem?_set_ne e] at hu hk
      have h1 := hf.own (h.rows.own j u k hu hk) (fun g hg x => by
        rcases h.rows.apart j i u v hu hv (fun x => e x.symm) with y | y
        · rw [y] at hg; cases hg
        · exact y (hg.trans x.symm))
      exact hf2.own h1 (fun g hg => hneH g (h1.lt g hg).1)
  · by_cases ea : i = a
    · subst ea
      rw [List.getElem?_set_self hin] at hu
      rw [List.getElem?_set_ne hab] at hu'
      cases hu
      rcases hw with hw | ⟨k, hw, hk⟩
      · rw [hw]; exact h.rows.apart i b v u' hv hu' hab
      · refine Or.inr (fun x => ?_)
        rw [hw] at x
        have := (row_blk h.rows hu' x.symm).2
        omega
    · rw [List.getElem?_set_ne ea] at hu
      by_cases eb : i = b
      · subst eb
        rw [List.getElem?_set_self hin] at hu'
        cases hu'
        rcases hw with hw | ⟨k, hw, hk⟩
        · rw [hw]; exact h.rows.apart a i u v hu hv hab
        · refine Or.inr (fun x => ?_)
          rw [hw] at x
          have := (row_blk h.rows hu x).2
          omega
      · rw [List.getElem?_set_ne eb] at hu'
        exact h.rows.apart a b u u' hu hu' hab
  · rcases h.ap i v hv with y | y
    · rw [y] at x; cases x
    · exact y (x.trans hg.symm)
  · by_cases e : i = j
    · subst e
      rw [List.getElem?_set_self hin] at hu
      cases hu
      rcases hw with hw | ⟨k, hw, hk⟩
      · rw [hw]; exact h.ap i v hv
      · refine Or.inr (fun x => ?_)
        rw [hw] at x
        have := (h.pairs.lt k x.symm).2
        omega
    · rw [List.getElem?_set_ne e] at hu
      exact h.ap j u hu
  · have hl2 : Below H w w2 := h.low.trans ⟨hf.os, hf.tape, hf.output, hf.size, fun k hk => hf.block k (by have := h.size; omega) (hlow k (by omega))⟩
    exact hl2.setCell (Nat.le_refl _) _
  · have := h.size; simp; omega
/-- A pair is added. -/
theorem BM.setPairs (h : BM w wr H n vs L pl sh pv m xs) {pv' : Value} {m' : Nat} {xs' : List Value} (hf : Fr (fun k => pv.ownBlock = some k) wr w2) (hown : w2.ownsRow (H + 4) 45 3 pv' m' xs') (hw : pv'.ownBlock = pv.ownBlock ∨ ∃ k, pv'.ownBlock = some k ∧ wr.heap.size ≤ k) :
    BM w (w2.setCell ⟨H + 3, 0, none⟩ pv') H n vs L pl sh pv' m' xs' := by
  have hlow : ∀ b, b < H + 4 → ¬ pv.ownBlock = some b := fun b hb x => by have := (h.pairs.lt b x).1; omega
  have hf2 : Fr (fun k => k = H + 3) w2 (w2.setCell ⟨H + 3, 0, none⟩ pv') := (Fr.refl _ _).setCell _ _ (Or.inl rfl)
  have hne3 : ∀ g, H + 4 ≤ g → ¬ g = H + 3 := fun g hg x => by omega
  refine ⟨(hf2.block H (by have := hf.size; have := (Array.getElem?_eq_some_iff.1 h.out).1; omega) (by omega)).trans ((hf.block H (Array.getElem?_eq_some_iff.1 h.out).1 (hlow H (by omega))).trans h.out), ⟨h.rows.len, fun i v l hv hl => ?_, h.rows.apart⟩, hf2.row (hf.row h.place (hlow _ (by omega))) (by omega), hf2.row (hf.row h.shared (hlow _ (by omega))) (by omega), ?_, hf2.own hown (fun g hg => hne3 g (hown.lt g hg).1), fun i v hv => ?_, ?_, ?_⟩
  · have h1 := hf.own (h.rows.own i v l hv hl) (fun g hg x => by
      rcases h.ap i v hv with y | y
      · rw [y] at hg; cases hg
      · exact y (hg.trans x.symm))
    exact hf2.own h1 (fun g hg => hne3 g (h1.lt g hg).1)
  · refine ((hf.row h.box (hlow _ (by omega))).set 0 _).congr (fun i hi => ?_)
    rw [if_pos (by omega)]
  · rcases hw with hw | ⟨k, hw, hk⟩
    · rw [hw]; exact h.ap i v hv
    · refine Or.inr (fun x => ?_)
      rw [hw] at x
      have := (row_blk h.rows hv x).2
      omega
  · have hl2 : Below H w w2 := h.low.trans ⟨hf.os, hf.tape, hf.output, hf.size, fun k hk => hf.block k (by have := h.size; omega) (hlow k (by omega))⟩
    exact hl2.setCell (by simp) _
  · have := h.size; have := hf.size; simp; omega
end

/-- 'append(v, pair)' as one step of a region that draws its order. -/
theorem step_append_pair {ops : Array Oper} {o : Oper} {a : Act} {w : World} {K : Act → World → Prop} {Q : Exit → Act → World → Prop} {E : Prop} (hgd : o.guard = none) (s x : Operand)
    (ho : o.op = .call { callee := .builtin .append, args := #[s, x], argTypes := #[43, 43] }) (base : Nat) (v : Value) (n : Nat) (l : List Value) (hs : a.eval s = v) (hown : w.ownsRow base 45 3 v n l)
    (g c : Nat) (y0 y1 y2 : Value) (hx : a.eval x = .slice (some ⟨g, 0, none⟩) 1 c) (hc0 : w.cell? ⟨g, 0, none⟩ = some y0) (hc1 : w.cell? ⟨g, 1, none⟩ = some y1) (hc2 : w.cell? ⟨g, 2, none⟩ = some y2)
    (h0 : y0.oneCell' = true) (h1 : y1.oneCell' = true) (h2 : y2.oneCell' = true) (hlen : n < 1073741824) (hbase : base ≤ w.heap.size)
    (h : ∀ g' c' w', w'.ownsRow base 45 3 (.slice (some ⟨g', 0, none⟩) (n + 1) c') (n + 1) (l ++ [y0, y1, y2]) → w.grownBy w' v.ownBlock → (some g' = v.ownBlock ∨ g' = w.heap.size) →
      K (a.put o.dst (.slice (some ⟨g', 0, none⟩) (n + 1) c')) w') :
    if Region.wanted o (yielded ops a.tmps) = true then Oper.wp Tryd.prog o a w K Q else E := by
  have hw : Region.wanted o (yielded ops a.tmps) = true := by simp [Region.wanted, hgd]
  rw [if_pos hw]
  obtain ⟨i, hi, hz0, hz1, hz2⟩ := info_parts info45
  have hnews : ∀ (j : Nat) u, [y0, y1, y2][j]? = some u → w.cell? ((⟨g, 0, none⟩ : Addr).add j) = some u := by
    intro j u hu
    match j with
    | 0 => simp at hu; subst hu; rw [show (⟨g, 0, none⟩ : Addr).add 0 = ⟨g, 0, none⟩ from by simp [Addr.add]]; exact hc0
    | 1 => simp at hu; subst hu; rw [show (⟨g, 0, none⟩ : Addr).add 1 = ⟨g, 1, none⟩ from by simp [Addr.add]]; exact hc1
    | 2 => simp at hu; subst hu; rw [show (⟨g, 0, none⟩ : Addr).add 2 = ⟨g, 2, none⟩ from by simp [Addr.add]]; exact hc2
    | j + 3 => simp at hu
  have hone : ∀ u ∈ [y0, y1, y2], u.oneCell' = true := by intro u hu; simp at hu; rcases hu with rfl | rfl | rfl <;> assumption
  have h63 : n + 1 ≤ maxLen := by unfold maxLen; omega
  obtain ⟨v', w', hr, h2', h3', _⟩ := run_append_own (P := Tryd.prog) w base 43 o.type 45 i _ 3 24 Tryd.underlying43 hi hz0 hz1 hz2 rfl (by omega) v n l hown ⟨g, 0, none⟩ 1 c [y0, y1, y2] rfl hnews hone h63 (by omega) hbase
  have hwh := append_where (P := Tryd.prog) w base 43 o.type 45 i _ 3 24 Tryd.underlying43 hi hz0 hz1 hz2 v n l hown ⟨g, 0, none⟩ 1 c [y0, y1, y2] rfl hnews hone (by omega) h63 (by omega) hr
  obtain ⟨g', c', hv'⟩ : ∃ g' c', v' = .slice (some ⟨g', 0, none⟩) (n + 1) c' := by
    rcases h2'.2 with ⟨_, h0⟩ | ⟨g', c', _, hv', _⟩
    · omega
    · exact ⟨g', c', hv'⟩
  subst hv'
  unfold Oper.wp
  simp [execOp, ho, resolve, invoke, builtin, hs, hx, hr, Result.andThen]
  exact h g' c' w' h2' h3' (by simpa [Value.ownBlock] using hwh)
end Go.Proofs.Qxb6613821aDoor
