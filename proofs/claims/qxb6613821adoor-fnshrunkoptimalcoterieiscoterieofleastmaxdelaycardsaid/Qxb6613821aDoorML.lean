/- The main loop of shrinkBalls: what holds at its head. -/
import Derived.Test.Qxb6613821aDoorPrs
namespace Go.Proofs.Qxb6613821aDoor
set_option linter.unusedVariables false
set_option linter.unusedSimpArgs false
open Ieee Go.Shelf Go.RowKit Go.Lib Go.Sort

theorem ms_start {w wc w1 w2 : World} {H n c pg : Nat} {vs : List Value} {L : List (List Nat)} {pl : Nat → Nat → Int} {sh : Nat → Nat → Nat} {D : Nat → Nat → Nat} {PS : List (Nat × Nat)} (h : BM w wc H n vs L pl sh (.slice (some ⟨pg, 0, none⟩) PS.length c) PS.length (pcells D PS)) (hf : Fr (fun k => k = pg) wc w1) (hh : HoldsK (encP D) 3 w1 pg 0 (sortP D PS.toArray))
    (hw2 : w2 = (w1.alloc (.cells (madeCells #[.int .u8 0] (n * n)) 5)).alloc (.cells (madeCells #[.int .i64 0] n) 3)) :
    MS w w2 H n w1.heap.size pg PS.length c vs L pl sh (fun _ _ => 0) (fun _ => 0) (prsOf D n PS) D := by
  have hsz := h.size
  have hs1 := hf.size
  have hpg : H + 4 ≤ pg ∧ pg < wc.heap.size := h.pairs.lt pg rfl
  have hf2 : Fr (fun k => k = pg) wc w2 := by rw [hw2]; exact (hf.alloc _).alloc _
  have hrow : ∀ {i : Nat} {v : Value} {k : Nat}, vs[i]? = some v → v.ownBlock = some k → ¬ k = pg := fun hv hk e => by
    subst e
    rcases h.ap _ _ hv with x | x
    · rw [x] at hk; cases hk
    · exact x hk
  refine ⟨(hf2.block H (Array.getElem?_eq_some_iff.1 h.out).1 (by omega)).trans h.out, ⟨h.rows.len, fun i v l hv hl => hf2.own (h.rows.own i v l hv hl) (fun g hg => hrow hv hg), h.rows.apart⟩, hf2.row h.place (by omega), hf2.row h.shared (by omega), hf2.row h.box (by omega), fun k hk => ?_, ?_, ?_, fun i v k hv hk => ⟨hrow hv hk, by have := (row_blk h.rows hv hk).2; omega⟩, ?_, hpg.1, by omega⟩
  · have hk2 : k < (sortP D PS.toArray).size := by rw [sortP_size]; exact hk
    have key : ∀ j, j < 3 → w2.cell? ⟨pg, k * 3 + j, none⟩ = some (encP D (sortP D PS.toArray)[k]!)[j]! := fun j hj => by
      have h1 := (hh.cell (i := k) (c := j) hk2 hj).1
      rw [show 0 + k * 3 + j = k * 3 + j from by omega] at h1
      rw [hw2]
      have hfr : Fr (fun _ => False) w1 ((w1.alloc (.cells (madeCells #[.int .u8 0] (n * n)) 5)).alloc (.cells (madeCells #[.int .i64 0] n) 3)) := ((Fr.refl _ _).alloc _).alloc _
      exact hfr.cell h1 (fun x => x)
    exact ⟨key 0 (by omega), key 1 (by omega), key 2 (by omega)⟩
  · rw [hw2]; exact (World.rowIs_made w1 (.int .u8 0) (n * n) 5).alloc _
  · rw [hw2]
    have := World.rowIs_made (w1.alloc (.cells (madeCells #[.int .u8 0] (n * n)) 5)) (.int .i64 0) n 3
    rw [show (w1.alloc (.cells (madeCells #[.int .u8 0] (n * n)) 5)).heap.size = w1.heap.size + 1 from by simp] at this
    exact this
  · exact h.low.trans ⟨hf2.os, hf2.tape, hf2.output, hf2.size, fun k hk => hf2.block k (by omega) (by omega)⟩

/-- What holds, the state being s. -/
structure MLs (w wr : World) (H n S0 pg N c : Nat) (P : Pairs) (D : Nat → Nat → Nat) (hd : Nat → Nat → Bool) (vs : List Value) (L : List (List Nat)) (pl : Nat → Nat → Int) (hold : Nat → Nat → Bool) (st : Nat → Nat → Nat) (top fin : Nat) : Prop where
  ms : MS w wr H n S0 pg N c vs L pl (share n hold) st (ready n st) P D
  inv : Inv P hd hold st top fin
  ls : ∀ v, v < n → ∃ l, L[v]? = some l ∧ Listed l (fun i => hold i v) (pl v)
  off : ∀ i v, hd i v = true → hold i v = false → pl v i = -1
theorem MLs.keep {w wr w2 : World} {H n S0 pg N c : Nat} {P : Pairs} {D : Nat → Nat → Nat} {hd : Nat → Nat → Bool} {vs : List Value} {L : List (List Nat)} {pl : Nat → Nat → Int} {hold : Nat → Nat → Bool} {st : Nat → Nat → Nat} {top fin : Nat} (h : MLs w wr H n S0 pg N c P D hd vs L pl hold st top fin) (hf : Fr (fun _ => False) wr w2) : MLs w w2 H n S0 pg N c P D hd vs L pl hold st top fin := ⟨h.ms.keep hf, h.inv, h.ls, h.off⟩
theorem inv_start {P : Pairs} {hd : Nat → Nat → Bool} : Inv P hd hd (fun _ _ => 0) 0 0 :=
  ⟨Nat.zero_le _, Nat.zero_le _, fun k hk => by omega, fun k _ _ => rfl, fun i v h => absurd rfl h, fun k hk => by omega, fun _ => by omega, fun _ _ h => h, fun _ _ h _ => h, fun i j h => h⟩
theorem ready_zero (n i : Nat) : ready n (fun _ _ => 0) i = 0 := by
  unfold ready
  have : ∀ m, cnt (fun _ => ((0 : Nat) == 1)) m = 0 := by
    intro m
    induction m with
    | zero => rfl
    | succ m ih => unfold cnt; rw [ih]; rfl
  exact this n
/-- A pair joins. -/
theorem MLs.join {w wr : World} {H n S0 pg N c : Nat} {P : Pairs} {D : Nat → Nat → Nat} {hd : Nat → Nat → Bool} {vs : List Value} {L : List (List Nat)} {pl : Nat → Nat → Int} {hold : Nat → Nat → Bool} {st : Nat → Nat → Nat} {top fin : Nat} (hP : P.Ok hd) (hPn : P.n = n) (h : MLs w wr H n S0 pg N c P D hd vs L pl hold st top fin) (hf : fin < P.N) :
    MLs w ((wr.setCell ⟨S0, P.nd fin * n + P.mb fin, none⟩ (.int .u8 ((1 : Nat) : Int))).setCell ⟨S0 + 1, P.nd fin, none⟩ (.int .i64 ((ready n st (P.nd fin) + 1 : Nat) : Int))) H n S0 pg N c P D hd vs L pl hold (upd st (P.nd fin) (P.mb fin) 1) top (fin + 1) := by
  refine ⟨?_, h.inv.join hP hf, h.ls, h.off⟩
  have hmb : P.mb fin < n := by rw [← hPn]; exact hP.n2 fin hf
  refine ((h.ms.setState (a := P.nd fin) hmb 1).setReady (P.nd fin) (ready n st (P.nd fin) + 1)).congr (fun _ _ => rfl) (fun _ _ => rfl) (fun i => ?_)
  have := ready_join hP h.inv hf i
  rw [hPn] at this
  rw [this]
  by_cases e : i = P.nd fin
  · rw [if_pos e, if_pos e, e]
  · rw [if_neg e, if_neg e]; rfl
theorem lead_min {p : Nat → Bool} : ∀ {f v u : Nat}, v ≤ u → u < lead p f v → p u = false
  | 0, v, u, h1, h2 => by unfold lead at h2; omega
  | f + 1, v, u, h1, h2 => by
    unfold lead at h2
    split at h2
    · omega
    · rename_i h
      by_cases e : u = v
      · subst e; simpa using h
      · exact lead_min (f := f) (v := v + 1) (by omega) h2
theorem joinTo_stop {P : Pairs} {top f fin : Nat} {st : Nat → Nat → Nat} (h : f = 0 ∨ P.le top fin = false) : joinTo P top f fin st = (fin, st) := by
  cases f with
  | zero => rfl
  | succ f =>
    rcases h with h | h
    · cases h
    · unfold joinTo; rw [if_neg (by rw [h]; simp)]
theorem joinTo_go {P : Pairs} {top f fin : Nat} {st : Nat → Nat → Nat} (h : P.le top fin = true) : joinTo P top (f + 1) fin st = joinTo P top f (fin + 1) (upd st (P.nd fin) (P.mb fin) 1) := by
  rw [show joinTo P top (f + 1) fin st = if P.le top fin then joinTo P top f (fin + 1) (upd st (P.nd fin) (P.mb fin) 1) else (fin, st) from rfl, if_pos h]
theorem best_step (rd sz : Nat → Nat) (k : Nat) : best rd sz (k + 1) = match best rd sz k with
    | none => if 0 < rd k then some k else none
    | some i => if 0 < rd k ∧ sz i < sz k then some k else some i := rfl
theorem store_pair (W2 : World) (x y e2 : Nat) (m : Mode) : (store ⟨W2.heap.size, 2, none⟩ (.float .f64 e2) m).run Tryd.prog (W2.alloc (.cells #[.int .i64 (x : Int), .int .i64 (y : Int), .float .f64 0] 45)) = .ok () (W2.alloc (.cells #[.int .i64 (x : Int), .int .i64 (y : Int), .float .f64 e2] 45)) := by
  rw [run_store Tryd.prog _ _ _ _ rfl]
  simp [stored]
  rw [World.setCell_alloc_at _ _ _ _ _ rfl]
  rfl
theorem ready_act {n : Nat} {st : Nat → Nat → Nat} {i v : Nat} (h : st i v = 1) (hv : v < n) (c : Nat) : ready n (upd st i v 2) c = if c = i then ready n st i - 1 else ready n st c := by
  unfold ready
  by_cases e : c = i
  · subst e
    rw [if_pos rfl]
    have := cnt_set (p := fun u => upd st c v 2 c u == 1) (r := fun u => st c u == 1) (v := v) (by rw [upd_same]; rfl) (by rw [h]; rfl) (n := n) (fun k _ hk => by rw [upd_ne _ _ _ _ (fun x => hk x.2)]) hv
    omega
  · rw [if_neg e]
    exact cnt_congr (fun k _ => by rw [upd_ne _ _ _ _ (fun x => e x.1)])
theorem canLeave_list {n : Nat} {hold : Nat → Nat → Bool} {i v : Nat} {l : List Nat} (hm : ∀ j, j ∈ l ↔ hold j v = true) (hin : ∀ j, j ∈ l → j < n) : canLeave n hold i v = true ↔ ∀ j ∈ l, 2 ≤ share n hold i j := by
  unfold canLeave
  rw [List.all_eq_true]
  constructor
  · intro h j hj
    have := h j (by simpa using hin j hj)
    rw [(hm j).1 hj] at this
    simpa using this
  · intro h j hj
    cases hh : hold j v with
    | false => rfl
    | true => simpa using h j ((hm j).2 hh)
/-- What is shared, as v leaves i's ball: a of the list are done. -/
def shB (sh : Nat → Nat → Nat) (i : Nat) (l : List Nat) (a x y : Nat) : Nat := sh x y - if (x = i ∧ y ∈ l.take a) ∨ (y = i ∧ x ∈ l.take a) then 1 else 0
theorem shB_start (sh : Nat → Nat → Nat) (i : Nat) (l : List Nat) (x y : Nat) : shB sh i l 0 x y = sh x y := by simp [shB]
theorem shB_same {sh : Nat → Nat → Nat} {i : Nat} {l : List Nat} (hl : Inj l) {a : Nat} (ha : l[a]? = some i) (x y : Nat) : shB sh i l (a + 1) x y = upd (shB sh i l a) i i (shB sh i l a i i - 1) x y := by
  have hn := not_take hl ha
  by_cases e : x = i ∧ y = i
  · obtain ⟨rfl, rfl⟩ := e
    rw [upd_same]
    unfold shB
    rw [if_pos (Or.inl ⟨rfl, (mem_take_succ ha _).2 (Or.inr rfl)⟩), if_neg (by rintro (⟨_, c⟩ | ⟨_, c⟩) <;> exact hn c)]
    omega
  · rw [upd_ne _ _ _ _ e]
    unfold shB
    congr 1
    have : ((x = i ∧ y ∈ l.take (a + 1)) ∨ (y = i ∧ x ∈ l.take (a + 1))) ↔ ((x = i ∧ y ∈ l.take a) ∨ (y = i ∧ x ∈ l.take a)) := by
      rw [mem_take_succ ha, mem_take_succ ha]
      constructor
      · rintro (⟨c, d | d⟩ | ⟨c, d | d⟩)
        · exact Or.inl ⟨c, d⟩
        · exact absurd ⟨c, d⟩ e
        · exact Or.inr ⟨c, d⟩
        · exact absurd ⟨d, c⟩ e
      · rintro (⟨c, d⟩ | ⟨c, d⟩)
        · exact Or.inl ⟨c, Or.inl d⟩
        · exact Or.inr ⟨c, Or.inl d⟩
    simp only [this]
theorem shB_other {sh : Nat → Nat → Nat} {i : Nat} {l : List Nat} (hl : Inj l) {a j : Nat} (ha : l[a]? = some j) (hji : j ≠ i) (x y : Nat) : shB sh i l (a + 1) x y = upd (upd (shB sh i l a) i j (shB sh i l a i j - 1)) j i (shB sh i l a j i - 1) x y := by
  have hn := not_take hl ha
  by_cases e : x = j ∧ y = i
  · obtain ⟨rfl, rfl⟩ := e
    rw [upd_same]
    unfold shB
    rw [if_pos (Or.inr ⟨rfl, (mem_take_succ ha _).2 (Or.inr rfl)⟩), if_neg (by rintro (⟨c, _⟩ | ⟨_, c⟩); exact hji c; exact hn c)]
    omega
  · rw [upd_ne _ _ _ _ e]
    by_cases e2 : x = i ∧ y = j
    · obtain ⟨rfl, rfl⟩ := e2
      rw [upd_same]
      unfold shB
      rw [if_pos (Or.inl ⟨rfl, (mem_take_succ ha _).2 (Or.inr rfl)⟩), if_neg (by rintro (⟨_, c⟩ | ⟨c, _⟩); exact hn c; exact hji c)]
      omega
    · rw [upd_ne _ _ _ _ e2]
      unfold shB
      congr 1
      have : ((x = i ∧ y ∈ l.take (a + 1)) ∨ (y = i ∧ x ∈ l.take (a + 1))) ↔ ((x = i ∧ y ∈ l.take a) ∨ (y = i ∧ x ∈ l.take a)) := by
        rw [mem_take_succ ha, mem_take_succ ha]
        constructor
        · rintro (⟨c, d | d⟩ | ⟨c, d | d⟩)
          · exact Or.inl ⟨c, d⟩
          · exact absurd ⟨c, d⟩ e2
          · exact Or.inr ⟨c, d⟩
          · exact absurd ⟨d, c⟩ e
        · rintro (⟨c, d⟩ | ⟨c, d⟩)
          · exact Or.inl ⟨c, Or.inl d⟩
          · exact Or.inr ⟨c, Or.inl d⟩
      simp only [this]
theorem shB_end {n : Nat} {hold : Nat → Nat → Bool} {i v : Nat} (hiv : hold i v = true) (hv : v < n) {l : List Nat} (hm : ∀ j, j ∈ l ↔ hold j v = true) {a : Nat} (ha : a = l.length) (x y : Nat) : shB (share n hold) i l a x y = share n (upd hold i v false) x y := by
  subst ha
  have := share_out hiv hv x y
  unfold shB
  rw [List.take_length]
  have e : ((x = i ∧ y ∈ l) ∨ (y = i ∧ x ∈ l)) ↔ ((x = i ∧ hold y v = true) ∨ (y = i ∧ hold x v = true)) := by rw [hm, hm]
  simp only [e]
  omega
/-- The room behind a round's change. -/
structure ML2 (w wr : World) (H n S0 pg N c : Nat) (P : Pairs) (D : Nat → Nat → Nat) (hd hold : Nat → Nat → Bool) (st : Nat → Nat → Nat) : Prop where
  ex : ∃ (vs : List Value) (L : List (List Nat)) (pl : Nat → Nat → Int), MS w wr H n S0 pg N c vs L pl (share n hold) st (ready n st) P D ∧ (∀ v, v < n → ∃ l, L[v]? = some l ∧ Listed l (fun i => hold i v) (pl v)) ∧ (∀ i v, hd i v = true → hold i v = false → pl v i = -1)
theorem ML2.keep {w wr w2 : World} {H n S0 pg N c : Nat} {P : Pairs} {D : Nat → Nat → Nat} {hd hold : Nat → Nat → Bool} {st : Nat → Nat → Nat} (h : ML2 w wr H n S0 pg N c P D hd hold st) (hf : Fr (fun _ => False) wr w2) : ML2 w w2 H n S0 pg N c P D hd hold st := by
  obtain ⟨vs, L, pl, h1, h2, h3⟩ := h.ex
  exact ⟨vs, L, pl, h1.keep hf, h2, h3⟩
end Go.Proofs.Qxb6613821aDoor
