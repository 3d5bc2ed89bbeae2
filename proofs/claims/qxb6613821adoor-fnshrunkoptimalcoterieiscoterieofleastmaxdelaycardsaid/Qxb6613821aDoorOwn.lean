/- Lists of the program's own: frames, stores into them, shorter ones; the trie's nodes in memory. -/
import Derived.Test.Qxb6613821aDoorMembers
import Derived.Test.Qxb6613821aDoorTrie
namespace Go.Proofs.Qxb6613821aDoor
set_option linter.unusedVariables false
set_option linter.unusedSimpArgs false
open Ieee Go.RowKit

/-- Only the blocks of S, of those that stood, may have changed. -/
structure Fr (S : Nat → Prop) (w w' : World) : Prop where
  os : w'.os = w.os
  tape : w'.tape = w.tape
  output : w'.output = w.output
  size : w.heap.size ≤ w'.heap.size
  block : ∀ k, k < w.heap.size → ¬ S k → w'.heap[k]? = w.heap[k]?
theorem Fr.refl (S : Nat → Prop) (w : World) : Fr S w w := ⟨rfl, rfl, rfl, Nat.le_refl _, fun _ _ _ => rfl⟩
theorem Fr.trans {S T : Nat → Prop} {w w1 w2 : World} (h : Fr S w w1) (k : Fr T w1 w2) (hs : ∀ b, b < w.heap.size → T b → S b) : Fr S w w2 :=
  ⟨k.os.trans h.os, k.tape.trans h.tape, k.output.trans h.output, Nat.le_trans h.size k.size, fun b hb hn => (k.block b (Nat.lt_of_lt_of_le hb h.size) (fun x => hn (hs b hb x))).trans (h.block b hb hn)⟩
theorem Fr.mono {S T : Nat → Prop} {w w1 : World} (h : Fr S w w1) (hs : ∀ b, b < w.heap.size → S b → T b) : Fr T w w1 := (Fr.refl T w).trans h hs
theorem Fr.of_grown {w w' : World} {r : Option Nat} (h : w.grownBy w' r) : Fr (fun k => r = some k) w w' := ⟨h.os, h.tape, h.output, h.size, fun k hk hn => h.block k hk (fun e => hn e.symm)⟩
theorem Fr.of_below {w w' : World} (h : Below w.heap.size w w') (S : Nat → Prop) : Fr S w w' := ⟨h.os, h.tape, h.output, h.size, fun k hk _ => h.block k hk⟩
theorem Fr.setCell {S : Nat → Prop} {w w' : World} (h : Fr S w w') (a : Addr) (v : Value) (ha : S a.block ∨ w.heap.size ≤ a.block) : Fr S w (w'.setCell a v) :=
  ⟨h.os, h.tape, h.output, by simpa using h.size, fun k hk hn => (heap_setCell_other w' a k v (fun e => by
    rcases ha with x | x
    · exact hn (e ▸ x)
    · omega)).trans (h.block k hk hn)⟩
theorem Fr.alloc {S : Nat → Prop} {w w' : World} (h : Fr S w w') (o : Obj) : Fr S w (w'.alloc o) :=
  ⟨h.os, h.tape, h.output, by have := h.size; simp; omega, fun k hk hn => (Below.heap_alloc w' o k (Nat.lt_of_lt_of_le hk h.size)).trans (h.block k hk hn)⟩
theorem Fr.drewN {S : Nat → Prop} {w w' : World} (h : Fr S w w') (n : Nat) : Fr S w (w'.drewN n) := ⟨h.os, h.tape, h.output, h.size, h.block⟩
theorem Fr.cell {S : Nat → Prop} {w w' : World} (h : Fr S w w') {a : Addr} {v : Value} (hc : w.cell? a = some v) (hn : ¬ S a.block) : w'.cell? a = some v :=
  (World.cell?_of_block (h.block _ (World.block_lt_of_cell? _ _ hc) hn)).trans hc
theorem Fr.row {S : Nat → Prop} {w w' : World} (h : Fr S w w') {b : Nat} {t : TypeId} {n : Nat} {f : Nat → Value} (hr : w.rowIs b t n f) (hn : ¬ S b) : w'.rowIs b t n f := hr.of_block (h.block b hr.lt hn)
theorem Fr.own {S : Nat → Prop} {w w' : World} (h : Fr S w w') {base : Nat} {e : TypeId} {size : Nat} {v : Value} {n : Nat} {xs : List Value} (ho : w.ownsRow base e size v n xs) (hn : ∀ g, v.ownBlock = some g → ¬ S g) : w'.ownsRow base e size v n xs := by
  refine ⟨ho.1, ?_⟩
  rcases ho.2 with x | ⟨g, cap, cur, rfl, hb, hg, rest⟩
  · exact Or.inl x
  · refine Or.inr ⟨g, cap, cur, rfl, hb, ?_, rest⟩
    exact (h.block g (Array.getElem?_eq_some_iff.1 hg).1 (hn g rfl)).trans hg
theorem Fr.fam {S : Nat → Prop} {w w' : World} (h : Fr S w w') {bb sb m M : Nat} {bt sz : Nat → Nat} (hf : FamAt w bb sb m M bt sz) (h1 : ¬ S bb) (h2 : ¬ S sb) : FamAt w' bb sb m M bt sz :=
  ⟨fun i hi => h.cell (hf.bit i hi) h1, fun i hi => h.cell (hf.siz i hi) h2⟩
theorem Fr.tab {S : Nat → Prop} {w w' : World} (h : Fr S w w') (hT : TabAt 1 Lib.deBruijn64tab w) (h1 : ¬ S 1) : TabAt 1 Lib.deBruijn64tab w' := fun j hj => h.cell (hT j hj) h1

/-- A store into a list of the program's own. -/
theorem own_set {w : World} {base : Nat} {e : TypeId} {size : Nat} {n cap g : Nat} {xs : List Value} (ho : w.ownsRow base e size (.slice (some ⟨g, 0, none⟩) n cap) n xs) (j : Nat) (u : Value) :
    (w.setCell ⟨g, j, none⟩ u).ownsRow base e size (.slice (some ⟨g, 0, none⟩) n cap) n (xs.set j u) := by
  refine ⟨by simpa using ho.1, ?_⟩
  rcases ho.2 with ⟨x, _⟩ | ⟨g', cap', cur, hv, hb, hg, h1, h2, h3, h4⟩
  · cases x
  · cases hv
    refine Or.inr ⟨g, cap, cur.setIfInBounds j u, rfl, hb, ?_, h1, h2, by simpa using h3, ?_⟩
    · rw [heap_setCell_same w g j _ _ _ hg]
    · rw [← h4, Array.toList_setIfInBounds, List.take_set]
/-- A shorter one. -/
theorem own_cut {w : World} {base : Nat} {e : TypeId} {size : Nat} {n cap g : Nat} {xs : List Value} (ho : w.ownsRow base e size (.slice (some ⟨g, 0, none⟩) n cap) n xs) (k : Nat) (hk : k ≤ n) :
    w.ownsRow base e size (.slice (some ⟨g, 0, none⟩) k cap) k (xs.take (k * size)) := by
  have hks : k * size ≤ n * size := Nat.mul_le_mul_right _ hk
  refine ⟨by rw [List.length_take, ho.1]; omega, ?_⟩
  rcases ho.2 with ⟨x, _⟩ | ⟨g', cap', cur, hv, hb, hg, h1, h2, h3, h4⟩
  · cases x
  · cases hv
    refine Or.inr ⟨g, cap, cur, rfl, hb, hg, Nat.le_trans hk h1, h2, h3, ?_⟩
    rw [← h4, List.take_take, Nat.min_eq_left hks]
theorem own_frozen {w : World} {base : Nat} {e : TypeId} {size : Nat} {n cap g : Nat} {xs : List Value} (ho : w.ownsRow base e size (.slice (some ⟨g, 0, none⟩) n cap) n xs) (j : Nat) : w.frozen? ⟨g, j, none⟩ = false := by
  rcases ho.2 with ⟨x, _⟩ | ⟨g', cap', cur, hv, hb, hg, _⟩
  · cases x
  · cases hv; exact frozen_of_row w g j _ _ hg
theorem own_cell {w : World} {base : Nat} {e : TypeId} {size : Nat} {n cap g : Nat} {xs : List Value} (ho : w.ownsRow base e size (.slice (some ⟨g, 0, none⟩) n cap) n xs) {j : Nat} {u : Value} (hu : xs[j]? = some u) : w.cell? ⟨g, j, none⟩ = some u := by
  have := ho.cells (g := g) rfl j u hu
  rw [show (⟨g, 0, none⟩ : Addr).add j = ⟨g, j, none⟩ from by simp [Addr.add]; omega] at this
  exact this
theorem own_form' {w : World} {base : Nat} {e : TypeId} {size : Nat} {v : Value} {n : Nat} {xs : List Value} (ho : w.ownsRow base e size v n xs) (hn : 0 < n) : ∃ g cap, v = .slice (some ⟨g, 0, none⟩) n cap ∧ n ≤ cap ∧ base ≤ g ∧ g < w.heap.size := by
  rcases ho.2 with ⟨_, x⟩ | ⟨g, cap, cur, hv, hb, hg, h1, _⟩
  · omega
  · exact ⟨g, cap, hv, h1, hb, (Array.getElem?_eq_some_iff.1 hg).1⟩

/-! ### The trie's nodes -/
def optI : Option Nat → Int
  | none => -1
  | some k => (k : Int)
def tc (T : Trie) (o : Nat) : Value :=
  if o % 4 = 0 then .int .i64 (T.mb (o / 4) : Int) else if o % 4 = 1 then .int .i64 (optI (kid T.par (o / 4) T.N)) else if o % 4 = 2 then .int .i64 (optI (kid T.par (T.par (o / 4)) (o / 4))) else .bool (T.en (o / 4))
def tlist (T : Trie) : List Value := (List.range (T.N * 4)).map (tc T)
theorem tlist_len (T : Trie) : (tlist T).length = T.N * 4 := by simp [tlist]
theorem tlist_get (T : Trie) {o : Nat} (h : o < T.N * 4) : (tlist T)[o]? = some (tc T o) := by simp [tlist, h]
theorem tc0 (T : Trie) (c : Nat) : tc T (c * 4) = .int .i64 (T.mb c : Int) := by unfold tc; rw [if_pos (by omega), show c * 4 / 4 = c from by omega]
theorem tc1 (T : Trie) (c : Nat) : tc T (c * 4 + 1) = .int .i64 (optI (kid T.par c T.N)) := by unfold tc; rw [if_neg (by omega), if_pos (by omega), show (c * 4 + 1) / 4 = c from by omega]
theorem tc2 (T : Trie) (c : Nat) : tc T (c * 4 + 2) = .int .i64 (optI (kid T.par (T.par c) c)) := by unfold tc; rw [if_neg (by omega), if_neg (by omega), if_pos (by omega), show (c * 4 + 2) / 4 = c from by omega]
theorem tc3 (T : Trie) (c : Nat) : tc T (c * 4 + 3) = .bool (T.en c) := by unfold tc; rw [if_neg (by omega), if_neg (by omega), if_neg (by omega), show (c * 4 + 3) / 4 = c from by omega]
/-- A kid in memory. -/
theorem tlist_add (T : Trie) (v m : Nat) (hv : v < T.N) (h0 : T.Ok) : (tlist T ++ [Value.int .i64 (m : Int), Value.int .i64 (-1), Value.int .i64 (optI (kid T.par v T.N)), Value.bool false]).set (v * 4 + 1) (.int .i64 (T.N : Int)) = tlist (T.add v m) := by
  have hpos := h0.pos
  apply List.ext_getElem?
  intro o
  have hl := tlist_len T
  have hN : (T.add v m).N = T.N + 1 := rfl
  have hkid : ∀ c, c ≠ v → kid (T.add v m).par c (T.N + 1) = kid T.par c T.N := by
    intro c hc
    rw [show kid (T.add v m).par c (T.N + 1) = if T.N ≠ 0 ∧ (T.add v m).par T.N = c then some T.N else kid (T.add v m).par c T.N from rfl]
    rw [if_neg (fun x => hc (by have := x.2; simp [Trie.add] at this; exact this.symm))]
    exact kid_congr (fun d hd => by simp only [Trie.add]; rw [if_neg (by omega)])
  by_cases e : o = v * 4 + 1
  · subst e
    rw [List.getElem?_set_self (by simp; omega), tlist_get _ (by rw [hN]; omega), tc1, hN]
    rw [show kid (T.add v m).par v (T.N + 1) = if T.N ≠ 0 ∧ (T.add v m).par T.N = v then some T.N else kid (T.add v m).par v T.N from rfl, if_pos ⟨by omega, by simp [Trie.add]⟩]
    rfl
  · rw [List.getElem?_set_ne (fun x => e x.symm)]
    by_cases h : o < T.N * 4
    · rw [List.getElem?_append_left (by omega), tlist_get _ h, tlist_get _ (by rw [hN]; omega)]
      congr 1
      unfold tc
      have hne : o / 4 ≠ T.N := by omega
      split
      · simp [Trie.add, hne]
      · split
        · rw [hN, hkid _ (by omega)]
        · split
          · have e1 : (T.add v m).par (o / 4) = T.par (o / 4) := by simp [Trie.add, hne]
            rw [e1, kid_congr (par := (T.add v m).par) (par' := T.par) (fun d hd => by simp only [Trie.add]; rw [if_neg (by omega)])]
          · simp [Trie.add, hne]
    · by_cases h2 : o < (T.N + 1) * 4
      · rw [List.getElem?_append_right (by omega), tlist_get _ (by rw [hN]; exact h2), hl]
        have h3 : o = T.N * 4 ∨ o = T.N * 4 + 1 ∨ o = T.N * 4 + 2 ∨ o = T.N * 4 + 3 := by omega
        have hvN : T.N ≠ v := by omega
        rcases h3 with rfl | rfl | rfl | rfl
        · rw [tc0]; simp [Trie.add]
        · rw [tc1, hN, hkid _ hvN]
          have : kid T.par T.N T.N = none := by
            cases hk : kid T.par T.N T.N with
            | none => rfl
            | some c =>
              obtain ⟨a, b, c1, _⟩ := kid_some hk
              have := h0.lt c a c1
              omega
          rw [this]; simp [optI]
        · rw [tc2]
          have e1 : (T.add v m).par T.N = v := by simp [Trie.add]
          rw [e1, kid_congr (par := (T.add v m).par) (par' := T.par) (fun d hd => by simp only [Trie.add]; rw [if_neg (by omega)])]
          simp
        · rw [tc3]; simp [Trie.add]
      · rw [List.getElem?_eq_none (by simp; omega), List.getElem?_eq_none (by rw [tlist_len, hN]; omega)]
theorem tlist_mark (T : Trie) (v : Nat) (hv : v < T.N) : (tlist T).set (v * 4 + 3) (.bool true) = tlist (T.mark v) := by
  apply List.ext_getElem?
  intro o
  have hN : (T.mark v).N = T.N := rfl
  by_cases e : o = v * 4 + 3
  · subst e
    rw [List.getElem?_set_self (by rw [tlist_len]; omega), tlist_get _ (by rw [hN]; omega), tc3]
    simp [Trie.mark]
  · rw [List.getElem?_set_ne (fun x => e x.symm)]
    by_cases h : o < T.N * 4
    · rw [tlist_get _ h, tlist_get _ (by rw [hN]; exact h)]
      congr 1
      unfold tc
      split
      · rfl
      · split
        · rfl
        · split
          · rfl
          · have : o / 4 ≠ v := by omega
            simp [Trie.mark, this]
    · rw [List.getElem?_eq_none (by rw [tlist_len]; omega), List.getElem?_eq_none (by rw [tlist_len, hN]; omega)]
theorem tlist_one : tlist Trie.one = [.int .i64 0, .int .i64 (-1), .int .i64 (-1), .bool false] := by
  apply List.ext_getElem?
  intro o
  by_cases h : o < 4
  · rw [tlist_get _ (by simp [Trie.one]; omega)]
    have h3 : o = 0 ∨ o = 1 ∨ o = 2 ∨ o = 3 := by omega
    rcases h3 with rfl | rfl | rfl | rfl <;> simp [tc, Trie.one, kid, optI]
  · rw [List.getElem?_eq_none (by simp [tlist_len, Trie.one]; omega), List.getElem?_eq_none (by simp; omega)]

theorem info124 : (Tryd.prog.info? 124).map (fun i => (i.zero, i.size, i.bytes)) = some (some (.agg #[.int .i64 0, .int .i64 0, .int .i64 0, .bool false]), 4, 32) := by kernel_rfl

/-- 'append(v, node)', behind the one-element slice that the call lays. -/
theorem wpList_append_node {ops : Array Oper} {rest : List Oper} {o : Oper} {a : Act} {w : World} {Q : Exit → Act → World → Prop} (hgd : o.guard = none) (s x : Operand)
    (ho : o.op = .call { callee := .builtin .append, args := #[s, x], argTypes := #[60, 60] }) (base : Nat) (v : Value) (n : Nat) (l : List Value) (hs : a.eval s = v) (hown : w.ownsRow base 124 4 v n l)
    (g c : Nat) (y0 y1 y2 y3 : Value) (hx : a.eval x = .slice (some ⟨g, 0, none⟩) 1 c) (hc0 : w.cell? ⟨g, 0, none⟩ = some y0) (hc1 : w.cell? ⟨g, 1, none⟩ = some y1) (hc2 : w.cell? ⟨g, 2, none⟩ = some y2) (hc3 : w.cell? ⟨g, 3, none⟩ = some y3)
    (h0 : y0.oneCell' = true) (h1 : y1.oneCell' = true) (h2 : y2.oneCell' = true) (h3 : y3.oneCell' = true) (hlen : n < 1073741824) (hbase : base ≤ w.heap.size)
    (h : ∀ g' c' w', w'.ownsRow base 124 4 (.slice (some ⟨g', 0, none⟩) (n + 1) c') (n + 1) (l ++ [y0, y1, y2, y3]) → w.grownBy w' v.ownBlock → (some g' = v.ownBlock ∨ g' = w.heap.size) →
      wpList Tryd.prog ops Q rest (a.put o.dst (.slice (some ⟨g', 0, none⟩) (n + 1) c')) w') :
    wpList Tryd.prog ops Q (o :: rest) a w := by
  obtain ⟨i, hi, hz0, hz1, hz2⟩ := info_parts info124
  have hnews : ∀ (j : Nat) u, [y0, y1, y2, y3][j]? = some u → w.cell? ((⟨g, 0, none⟩ : Addr).add j) = some u := by
    intro j u hu
    match j with
    | 0 => simp at hu; subst hu; rw [show (⟨g, 0, none⟩ : Addr).add 0 = ⟨g, 0, none⟩ from by simp [Addr.add]]; exact hc0
    | 1 => simp at hu; subst hu; rw [show (⟨g, 0, none⟩ : Addr).add 1 = ⟨g, 1, none⟩ from by simp [Addr.add]]; exact hc1
    | 2 => simp at hu; subst hu; rw [show (⟨g, 0, none⟩ : Addr).add 2 = ⟨g, 2, none⟩ from by simp [Addr.add]]; exact hc2
    | 3 => simp at hu; subst hu; rw [show (⟨g, 0, none⟩ : Addr).add 3 = ⟨g, 3, none⟩ from by simp [Addr.add]]; exact hc3
    | j + 4 => simp at hu
  have hone : ∀ u ∈ [y0, y1, y2, y3], u.oneCell' = true := by intro u hu; simp at hu; rcases hu with rfl | rfl | rfl | rfl <;> assumption
  have h63 : n + 1 ≤ maxLen := by unfold maxLen; omega
  refine wpList_plain hgd fun K hK => ?_
  obtain ⟨v', w', hr, h2', h3', _⟩ := run_append_own (P := Tryd.prog) w base 60 o.type 124 i _ 4 32 Tryd.underlying60 hi hz0 hz1 hz2 rfl (by omega) v n l hown ⟨g, 0, none⟩ 1 c [y0, y1, y2, y3] rfl hnews hone h63 (by omega) hbase
  have hwh := append_where (P := Tryd.prog) w base 60 o.type 124 i _ 4 32 Tryd.underlying60 hi hz0 hz1 hz2 v n l hown ⟨g, 0, none⟩ 1 c [y0, y1, y2, y3] rfl hnews hone (by omega) h63 (by omega) hr
  unfold Oper.wp execOp
  simp only [ho, resolve, invoke, builtin, Sem.run_bind, Sem.run_pure, Result.andThen_ok, List.map_toArray, List.map_cons, List.map_nil, hs, hx, hr]
  obtain ⟨g', c', hv'⟩ : ∃ g' c', v' = .slice (some ⟨g', 0, none⟩) (n + 1) c' := by
    rcases h2'.2 with ⟨_, h0⟩ | ⟨g', c', _, hv', _⟩
    · omega
    · exact ⟨g', c', hv'⟩
  subst hv'
  refine hK _ _ (h g' c' w' h2' h3' ?_)
  simpa [Value.ownBlock] using hwh
end Go.Proofs.Qxb6613821aDoor
