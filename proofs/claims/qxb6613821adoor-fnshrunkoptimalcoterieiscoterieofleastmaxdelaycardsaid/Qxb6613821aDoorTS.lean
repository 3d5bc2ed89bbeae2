/- The room of holdingSmaller's trie. -/
import Derived.Test.Qxb6613821aDoorPairs
import Derived.Test.Qxb6613821aDoorInsert
namespace Go.Proofs.Qxb6613821aDoor
set_option linter.unusedVariables false
set_option linter.unusedSimpArgs false
open Ieee Go.RowKit Go.Sort Go.Lib

/-- The Work, with the trie's nodes and the stack. -/
def fTr (f : Nat → Value) (nv sv : Value) : Nat → Value := fun o => if o = 10 then sv else if o = 8 then nv else f o

structure TS (wX wr : World) (base wb hb n : Nat) (f : Nat → Value) (T : Trie) (nv sv mv : Value) (l0 lm : List Nat) (g : Nat → Value) : Prop where
  row : wr.rowIs wb 68 14 (fTr f nv sv)
  nodes : wr.ownsRow base 124 4 nv T.N (tlist T)
  stack : wr.ownsRow base 3 1 sv l0.length (ints l0)
  mem : wr.ownsRow base 3 1 mv lm.length (ints lm)
  a1 : sv.ownBlock = none ∨ nv.ownBlock ≠ sv.ownBlock
  a2 : mv.ownBlock = none ∨ mv.ownBlock ≠ nv.ownBlock
  a3 : mv.ownBlock = none ∨ mv.ownBlock ≠ sv.ownBlock
  hol : wr.rowIs hb 4 n g
  fr : Fr (fun k => k = wb ∨ k = hb) wX wr
  size : base ≤ wr.heap.size

section
variable {wX wr w2 : World} {base wb hb n : Nat} {f : Nat → Value} {T : Trie} {nv sv mv : Value} {l0 lm : List Nat} {g : Nat → Value}

theorem ne_of_new {v v' : Value} {k : Nat} {e : TypeId} {size m : Nat} {xs : List Value} (ho : wr.ownsRow base e size v m xs) (h : v'.ownBlock = some k) (hk : wr.heap.size ≤ k) : v.ownBlock ≠ v'.ownBlock := by
  intro x
  rw [h] at x
  have := (ho.lt k x).2
  omega

/-- Every block that stood is as it was, but those of S. -/
theorem TS.keep (h : TS wX wr base wb hb n f T nv sv mv l0 lm g) {S : Nat → Prop} (hf : Fr S wr w2) (hS : ∀ k, S k → False) : TS wX w2 base wb hb n f T nv sv mv l0 lm g :=
  ⟨hf.row h.row (fun x => hS _ x), hf.own h.nodes (fun g _ x => hS _ x), hf.own h.stack (fun g _ x => hS _ x), hf.own h.mem (fun g _ x => hS _ x), h.a1, h.a2, h.a3, hf.row h.hol (fun x => hS _ x), h.fr.trans hf (fun b _ x => (hS b x).elim), Nat.le_trans h.size hf.size⟩
theorem TS.below (h : TS wX wr base wb hb n f T nv sv mv l0 lm g) (hb2 : Below wr.heap.size wr w2) : TS wX w2 base wb hb n f T nv sv mv l0 lm g := h.keep (Fr.of_below hb2 (fun _ => False)) (fun _ x => x)
theorem TS.drewN (h : TS wX wr base wb hb n f T nv sv mv l0 lm g) (k : Nat) : TS wX (wr.drewN k) base wb hb n f T nv sv mv l0 lm g := h.keep ((Fr.refl (fun _ => False) wr).drewN k) (fun _ x => x)
theorem TS.stored (h : TS wX wr base wb hb n f T nv sv mv l0 lm g) (hwb : wb ≠ hb) (hhb : hb < base) (q : Nat) (u : Value) : TS wX (wr.setCell ⟨hb, q, none⟩ u) base wb hb n f T nv sv mv l0 lm (fun i => if i = q then u else g i) := by
  have hf : Fr (fun k => k = hb) wr (wr.setCell ⟨hb, q, none⟩ u) := (Fr.refl _ _).setCell _ _ (Or.inl rfl)
  have hne : ∀ {v : Value} {e : TypeId} {size m : Nat} {xs : List Value}, wr.ownsRow base e size v m xs → ∀ k, v.ownBlock = some k → ¬ k = hb := fun ho k hk e => by have := (ho.lt k hk).1; omega
  exact ⟨hf.row h.row hwb, hf.own h.nodes (hne h.nodes), hf.own h.stack (hne h.stack), hf.own h.mem (hne h.mem), h.a1, h.a2, h.a3, h.hol.set q u, h.fr.trans hf (fun b _ x => Or.inr x), Nat.le_trans h.size hf.size⟩
theorem TS.sought (h : TS wX wr base wb hb n f T nv sv mv l0 lm g) (hwb : wb < base) (hne : hb ≠ wb) (hhb : hb < base) (hXb : wX.heap.size = base) (hs : Sought wr w2 base wb (fTr f nv sv) sv) : ∃ sv' l', TS wX w2 base wb hb n f T nv sv' mv l' lm g := by
  obtain ⟨⟨sv', l', h1, h2, h3⟩, hf⟩ := hs
  have hw : ∀ {v : Value} {e : TypeId} {size m : Nat} {xs : List Value}, wr.ownsRow base e size v m xs → (v.ownBlock = none ∨ v.ownBlock ≠ sv.ownBlock) → ∀ k, v.ownBlock = some k → ¬ (k = wb ∨ sv.ownBlock = some k) := fun ho ha k hk x => by
    rcases x with x | x
    · have := (ho.lt k hk).1; omega
    · rcases ha with y | y
      · rw [y] at hk; cases hk
      · exact y (hk.trans x.symm)
  have ha1 : nv.ownBlock = none ∨ nv.ownBlock ≠ sv.ownBlock := by
    rcases h.a1 with x | x
    · rw [x]; cases hh : nv.ownBlock with
      | none => exact Or.inl rfl
      | some k => exact Or.inr (by simp)
    · exact Or.inr x
  refine ⟨sv', l', h1.congr (fun i _ => ?_), hf.own h.nodes (hw h.nodes ha1), h2, hf.own h.mem (hw h.mem h.a3), ?_, h.a2, ?_, hf.row h.hol (fun x => ?_), h.fr.trans hf (fun b hb2 x => ?_), Nat.le_trans h.size hf.size⟩
  · unfold fTr
    by_cases e : i = 10 <;> simp [e]
  · rcases h3 with x | ⟨k, x, hk⟩
    · rw [x]; exact h.a1
    · exact Or.inr (ne_of_new h.nodes x hk)
  · rcases h3 with x | ⟨k, x, hk⟩
    · rw [x]; exact h.a3
    · exact Or.inr (ne_of_new h.mem x hk)
  · rcases x with x | x
    · exact hne x
    · have := (h.stack.lt hb x).1; omega
  · rcases x with x | x
    · exact Or.inl x
    · have := (h.stack.lt b x).1
      omega
theorem TS.moved (h : TS wX wr base wb hb n f T nv sv mv l0 lm g) (hwb : wb < base) (hhb : hb < base) (hXb : wX.heap.size = base) {mv0 mv' : Value} {l' : List Nat} (h0 : mv0.ownBlock = mv.ownBlock) (ho : w2.ownsRow base 3 1 mv' l'.length (ints l')) (hm : Moved wr w2 mv0.ownBlock mv'.ownBlock) : TS wX w2 base wb hb n f T nv sv mv' l0 l' g := by
  have hf := Fr.of_grown hm.grown
  rw [h0] at hf
  have hw : ∀ {v : Value} {e : TypeId} {size m : Nat} {xs : List Value}, wr.ownsRow base e size v m xs → (mv.ownBlock = none ∨ mv.ownBlock ≠ v.ownBlock) → ∀ k, v.ownBlock = some k → ¬ mv.ownBlock = some k := fun ho ha k hk x => by
    rcases ha with y | y
    · rw [y] at x; cases x
    · exact y (x.trans hk.symm)
  have hlow : ∀ b, b < base → ¬ mv.ownBlock = some b := fun b hb2 x => by have := (h.mem.lt b x).1; omega
  refine ⟨hf.row h.row (hlow wb hwb), hf.own h.nodes (hw h.nodes h.a2), hf.own h.stack (hw h.stack h.a3), ho, h.a1, ?_, ?_, hf.row h.hol (hlow hb hhb), h.fr.trans hf (fun b hb2 x => absurd x (hlow b (by omega))), Nat.le_trans h.size hf.size⟩
  · rcases hm.here with x | ⟨k, x, hk⟩
    · rw [x, h0]; exact h.a2
    · exact Or.inr (fun y => ne_of_new h.nodes x hk y.symm)
  · rcases hm.here with x | ⟨k, x, hk⟩
    · rw [x, h0]; exact h.a3
    · exact Or.inr (fun y => ne_of_new h.stack x hk y.symm)
theorem TS.inserted (h : TS wX wr base wb hb n f T nv sv mv l0 lm g) (hwb : wb < base) (hne : hb ≠ wb) (hhb : hb < base) (hXb : wX.heap.size = base) {T' : Trie} {nv' : Value} (hi : InsAt wr w2 base wb (fTr f nv sv) nv nv' T') : TS wX w2 base wb hb n f T' nv' sv mv l0 lm g := by
  have hf := hi.fr
  have hw : ∀ {v : Value} {e : TypeId} {size m : Nat} {xs : List Value}, wr.ownsRow base e size v m xs → (v.ownBlock = none ∨ v.ownBlock ≠ nv.ownBlock) → ∀ k, v.ownBlock = some k → ¬ (k = wb ∨ nv.ownBlock = some k) := fun ho ha k hk x => by
    rcases x with x | x
    · have := (ho.lt k hk).1; omega
    · rcases ha with y | y
      · rw [y] at hk; cases hk
      · exact y (hk.trans x.symm)
  have hs1 : sv.ownBlock = none ∨ sv.ownBlock ≠ nv.ownBlock := h.a1.elim Or.inl (fun x => Or.inr (fun y => x y.symm))
  refine ⟨hi.row.congr (fun i _ => ?_), hi.own, hf.own h.stack (hw h.stack hs1), hf.own h.mem (hw h.mem h.a2), ?_, ?_, h.a3, hf.row h.hol (fun x => ?_), h.fr.trans hf (fun b hb2 x => ?_), Nat.le_trans h.size hf.size⟩
  · unfold fTr
    by_cases e : i = 8 <;> simp [e]
  · rcases hi.here with x | ⟨k, x, hk⟩
    · rw [x]; exact h.a1
    · exact Or.inr (fun y => ne_of_new h.stack x hk y.symm)
  · rcases hi.here with x | ⟨k, x, hk⟩
    · rw [x]; exact h.a2
    · exact Or.inr (ne_of_new h.mem x hk)
  · rcases x with x | x
    · exact hne x
    · have := (h.nodes.lt hb x).1; omega
  · rcases x with x | x
    · exact Or.inl x
    · have := (h.nodes.lt b x).1
      omega
end
end Go.Proofs.Qxb6613821aDoor
