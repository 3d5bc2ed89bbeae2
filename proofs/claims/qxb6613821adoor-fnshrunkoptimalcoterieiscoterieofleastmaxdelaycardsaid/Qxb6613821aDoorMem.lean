/- Slices of slices of ints that the program itself makes: where they lie, and what an append to one of them leaves. -/
import Derived.Test.Qxb6613821aDoorSmall
import Derived.Laws.CopyOwn
import Derived.Deep.OwnRows
namespace Go.Proofs.Qxb6613821aDoor
set_option linter.unusedVariables false
set_option linter.unusedSimpArgs false
open Ieee Go.RowKit

def ints (l : List Nat) : List Value := l.map fun (x : Nat) => Value.int .i64 (x : Int)
theorem ints_len (l : List Nat) : (ints l).length = l.length := by simp [ints]

/-- Where an appended slice lies: where it lay, or in the block that was made. -/
theorem append_where {P : Program} (w : World) (base : Nat) (t ty e : TypeId) (i : TypeInfo) (z : Value) (size bytes : Nat) (ht : P.underlying t = some (.slice e)) (hi : P.info? e = some i) (hz : i.zero = some z)
    (hsize : i.size = size) (hby : i.bytes = bytes) (v : Value) (n : Nat) (xs : List Value) (hown : w.ownsRow base e size v n xs)
    (a : Addr) (m c : Nat) (news : List Value) (hl : news.length = m * size) (hnews : ∀ j u, news[j]? = some u → w.cell? (a.add j) = some u) (h1 : ∀ u ∈ news, u.oneCell' = true) (hm : 0 < m)
    (h63 : n + m ≤ maxLen) (hbytes : (n + m) * bytes ≤ 140737488355328) {v' : Value} {w' : World}
    (hrun : (Builtin.append_ #[t, t] ty #[v, .slice (some a) m c]).run P w = .ok v' w') : v'.ownBlock = v.ownBlock ∨ v'.ownBlock = some w.heap.size := by
  subst hsize
  subst hby
  have hsmall : n + m ≤ 9223372036854775807 := by simp only [maxLen] at h63; omega
  rcases hown.2 with ⟨rfl, rfl⟩ | ⟨g, cap, cur, rfl, hbg, hg, hnc, hcm, hcs, htake⟩
  · have hr := run_append_nil (P := P) w t ty e i z ht hi hz a m c news hl hnews (by omega) (by omega) (by have hb := hbytes; simp only [Nat.zero_add] at hb; omega)
    rw [hr] at hrun
    cases hrun
    exact Or.inr rfl
  · by_cases hroom : n + m ≤ cap
    · have hfit : n * i.size + news.length ≤ cur.size := by rw [hl, hcs, ← Nat.add_mul]; exact Nat.mul_le_mul_right _ hroom
      have hr := run_append_room (P := P) w t ty e i ht hi g n cap cur hg a m c news hl hnews h1 hroom hfit
      rw [hr] at hrun
      cases hrun
      exact Or.inl rfl
    · have holds : ∀ j u, xs[j]? = some u → w.cell? ((⟨g, 0, none⟩ : Addr).add j) = some u := hown.cells (g := g) rfl
      have hr := run_append_grow (P := P) w t ty e i z ht hi hz ⟨g, 0, none⟩ n cap xs hown.1 holds a m c news hl hnews (by omega) (by omega) (growslice_fits (by omega) hbytes)
      rw [hr] at hrun
      cases hrun
      exact Or.inr rfl

/-- The rows: each owns its block; no two share one. -/
structure RowsOf (w : World) (base : Nat) (vs : List Value) (L : List (List Nat)) : Prop where
  len : vs.length = L.length
  own : ∀ (i : Nat) v l, vs[i]? = some v → L[i]? = some l → w.ownsRow base 3 1 v l.length (ints l)
  apart : ∀ (i j : Nat) v v', vs[i]? = some v → vs[j]? = some v' → i ≠ j → v.ownBlock = none ∨ v.ownBlock ≠ v'.ownBlock

/-- A slice of slices at block B: its cells, and the rows behind them in blocks above B. -/
structure Nest (w : World) (B : Nat) (vs : List Value) (L : List (List Nat)) : Prop where
  out : w.heap[B]? = some (.cells vs.toArray 29 (0, 0))
  rows : RowsOf w (B + 1) vs L

theorem Nest.lt {w : World} {B : Nat} {vs : List Value} {L : List (List Nat)} (h : Nest w B vs L) : B < w.heap.size := (Array.getElem?_eq_some_iff.1 h.out).1
theorem Nest.cell {w : World} {B : Nat} {vs : List Value} {L : List (List Nat)} (h : Nest w B vs L) (i : Nat) : w.cell? ⟨B, i, none⟩ = vs[i]? := by
  rw [cell_of_row w B i _ _ _ h.out]; simp
theorem Nest.frozen {w : World} {B : Nat} {vs : List Value} {L : List (List Nat)} (h : Nest w B vs L) (i : Nat) : w.frozen? ⟨B, i, none⟩ = false := frozen_of_row w B i _ _ h.out

/-- Blocks that stood are as they were. -/
theorem RowsOf.keep {w w' : World} {base : Nat} {vs : List Value} {L : List (List Nat)} (h : RowsOf w base vs L) (hb : Below w.heap.size w w') : RowsOf w' base vs L := by
  refine ⟨h.len, fun i v l hv hl => ?_, h.apart⟩
  have ho := h.own i v l hv hl
  exact ho.kept (row := none) ⟨hb.os, hb.tape, hb.output, hb.size, fun k hk _ => hb.block k hk⟩ (by cases hvb : v.ownBlock <;> simp)
theorem Nest.keep {w w' : World} {B : Nat} {vs : List Value} {L : List (List Nat)} (h : Nest w B vs L) (hb : Below w.heap.size w w') : Nest w' B vs L :=
  ⟨(hb.block B h.lt).trans h.out, h.rows.keep hb⟩

theorem RowsOf.has {w : World} {base : Nat} {vs : List Value} {L : List (List Nat)} (h : RowsOf w base vs L) {i : Nat} (hi : i < L.length) : ∃ v l, vs[i]? = some v ∧ L[i]? = some l ∧ w.ownsRow base 3 1 v l.length (ints l) := by
  have hv : i < vs.length := by rw [h.len]; exact hi
  exact ⟨vs[i], L[i], List.getElem?_eq_getElem hv, List.getElem?_eq_getElem hi, h.own i _ _ (List.getElem?_eq_getElem hv) (List.getElem?_eq_getElem hi)⟩

/-- One row is replaced by an appended one. -/
theorem RowsOf.appended {w w' : World} {base : Nat} {vs : List Value} {L : List (List Nat)} (h : RowsOf w base vs L) {i : Nat} {v v' : Value} {l' : List Nat} (hv : vs[i]? = some v)
    (hown : w'.ownsRow base 3 1 v' l'.length (ints l')) (hg : w.grownBy w' v.ownBlock) (hw : v'.ownBlock = v.ownBlock ∨ v'.ownBlock = Option.some w.heap.size) : RowsOf w' base (vs.set i v') (L.set i l') := by
  have hin : i < vs.length := (List.getElem?_eq_some_iff.1 hv).1
  refine ⟨by simp [h.len], fun j u k hu hk => ?_, fun a b u u' hu hu' hab => ?_⟩
  · by_cases e : i = j
    · subst e
      rw [List.getElem?_set_self hin] at hu
      rw [List.getElem?_set_self (by rw [← h.len]; exact hin)] at hk
      cases hu; cases hk
      exact hown
    · rw [List.getElem?_set_ne e] at hu hk
      refine (h.own j u k hu hk).kept hg ?_
      rcases h.apart j i u v hu hv (fun x => e x.symm) with x | x
      · exact Or.inl x
      · exact Or.inr x
  · have old : ∀ (j : Nat) (x : Value), vs[j]? = some x → ∀ k, x.ownBlock = some k → k < w.heap.size := by
      intro j x hx k hk
      have hj : j < L.length := by rw [← h.len]; exact (List.getElem?_eq_some_iff.1 hx).1
      exact ((h.own j x _ hx (List.getElem?_eq_getElem hj)).lt k hk).2
    by_cases ea : i = a
    · subst ea
      rw [List.getElem?_set_self hin] at hu
      rw [List.getElem?_set_ne hab] at hu'
      cases hu
      rcases hw with hw | hw
      · rw [hw]; exact h.apart i b v u' hv hu' hab
      · refine Or.inr ?_
        rw [hw]
        intro x
        exact absurd (old b u' hu' _ x.symm) (by omega)
    · rw [List.getElem?_set_ne ea] at hu
      by_cases eb : i = b
      · subst eb
        rw [List.getElem?_set_self hin] at hu'
        cases hu'
        rcases hw with hw | hw
        · rw [hw]; exact h.apart a i u v hu hv hab
        · cases hub : u.ownBlock with
          | none => exact Or.inl rfl
          | some k =>
            refine Or.inr ?_
            rw [hw]
            intro x
            have := old a u hu k hub
            simp at x
            omega
      · rw [List.getElem?_set_ne eb] at hu'
        exact h.apart a b u u' hu hu' hab

/-- The store behind the append. -/
theorem Nest.stored {w : World} {B : Nat} {vs : List Value} {L : List (List Nat)} {i : Nat} {v' : Value} {l' : List Nat} (hout : w.heap[B]? = some (.cells vs.toArray 29 (0, 0))) (hi : i < vs.length)
    (h : RowsOf w (B + 1) (vs.set i v') (L.set i l')) : Nest (w.setCell ⟨B, i, none⟩ v') B (vs.set i v') (L.set i l') := by
  have hb : (w.setCell ⟨B, i, none⟩ v').heap[B]? = some (.cells (vs.set i v').toArray 29 (0, 0)) := by
    rw [heap_setCell_same w B i _ _ _ hout]
    simp [hi]
  refine ⟨hb, h.len, fun j u k hu hk => ?_, h.apart⟩
  refine (h.own j u k hu hk).kept (row := Option.some B) ⟨rfl, rfl, rfl, by simp, fun k _ hk => heap_setCell_other w _ k _ (by simpa using hk)⟩ ?_
  cases hub : u.ownBlock with
  | none => exact Or.inl rfl
  | some g =>
    refine Or.inr ?_
    have := ((h.own j u k hu hk).lt g hub).1
    simp; omega

theorem info3 : (Tryd.prog.info? 3).map (fun i => (i.zero, i.size, i.bytes)) = some (some (.int .i64 0), 1, 8) := by kernel_rfl

/-- 'append(v, x)' on a slice of ints of the program's own, behind the one-element slice that the call lays. -/
theorem wpList_append_int {ops : Array Oper} {rest : List Oper} {o : Oper} {a : Act} {w : World} {Q : Exit → Act → World → Prop} (hgd : o.guard = none) (s x : Operand)
    (ho : o.op = .call { callee := .builtin .append, args := #[s, x], argTypes := #[29, 29] }) (base : Nat) (v : Value) (l : List Nat) (hs : a.eval s = v) (hown : w.ownsRow base 3 1 v l.length (ints l))
    (g c y : Nat) (hx : a.eval x = .slice (some ⟨g, 0, none⟩) 1 c) (hc : w.cell? ⟨g, 0, none⟩ = some (.int .i64 (y : Int))) (hlen : l.length < 1099511627776) (hbase : base ≤ w.heap.size)
    (h : ∀ g' c' w', w'.ownsRow base 3 1 (.slice (some ⟨g', 0, none⟩) (l.length + 1) c') (l ++ [y]).length (ints (l ++ [y])) → w.grownBy w' v.ownBlock → (some g' = v.ownBlock ∨ g' = w.heap.size) →
      wpList Tryd.prog ops Q rest (a.put o.dst (.slice (some ⟨g', 0, none⟩) (l.length + 1) c')) w') :
    wpList Tryd.prog ops Q (o :: rest) a w := by
  obtain ⟨i, hi, hz0, hz1, hz2⟩ := info_parts info3
  have hnews : ∀ (j : Nat) u, [Value.int .i64 (y : Int)][j]? = some u → w.cell? ((⟨g, 0, none⟩ : Addr).add j) = some u := by
    intro j u hu
    cases j with
    | zero => simp at hu; subst hu; rw [show (⟨g, 0, none⟩ : Addr).add 0 = ⟨g, 0, none⟩ from by simp [Addr.add]]; exact hc
    | succ j => simp at hu
  have h1 : ∀ u ∈ [Value.int .i64 (y : Int)], u.oneCell' = true := by intro u hu; simp at hu; subst hu; rfl
  have h63 : l.length + 1 ≤ maxLen := by unfold maxLen; omega
  refine wpList_plain hgd fun K hK => ?_
  obtain ⟨v', w', hr, h2, h3, _⟩ := run_append_own (P := Tryd.prog) w base 29 o.type 3 i (.int .i64 0) 1 8 Tryd.underlying29 hi hz0 hz1 hz2 rfl (by omega) v l.length (ints l) hown ⟨g, 0, none⟩ 1 c [.int .i64 (y : Int)] rfl hnews h1 h63 (by omega) hbase
  have hwh := append_where (P := Tryd.prog) w base 29 o.type 3 i (.int .i64 0) 1 8 Tryd.underlying29 hi hz0 hz1 hz2 v l.length (ints l) hown ⟨g, 0, none⟩ 1 c [.int .i64 (y : Int)] rfl hnews h1 (by omega) h63 (by omega) hr
  unfold Oper.wp execOp
  simp only [ho, resolve, invoke, builtin, Sem.run_bind, Sem.run_pure, Result.andThen_ok, List.map_toArray, List.map_cons, List.map_nil, hs, hx, hr]
  have e : ints (l ++ [y]) = ints l ++ [.int .i64 (y : Int)] := by simp [ints]
  obtain ⟨g', c', hv'⟩ : ∃ g' c', v' = .slice (some ⟨g', 0, none⟩) (l.length + 1) c' := by
    rcases h2.2 with ⟨_, h0⟩ | ⟨g', c', _, hv', _⟩
    · omega
    · exact ⟨g', c', hv'⟩
  subst hv'
  refine hK _ _ (h g' c' w' ?_ h3 ?_)
  · rw [e, List.length_append]; exact h2
  · simpa [Value.ownBlock] using hwh

theorem _root_.Go.RowKit.Below.drewN' {B : Nat} {w w' : World} (h : Below B w w') (n : Nat) : Below B w (w'.drewN n) := ⟨h.os, h.tape, h.output, h.size, h.block⟩
theorem Below.of_grown {w w' : World} {row : Option Nat} {B : Nat} (h : w.grownBy w' row) (hr : ∀ k, row = some k → B ≤ k) (hB : B ≤ w.heap.size) : Below B w w' := ⟨h.os, h.tape, h.output, h.size, fun k hk => h.block k (by omega) (fun e => absurd (hr k e.symm) (by omega))⟩
end Go.Proofs.Qxb6613821aDoor
