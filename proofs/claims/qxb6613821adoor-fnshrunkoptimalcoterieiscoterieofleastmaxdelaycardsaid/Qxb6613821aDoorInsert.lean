/- (*setTrie).insert. -/
import Derived.Test.Qxb6613821aDoorSeek
import Derived.Deep.RegionLaw
namespace Go.Proofs.Qxb6613821aDoor
set_option linter.unusedVariables false
set_option linter.unusedSimpArgs false
open Ieee Go.RowKit

/-- The trie's cells in memory, behind changes of its own. -/
structure InsL (w wx : World) (base wb : Nat) (f : Nat → Value) (nv nv1 : Value) (n : Nat) (xs : List Value) : Prop where
  row : wx.rowIs wb 68 14 (fun o => if o = 8 then nv1 else f o)
  own : wx.ownsRow base 124 4 nv1 n xs
  here : nv1.ownBlock = nv.ownBlock ∨ ∃ k, nv1.ownBlock = some k ∧ w.heap.size ≤ k
  fr : Fr (fun k => k = wb ∨ nv.ownBlock = some k) w wx
abbrev InsAt (w wx : World) (base wb : Nat) (f : Nat → Value) (nv nv1 : Value) (T1 : Trie) : Prop := InsL w wx base wb f nv nv1 T1.N (tlist T1)

theorem InsL.appended {w wx w2 : World} {base wb : Nat} {f : Nat → Value} {nv nv1 : Value} {n0 : Nat} {xs0 : List Value} (h : InsL w wx base wb f nv nv1 n0 xs0) (hwb : wb < base) {g' c' n : Nat} {xs : List Value} (hFr : Fr (fun k => nv1.ownBlock = some k) wx w2)
    (hown : w2.ownsRow base 124 4 (.slice (some ⟨g', 0, none⟩) n c') n xs) (hw' : some g' = nv1.ownBlock ∨ wx.heap.size ≤ g') :
    InsL w (w2.setCell ⟨wb, 8, none⟩ (.slice (some ⟨g', 0, none⟩) n c')) base wb f nv (.slice (some ⟨g', 0, none⟩) n c') n xs := by
  have hbn : ∀ k, nv1.ownBlock = some k → base ≤ k := fun k hk => (h.own.lt k hk).1
  have hFw : Fr (fun k => k = wb ∨ nv.ownBlock = some k) w w2 := by
    refine h.fr.trans hFr (fun b hb x => ?_)
    rcases h.here with e | ⟨k, e, hk⟩
    · rw [e] at x; exact Or.inr x
    · rw [e] at x; cases x; omega
  refine ⟨?_, ?_, ?_, hFw.setCell _ _ (Or.inl (Or.inl rfl))⟩
  · have hr : w2.rowIs wb 68 14 (fun o => if o = 8 then nv1 else f o) := hFr.row h.row (fun x => by have := hbn wb x; omega)
    refine (hr.set 8 _).congr (fun i _ => ?_)
    by_cases e : i = 8
    · simp [e]
    · simp [e]
  · have hgb : base ≤ g' := (hown.lt g' rfl).1
    exact ((Fr.refl (fun k => k = wb) w2).setCell ⟨wb, 8, none⟩ _ (Or.inl rfl)).own hown (fun g hg => by simp [Value.ownBlock] at hg; omega)
  · rcases hw' with e | e
    · rcases h.here with x | ⟨k, x, hk⟩
      · exact Or.inl (e.trans x)
      · exact Or.inr ⟨k, e.trans x, hk⟩
    · exact Or.inr ⟨g', rfl, by have := h.fr.size; omega⟩
theorem InsL.set {w wx : World} {base wb : Nat} {f : Nat → Value} {nv : Value} {n g cap : Nat} {xs : List Value} (h : InsL w wx base wb f nv (.slice (some ⟨g, 0, none⟩) n cap) n xs) (hwb : wb < base) (j : Nat) (u : Value) :
    InsL w (wx.setCell ⟨g, j, none⟩ u) base wb f nv (.slice (some ⟨g, 0, none⟩) n cap) n (xs.set j u) := by
  have hgb : base ≤ g := (h.own.lt g rfl).1
  refine ⟨h.row.setOther (by simp; omega) _, own_set h.own j u, h.here, h.fr.setCell _ _ ?_⟩
  rcases h.here with x | ⟨kk, x, hkk⟩
  · exact Or.inl (Or.inr x.symm)
  · simp [Value.ownBlock] at x
    exact Or.inr (by simp; omega)

/-- 'append(v, node)' as one step of a region that draws its order. -/
theorem step_append_node {ops : Array Oper} {o : Oper} {a : Act} {w : World} {K : Act → World → Prop} {Q : Exit → Act → World → Prop} {E : Prop} (hgd : o.guard = none) (s x : Operand)
    (ho : o.op = .call { callee := .builtin .append, args := #[s, x], argTypes := #[60, 60] }) (base : Nat) (v : Value) (n : Nat) (l : List Value) (hs : a.eval s = v) (hown : w.ownsRow base 124 4 v n l)
    (g c : Nat) (y0 y1 y2 y3 : Value) (hx : a.eval x = .slice (some ⟨g, 0, none⟩) 1 c) (hc0 : w.cell? ⟨g, 0, none⟩ = some y0) (hc1 : w.cell? ⟨g, 1, none⟩ = some y1) (hc2 : w.cell? ⟨g, 2, none⟩ = some y2) (hc3 : w.cell? ⟨g, 3, none⟩ = some y3)
    (h0 : y0.oneCell' = true) (h1 : y1.oneCell' = true) (h2 : y2.oneCell' = true) (h3 : y3.oneCell' = true) (hlen : n < 1073741824) (hbase : base ≤ w.heap.size)
    (h : ∀ g' c' w', w'.ownsRow base 124 4 (.slice (some ⟨g', 0, none⟩) (n + 1) c') (n + 1) (l ++ [y0, y1, y2, y3]) → w.grownBy w' v.ownBlock → (some g' = v.ownBlock ∨ g' = w.heap.size) →
      K (a.put o.dst (.slice (some ⟨g', 0, none⟩) (n + 1) c')) w') :
    if Region.wanted o (yielded ops a.tmps) = true then Oper.wp Tryd.prog o a w K Q else E := by
  have hw : Region.wanted o (yielded ops a.tmps) = true := by simp [Region.wanted, hgd]
  rw [if_pos hw]
  obtain ⟨i, hi, hz0, hz1, hz2⟩ := info_parts info124
  have hnews : ∀ (j : Nat) u, [y0, y1, y2, y3][j]? = some u → w.cell? ((⟨g, 0, none⟩ : Addr).add j) = some u := by
    intro j u hu
    match j with
    | 0 => simp at hu; subst hu; rw [show (⟨g, 0, none⟩ : Addr).add 0 = ⟨g, 0, none⟩ from by simp [Addr.add]]; exact hc0
    | 1 => simp at hu; subst hu; rw [show (⟨g, 0, none⟩ : Addr).add 1 = ⟨g, 1, none⟩ from by simp [Addr.add]]; exact hc1
    | 2 => simp at hu; subst hu; rw [show (⟨g, 0, none⟩ : Addr).add 2 = ⟨g, 2, none⟩ from by simp [Addr.add]]; exact hc2
    | 3 => simp at hu; subst hu; rw [show (⟨g, 0, none⟩ : Addr).add 3 = ⟨g, 3, none⟩ from by simp [Addr.add]]; exact hc3
    | j + 4 => simp at hu
  have hone : ∀ u ∈ [y0, y1, y2, y3], u.oneCell' = true := by intro u hu; simp at hu; rcases hu with rfl | rfl | rfl | rfl <;> assumption
  have h63 : n + 1 ≤ maxLen := by unfold maxLen; omega
  obtain ⟨v', w', hr, h2', h3', _⟩ := run_append_own (P := Tryd.prog) w base 60 o.type 124 i _ 4 32 Tryd.underlying60 hi hz0 hz1 hz2 rfl (by omega) v n l hown ⟨g, 0, none⟩ 1 c [y0, y1, y2, y3] rfl hnews hone h63 (by omega) hbase
  have hwh := append_where (P := Tryd.prog) w base 60 o.type 124 i _ 4 32 Tryd.underlying60 hi hz0 hz1 hz2 v n l hown ⟨g, 0, none⟩ 1 c [y0, y1, y2, y3] rfl hnews hone (by omega) h63 (by omega) hr
  obtain ⟨g', c', hv'⟩ : ∃ g' c', v' = .slice (some ⟨g', 0, none⟩) (n + 1) c' := by
    rcases h2'.2 with ⟨_, h0⟩ | ⟨g', c', _, hv', _⟩
    · omega
    · exact ⟨g', c', hv'⟩
  subst hv'
  unfold Oper.wp
  simp [execOp, ho, resolve, invoke, builtin, hs, hx, hr, Result.andThen]
  exact h g' c' w' h2' h3' (by simpa [Value.ownBlock] using hwh)

set_option maxHeartbeats 4000000 in
set_option maxRecDepth 100000 in
theorem insert_any (wb base B : Nat) (T : Trie) (hT : T.N = 0 ∨ T.Ok) (hN : T.N ≤ 100000) (hmb : ∀ c, c < T.N → T.mb c < B) (f : Nat → Value) (nv mv : Value) (lm : List Nat) (hlm : ∀ m ∈ lm, m < B) (hB : B ≤ 65536) (hB0 : 0 < B) (hll : lm.length ≤ 1000) (w : World) (hW : w.rowIs wb 68 14 f) (h8 : f 8 = nv)
    (hn : w.ownsRow base 124 4 nv T.N (tlist T)) (hm : w.ownsRow base 3 1 mv lm.length (ints lm)) (hap : mv.ownBlock = none ∨ mv.ownBlock ≠ nv.ownBlock) (hwb : wb < base) (hbase : base ≤ w.heap.size) :
    Calls Tryd.prog 68 #[.pointer (some ⟨wb, 8, none⟩), mv] w fun e w' => e = .returned (.tuple #[]) ∧ ∃ T' nv', T'.Ok ∧ (∀ l, T'.Has l ↔ T.Has l ∨ l = lm) ∧ T'.N ≤ T.N + lm.length + 1 ∧ (∀ c, c < T'.N → T'.mb c < B) ∧ InsAt w w' base wb f nv nv' T' := by
  have c8 := hW.cell (i := 8) (by omega)
  rw [h8] at c8
  have fz8 : w.frozen? ⟨wb, 8, none⟩ = false := hW.frozen 8
  have HI0 : Hid (InsAt w w base wb f nv nv T) := ⟨hW.congr (fun i _ => by by_cases e : i = 8 <;> simp [e, h8]), hn, Or.inl rfl, Fr.refl _ _⟩
  have HT : Hid (T.N = 0 ∨ T.Ok) := hT
  have HMB : Hid (∀ c, c < T.N → T.mb c < B) := hmb
  have HLM : Hid (∀ m ∈ lm, m < B) := hlm
  have HMO : Hid (w.ownsRow base 3 1 mv lm.length (ints lm)) := hm
  have HAP : Hid (mv.ownBlock = none ∨ mv.ownBlock ≠ nv.ownBlock) := hap
  obtain ⟨mo, mc, hmv⟩ : ∃ mo mc, mv = .slice mo lm.length mc := by
    rcases hm.2 with ⟨x, y⟩ | ⟨g, cap, _, x, _⟩
    · exact ⟨none, 0, by rw [x, y]⟩
    · exact ⟨_, cap, x⟩
  obtain ⟨N, hNe⟩ : ∃ N, N = T.N := ⟨_, rfl⟩
  obtain ⟨no, nc, hnv⟩ : ∃ no nc, nv = .slice no N nc := by
    rcases hn.2 with ⟨x, y⟩ | ⟨g, cap, _, x, _⟩
    · exact ⟨none, 0, by rw [x, hNe, y]⟩
    · exact ⟨_, cap, by rw [x, hNe]⟩
  have HN0 : Hid (w.ownsRow base 124 4 nv N (tlist T)) := by rw [hNe]; exact hn
  have HNe : Hid (N = T.N) := hNe
  rw [← hNe] at hN
  subst hmv
  subst hnv
  clear hT hmb hlm hm hap hW h8 hn hNe
  go_enter Tryd.func68, Tryd.ntmps68
  go_upto_if 13 with fail
  go_cut [] from 13 to 23 (fun wx => ∃ (T1 : Trie) (nv1 : Value), Hid T1.Ok ∧ Hid (∀ l, T1.Has l ↔ T.Has l) ∧ T1.N ≤ N + 1 ∧ Hid (∀ c, c < T1.N → T1.mb c < B) ∧ Hid (InsAt w wx base wb f (.slice no N nc) nv1 T1))
  case first =>
    by_cases hz : N = 0
    · subst hz
      have HNo : Hid (∀ l, Trie.one.Has l ↔ T.Has l) := fun l => ⟨fun h => absurd h (Trie.one_has l), fun ⟨v, hv, _⟩ => by have := HNe.out; omega⟩
      have HTl : Hid (tlist T = []) := by show _ = _; unfold tlist; rw [← HNe.out]; rfl
      have HON : Hid (w.ownsRow base 124 4 (.slice no 0 nc) 0 []) := by have := HN0.out; rw [HTl.out] at this; exact this
      clear HN0 HT HTl
      go_wp2_with (
        at_builtin
        refine wpList_append_node rfl _ _ rfl base (.slice no 0 nc) 0 [] rfl (HON.out.alloc _) _ _ (.int .i64 0) (.int .i64 (-1)) (.int .i64 (-1)) (.bool false) rfl (by simp) (by simp) (by simp) (by simp) rfl rfl rfl rfl (by omega) (by simp; omega) ?_
        intro g' c' w2 hown' hg' hw'
        have HI2 : Hid (InsAt w (w2.setCell ⟨wb, 8, none⟩ (.slice (some ⟨g', 0, none⟩) 1 c')) base wb f (.slice no 0 nc) (.slice (some ⟨g', 0, none⟩) 1 c') Trie.one) := by
          have := HI0.out.appended hwb (((Fr.refl _ w).alloc _).trans (Fr.of_grown hg') (fun b _ x => x)) hown' (hw'.elim Or.inl (fun e => Or.inr (by rw [e]; simp)))
          show InsL _ _ _ _ _ _ _ _ _
          rw [tlist_one]
          exact this
        have hrow2 : w2.rowIs wb 68 14 _ := (Fr.of_grown hg').row (HI0.out.row.alloc _) (fun x => by have := (HON.out.lt wb x).1; omega)
        have c8 : w2.cell? ⟨wb, 8, none⟩ = some (.slice no 0 nc) := hrow2.cell (i := 8) (by omega)
        have fz8 : w2.frozen? ⟨wb, 8, none⟩ = false := hrow2.frozen 8
        clear hown' hg' hw' hrow2)
      go_meet
      exact ⟨Trie.one, _, Trie.one_ok, HNo, by simp [Trie.one], by intro c _; exact hB0, HI2⟩
    · go_wp2
      go_meet
      exact ⟨T, _, HT.out.resolve_left (fun e => hz (HNe.out.trans e)), fun l => Iff.rfl, by have := HNe.out; omega, HMB, HI0⟩
  case rest =>
    obtain ⟨T1, nv1, HT1, HHas, hN1, HMB1, HI1⟩ := hcut
    clear HI0 c8 fz8 HT HMB HN0
    go_wp2
    go_loopw [26, 4] (fun vk vv wr => ∃ (k v : Nat) (T2 : Trie) (nv2 : Value), vk = .int .i64 k ∧ vv = .int .i64 v ∧ k ≤ lm.length ∧ v < T2.N ∧ T2.N ≤ N + 1 + k ∧ Hid T2.Ok ∧ Hid (T2.Path v (lm.take k)) ∧ Hid (∀ l, T2.Has l ↔ T.Has l) ∧ Hid (∀ c, c < T2.N → T2.mb c < B) ∧ Hid (InsAt w wr base wb f (.slice no N nc) nv2 T2)) (fun vk _ _ => lm.length - (intOf vk).toNat)
    case atStart => exact ⟨0, 0, T1, nv1, rfl, rfl, Nat.zero_le _, HT1.out.pos, by omega, HT1, .root, HHas, HMB1, HI1⟩
    case round =>
      clear HT1 HHas HMB1 HI1 hN1
      obtain ⟨k, v, T2, nv2, rfl, rfl, hk, hvN, hN2, HT2, HP, HHas, HMB, HI⟩ := hrel
      obtain ⟨ng, ncap, rfl, hncap, hnb, hnlt⟩ := own_form' HI.out.own HT2.out.pos
      have h8 : wr.cell? ⟨wb, 8, none⟩ = some (.slice (some ⟨ng, 0, none⟩) T2.N ncap) := HI.out.row.cell (i := 8) (by omega)
      have fz8 : wr.frozen? ⟨wb, 8, none⟩ = false := HI.out.row.frozen 8
      have HCell : Hid (∀ o, o < T2.N * 4 → wr.cell? ⟨ng, o, none⟩ = some (tc T2 o)) := fun o ho => own_cell HI.out.own (tlist_get T2 ho)
      by_cases hlt : k < lm.length
      · obtain ⟨m, hm⟩ : ∃ m, lm[k]? = some m := ⟨lm[k], List.getElem?_eq_getElem hlt⟩
        have HTk : Hid (lm.take (k + 1) = lm.take k ++ [m]) := by show _ = _; rw [List.take_add_one, hm]; rfl
        have hmB : m < B := HLM.out m (List.mem_of_getElem? hm)
        obtain ⟨mg, rfl, hmcap⟩ : ∃ mg, mo = some ⟨mg, 0, none⟩ ∧ lm.length ≤ mc := by
          obtain ⟨g, cap, e, h2, _⟩ := own_form' HMO.out (by omega)
          cases e; exact ⟨g, rfl, h2⟩
        have hmw : wr.cell? ⟨mg, k, none⟩ = some (.int .i64 (m : Int)) := by
          refine HI.out.fr.cell (own_cell HMO.out (ints_get lm hm)) (fun x => ?_)
          rcases x with x | x
          · have := (HMO.out.lt mg rfl).1
            simp at x; omega
          · rcases HAP.out with y | y
            · cases y
            · exact y x.symm
        have hc1 := HCell.out (v * 4 + 1) (by omega)
        rw [tc1] at hc1
        clear hm
        go_wp2
        clear hmw hc1
        go_loopg [7] (T2.N + 1) (fun gk vc wx => ∃ (k2 : Nat), vc = .int .i64 (optI (kid T2.par v k2)) ∧ k2 ≤ T2.N ∧ k2 + 1 ≤ gk ∧ wx = wr)
        case atStart => exact ⟨T2.N, rfl, Nat.le_refl _, Nat.le_refl _, rfl⟩
        case round =>
          obtain ⟨k2, rfl, hk2, hgk, rfl⟩ := hrel
          cases hkid : kid T2.par v k2 with
          | none =>
            have hcv := HCell.out (v * 4 + 1) (by omega)
            rw [tc1] at hcv
            obtain ⟨kv, hkv⟩ : ∃ kv, kv = optI (kid T2.par v T2.N) := ⟨_, rfl⟩
            have HKV : Hid (kv = optI (kid T2.par v T2.N)) := hkv
            rw [← hkv] at hcv
            rw [show optI (none : Option Nat) = -1 from rfl]
            clear hkid hkv
            have hwlt : wb < wr.heap.size := by omega
            go_wp2
            go_region_law (
              refine step_append_node rfl _ _ rfl base (.slice (some ⟨ng, 0, none⟩) T2.N ncap) T2.N (tlist T2) (by simp [Act.eval, Act.put]) (HI.out.own.alloc _) wr.heap.size 1 (.int .i64 (m : Int)) (.int .i64 (-1)) (.int .i64 kv) (.bool false) (by simp [Act.eval, Act.put]) (by simp) (by simp) (by simp) (by simp) rfl rfl rfl rfl (by omega) (by simp; omega) ?_
              intro g' c' w2 hown' hg' hw'
              have HI2 : Hid (InsAt w ((w2.setCell ⟨wb, 8, none⟩ (.slice (some ⟨g', 0, none⟩) (T2.N + 1) c')).setCell ⟨g', v * 4 + 1, none⟩ (.int .i64 (T2.N : Int))) base wb f (.slice no N nc) (.slice (some ⟨g', 0, none⟩) (T2.N + 1) c') (T2.add v m)) := by
                have hFr : Fr (fun k => (Value.slice (some ⟨ng, 0, none⟩) T2.N ncap).ownBlock = some k) wr w2 := by
                  have h1 := Fr.of_grown hg'
                  exact ⟨h1.os, h1.tape, h1.output, Nat.le_trans (by simp [World.drew]) h1.size, fun k hk hn => (h1.block k (by simp [World.drew]; omega) hn).trans (Below.heap_alloc wr _ k hk)⟩
                have h2 := (HI.out.appended hwb hFr hown' (hw'.elim Or.inl (fun e => Or.inr (by rw [e]; simp [World.drew])))).set hwb (v * 4 + 1) (.int .i64 (T2.N : Int))
                rw [HKV.out, tlist_add T2 v m hvN HT2.out] at h2
                exact h2
              have hrow2 : w2.rowIs wb 68 14 _ := (Fr.of_grown hg').row (HI.out.row.alloc _) (fun x => by have := (HI.out.own.lt wb x).1; omega)
              have c8' : w2.cell? ⟨wb, 8, none⟩ = some (.slice (some ⟨ng, 0, none⟩) T2.N ncap) := hrow2.cell (i := 8) (by omega)
              have fz8' : w2.frozen? ⟨wb, 8, none⟩ = false := hrow2.frozen 8
              have hwg : wb ≠ g' := by have := (hown'.lt g' rfl).1; omega
              have hcg1 := own_cell hown' (j := v * 4 + 1) (u := tc T2 (v * 4 + 1)) (by rw [List.getElem?_append_left (by rw [tlist_len]; omega)]; exact tlist_get T2 (by omega))
              have fzg : w2.frozen? ⟨g', v * 4 + 1, none⟩ = false := own_frozen hown' _
              clear hown' hg' hw' hrow2)
            all_goals
              have HOk : Hid (T2.add v m).Ok := Trie.add_ok HT2.out hvN
              have HPa : Hid ((T2.add v m).Path T2.N (lm.take (k + 1))) := by
                show Trie.Path _ _ _
                rw [HTk.out]; exact Trie.add_new HT2.out HP.out
              have HHs : Hid (∀ l, (T2.add v m).Has l ↔ T.Has l) := fun l => (Trie.add_has HT2.out l).trans (HHas.out l)
              have HMb : Hid (∀ c, c < (T2.add v m).N → (T2.add v m).mb c < B) := by
                intro c hc
                simp only [Trie.add] at *
                split
                · exact hmB
                · exact HMB.out c (by omega)
              clear HP HHas HMB HI
              go_wp2
              refine ⟨⟨k + 1, T2.N, T2.add v m, _, by go_num, rfl, by omega, by simp [Trie.add], by simp only [Trie.add]; omega, HOk, HPa, HHs, HMb, HI2⟩, by simp [intOf]; omega⟩
          | some c =>
            obtain ⟨hc0, hcp, hck, _⟩ := kid_some hkid
            have hcN : c < T2.N := by omega
            have hm0 := HCell.out (c * 4) (by omega)
            rw [tc0] at hm0
            have hm2 := HCell.out (c * 4 + 2) (by omega)
            rw [tc2, hcp] at hm2
            rw [show optI (some c) = (c : Int) from rfl]
            clear hkid
            by_cases he : T2.mb c = m
            · rw [he] at hm0
              have HP2 : Hid (T2.Path c (lm.take (k + 1))) := by
                have := Trie.Path.step hc0 hcN (by rw [hcp]; exact HP.out)
                rw [he, ← HTk.out] at this; exact this
              clear he hcp
              go_wp2
              go_roundw
              case rel => exact ⟨k + 1, c, T2, _, by go_num, rfl, by omega, hcN, by omega, HT2, HP2, HHas, HMB, HI⟩
              case measure => simp [intOf]; omega
            · have hne : ((T2.mb c : Int) != (m : Int)) = true := by simp; omega
              clear he hcp
              go_wp2
              go_roundg (c + 1)
              case rel => exact ⟨c, rfl, by omega, by omega, rfl⟩
              case measure => omega
      · have HE : Hid (lm.take k = lm) := by show _ = _; exact List.take_of_length_le (by omega)
        have hc3 := HCell.out (v * 4 + 3) (by omega)
        have fzn : wr.frozen? ⟨ng, v * 4 + 3, none⟩ = false := own_frozen HI.out.own _
        go_wp2
        go_end0
        have HI2 := HI.out.set hwb (v * 4 + 3) (.bool true)
        rw [tlist_mark T2 v hvN] at HI2
        refine ⟨rfl, T2.mark v, .slice (some ⟨ng, 0, none⟩) T2.N ncap, Trie.mark_ok HT2.out v, fun l => ?_, ?_, HMB.out, HI2⟩
        · rw [Trie.mark_has HT2.out hvN HP.out, HHas.out, HE.out]
        · have := HNe.out
          show T2.N ≤ _
          omega
end Go.Proofs.Qxb6613821aDoor
