/- (*setTrie).holdsOne. -/
import Derived.Test.Qxb6613821aDoorOwn
namespace Go.Proofs.Qxb6613821aDoor
set_option linter.unusedVariables false
set_option linter.unusedSimpArgs false
open Ieee Go.RowKit

theorem ints_take (l : List Nat) (k : Nat) : (ints l).take (k * 1) = ints (l.take k) := by simp [ints]
theorem ints_get (l : List Nat) {k x : Nat} (h : l[k]? = some x) : (ints l)[k]? = some (.int .i64 (x : Int)) := by simp [ints, h]

/-- What the search leaves. -/
structure Sought (w w' : World) (base wb : Nat) (f : Nat → Value) (sv : Value) : Prop where
  ex : ∃ sv' l', w'.rowIs wb 68 14 (fun o => if o = 10 then sv' else f o) ∧ w'.ownsRow base 3 1 sv' l'.length (ints l') ∧ (sv'.ownBlock = sv.ownBlock ∨ ∃ k, sv'.ownBlock = some k ∧ w.heap.size ≤ k)
  fr : Fr (fun k => k = wb ∨ sv.ownBlock = some k) w w'

set_option maxHeartbeats 4000000 in
theorem holdsOne_any (wb base bb wd p cw : Nat) (bt : Nat → Nat) (T : Trie) (hT : T.Ok) (hN : T.N ≤ 1000000) (hmb : ∀ c, c < T.N → T.mb c < 64 * wd) (hw0 : wd ≤ 5) (hbt : ∀ i, bt i < 2 ^ 64) (f : Nat → Value) (nv sv : Value) (l0 : List Nat) (w : World) (hW : w.rowIs wb 68 14 f) (h8 : f 8 = nv) (h10 : f 10 = sv)
    (hn : w.ownsRow base 124 4 nv T.N (tlist T)) (hs : w.ownsRow base 3 1 sv l0.length (ints l0)) (hap : sv.ownBlock = none ∨ nv.ownBlock ≠ sv.ownBlock) (hwb : wb < base) (hbb : bb < base) (hbase : base ≤ w.heap.size) (hset : ∀ i, i < wd → w.cell? ⟨bb, p + i, none⟩ = some (.int .u64 (bt (p + i) : Int))) :
    Calls Tryd.prog 66 #[.pointer (some ⟨wb, 8, none⟩), .slice (some ⟨bb, p, none⟩) wd cw, .pointer (some ⟨wb, 10, none⟩)] w fun e w' => ∃ b : Bool, e = .returned (.bool b) ∧ (b = true ↔ ∃ l, T.Has l ∧ ∀ m ∈ l, mem bt p m = true) ∧ Sought w w' base wb f sv := by
  have hpos := hT.pos
  obtain ⟨ng, ncap, rfl, hncap, hnb, hnlt⟩ := own_form' hn hpos
  have c8 := hW.cell (i := 8) (by omega)
  rw [h8] at c8
  have c10 := hW.cell (i := 10) (by omega)
  rw [h10] at c10
  have hne : ∀ k, k < base → some k ≠ sv.ownBlock := fun k hk e => absurd (hs.lt k e.symm).1 (by omega)
  have HNE : Hid (∀ k, k < base → some k ≠ sv.ownBlock) := hne
  have hngs : some ng ≠ sv.ownBlock := by
    rcases hap with x | x
    · rw [x]; simp
    · exact x
  have fz10 : w.frozen? ⟨wb, 10, none⟩ = false := hW.frozen 10
  -- the cells of the trie, wherever only the stack has moved
  have hcell : ∀ (w' : World) (o : Nat), w.grownBy w' sv.ownBlock → o < T.N * 4 → w'.cell? ⟨ng, o, none⟩ = some (tc T o) := fun w' o hg ho => hg.cell (own_cell hn (tlist_get T ho)) hngs
  have HC : Hid (∀ (w' : World) (o : Nat), w.grownBy w' sv.ownBlock → o < T.N * 4 → w'.cell? ⟨ng, o, none⟩ = some (tc T o)) := hcell
  have H8 : Hid (∀ w' : World, w.grownBy w' sv.ownBlock → w'.cell? ⟨wb, 8, none⟩ = some (.slice (some ⟨ng, 0, none⟩) T.N ncap)) := fun w' hg => hg.cell c8 (hne wb hwb)
  have HB : Hid (∀ (w' : World) (i : Nat), w.grownBy w' sv.ownBlock → i < wd → w'.cell? ⟨bb, p + i, none⟩ = some (.int .u64 (bt (p + i) : Int))) := fun w' i hg hi => hg.cell (hset i hi) (hne bb hbb)
  have HT : Hid T.Ok := hT
  have HM : Hid (∀ c, c < T.N → T.mb c < 64 * wd) := hmb
  have HBT : Hid (∀ i, bt i < 2 ^ 64) := hbt
  have HW : Hid (w.rowIs wb 68 14 f) := hW
  have HS0 : Hid (w.ownsRow base 3 1 sv l0.length (ints l0)) := hs
  clear hcell hne hn hs hap hT hmb hbt hset hW h8 h10
  go_enter Tryd.func66, Tryd.ntmps66
  go_upto_region 3 with fail
  rw [show ((T.N : Int) == 0) = false from by simp; omega]
  go_cut [7] from 17 to 22 (fun v7 wx => Hid (wx.ownsRow base 3 1 v7 [0].length (ints [0])) ∧ Hid (Moved w wx sv.ownBlock v7.ownBlock))
  case first =>
    rcases HS0.out.2 with ⟨hsv, _⟩ | ⟨sg, scap, cur, hsv, hsb, hsg, hsc, _⟩
    · subst hsv
      go_wp2_with (
        at_builtin
        refine wpList_append_int rfl _ _ rfl base (.slice none 0 0) [] rfl (World.ownsRow_nil _ _ _ _) _ _ 0 rfl (by simp) (by simp) (by simp; omega) ?_
        intro g' c' w2 hown' hg' hw'
        have HO2 : Hid _ := hown'
        have HM2 : Hid (Moved w w2 none (some g')) := ⟨(Moved.mk (grown_alloc w _ none) (Or.inl rfl)).grow hg', by
          rcases hw' with e | e
          · exact Or.inl e
          · exact Or.inr ⟨g', rfl, by rw [e]; simp⟩⟩
        clear hown' hg' hw')
      go_meet
      exact ⟨HO2, HM2⟩
    · subst hsv
      have HO0 : Hid (w.ownsRow base 3 1 (.slice (some ⟨sg, 0, none⟩) 0 scap) ([] : List Nat).length (ints [])) := by
        have := own_cut HS0.out 0 (Nat.zero_le _)
        rw [ints_take] at this
        exact this
      have hscl : scap ≤ 9223372036854775807 := by
        rcases HS0.out.2 with ⟨x, _⟩ | ⟨a1, a2, a3, a4, _, _, _, a5, _⟩
        · cases x
        · cases a4; exact a5
      clear hsg
      go_wp2_with (
        at_builtin
        refine wpList_append_int rfl _ _ rfl base (.slice (some ⟨sg, 0, none⟩) 0 scap) [] rfl (HO0.out.alloc _) _ _ 0 rfl (by simp) (by simp) (by simp; omega) ?_
        intro g' c' w2 hown' hg' hw'
        have HO2 : Hid _ := hown'
        have HM2 : Hid (Moved w w2 (some sg) (some g')) := ⟨(Moved.mk (grown_alloc w _ (some sg)) (Or.inl rfl)).grow hg', by
          rcases hw' with e | e
          · exact Or.inl e
          · exact Or.inr ⟨g', rfl, by rw [e]; simp⟩⟩
        clear hown' hg' hw')
      go_meet
      exact ⟨HO2, HM2⟩
  case rest =>
    obtain ⟨HO, HMv⟩ := hcut
    go_wp2
    go_loopg [7, 8] (T.N + 1) (fun gk vl vf wr => ∃ (S V : List Nat) (fnd : Bool), vf = .bool fnd ∧ S.length ≤ T.N ∧ T.N + 1 - V.length ≤ gk ∧ V.length ≤ T.N ∧ Hid (T.Seek (mem bt p) S V) ∧ Hid (fnd = true ↔ ∃ v ∈ V, T.en v = true) ∧ Hid (wr.ownsRow base 3 1 vl S.length (ints S)) ∧ Hid (Moved w wr sv.ownBlock vl.ownBlock))
    case atStart => exact ⟨[0], [], false, rfl, by simp; omega, by simp, by simp, Trie.Seek.start HT.out _, by show _ ↔ _; simp, HO, HMv⟩
    case round =>
      clear HO HMv
      obtain ⟨S, V, fnd, rfl, hSN, hgk, hVN, HSk, HFd, HO, HMv⟩ := hrel
      by_cases hgo : 0 < S.length ∧ fnd = false
      · obtain ⟨hS0, rfl⟩ := hgo
        obtain ⟨S', v, rfl⟩ : ∃ S' v, S = S' ++ [v] := ⟨S.dropLast, S.getLast (by intro e; simp [e] at hS0), (List.dropLast_concat_getLast (by intro e; simp [e] at hS0)).symm⟩
        obtain ⟨sg, scap, rfl, hsc, hsgb, hsglt⟩ := own_form' HO.out hS0
        have hvN : v < T.N := HSk.out.lt v (by simp)
        have hcs := own_cell HO.out (ints_get (S' ++ [v]) (k := S'.length) (x := v) (by simp))
        have hc3 := HC.out wr (v * 4 + 3) HMv.out.grown (by omega)
        rw [tc3] at hc3
        have hc1 := HC.out wr (v * 4 + 1) HMv.out.grown (by omega)
        rw [tc1] at hc1
        have h8 := H8.out wr HMv.out.grown
        have HO2 : Hid (wr.ownsRow base 3 1 (.slice (some ⟨sg, 0, none⟩) S'.length scap) S'.length (ints S')) := by
          have h1 : S'.length ≤ (S' ++ [v]).length := by simp
          have := own_cut HO.out S'.length h1
          rw [ints_take, List.take_left' rfl] at this
          exact this
        simp only [List.length_append, List.length_cons, List.length_nil] at *
        have HMv0 : Hid (Moved w wr sv.ownBlock (some sg)) := HMv.out
        have HSk2 : Hid (T.Seek2 (mem bt p) S' (v :: V) v T.N) := HSk.out.pop HT.out
        have HFd2 : Hid (T.en v = true ↔ ∃ u ∈ v :: V, T.en u = true) := by
          show _ ↔ _
          constructor
          · intro h; exact ⟨v, by simp, h⟩
          · rintro ⟨u, hu, he⟩
            simp only [List.mem_cons] at hu
            rcases hu with rfl | hu
            · exact he
            · have := HFd.out.2 ⟨u, hu, he⟩; simp at this
        have hVN2 : V.length + 1 ≤ T.N := by
          have := HSk2.out.len
          simp only [List.length_cons] at this; omega
        clear HFd HSk HO HMv
        go_wp2
        clear hcs hc3 hc1 h8
        go_loopg [7, 10] (T.N + 1) (fun gk2 vl vc wr => ∃ (k : Nat) (S2 : List Nat), vc = .int .i64 (optI (kid T.par v k)) ∧ k ≤ T.N ∧ k + 1 ≤ gk2 ∧ S2.length ≤ T.N ∧ Hid (T.Seek2 (mem bt p) S2 (v :: V) v k) ∧ Hid (wr.ownsRow base 3 1 vl S2.length (ints S2)) ∧ Hid (Moved w wr sv.ownBlock vl.ownBlock))
        case atStart => exact ⟨T.N, S', rfl, Nat.le_refl _, Nat.le_refl _, by omega, HSk2, HO2, HMv0⟩
        case round =>
          clear HO2 HMv0 HSk2 hsc hsgb hsglt hS0
          obtain ⟨k, S2, rfl, hkN, hk2, hS2, HSk2, HO2, HMv2⟩ := hrel
          cases hkid : kid T.par v k with
          | none =>
            have HSk3 : Hid (T.Seek (mem bt p) S2 (v :: V)) := HSk2.out.close (kid_none hkid)
            rw [show optI (none : Option Nat) = -1 from rfl]
            go_wp2
            go_roundg (T.N - V.length)
            case rel => exact ⟨S2, v :: V, T.en v, rfl, hS2, by simp, by simpa using hVN2, HSk3, HFd2, HO2, HMv2⟩
            case measure => omega
          | some c =>
            obtain ⟨hc0, hcp, hck, hcd⟩ := kid_some hkid
            have hcN : c < T.N := by omega
            have HCD : Hid (∀ d, c < d → d < k → T.par d ≠ v) := hcd
            have h8 := H8.out wr HMv2.out.grown
            have hm0 := HC.out wr (c * 4) HMv2.out.grown (by omega)
            rw [tc0] at hm0
            have hm2 := HC.out wr (c * 4 + 2) HMv2.out.grown (by omega)
            rw [tc2, hcp] at hm2
            have hmc := HM.out c hcN
            have hcb := HB.out wr (T.mb c / 64) HMv2.out.grown (by omega)
            have HI : Hid (Calls Tryd.prog 77 #[.slice (some ⟨bb, p, none⟩) wd cw, .int .i64 (T.mb c : Int)] wr fun e w' => e = .returned (.bool (mem bt p (T.mb c))) ∧ ∃ n, w' = wr.drewN n) :=
              inSet_any bb p wd cw (T.mb c) (bt (p + T.mb c / 64)) (by omega) (by omega) (HBT.out _) wr hcb
            clear hcb hcd hkid hmc
            rw [show optI (some c) = (c : Int) from rfl]
            cases hin : mem bt p (T.mb c) with
            | false =>
              rw [hin] at HI
              have HSk3 : Hid (T.Seek2 (mem bt p) S2 (v :: V) v c) := by
                rcases HSk2.out.skip HCD.out hin with x | x
                · exact x
                · omega
              clear hin HSk2
              go_wp2_with fail
              refine HI.out.mono ?_
              rintro e w' ⟨rfl, nn, rfl⟩
              go_wp2
              go_roundg (c + 1)
              case rel => exact ⟨c, S2, rfl, by omega, by omega, hS2, HSk3, HO2, ⟨grown_drew HMv2.out.grown nn, HMv2.out.here⟩⟩
              case measure => omega
            | true =>
              rw [hin] at HI
              have HSk3 : Hid (T.Seek2 (mem bt p) (S2 ++ [c]) (v :: V) v c) := HSk2.out.push hc0 hck hcN hcp HCD.out hin
              have hS3 : (S2 ++ [c]).length ≤ T.N := by have := HSk3.out.len; omega
              clear hin HSk2
              go_wp2_with fail
              refine HI.out.mono ?_
              rintro e w' ⟨rfl, nn, rfl⟩
              have HO3 : Hid ((wr.drewN nn).ownsRow base 3 1 u7 S2.length (ints S2)) := HO2
              have HMv3 : Hid (Moved w (wr.drewN nn) sv.ownBlock u7.ownBlock) := ⟨grown_drew HMv2.out.grown nn, HMv2.out.here⟩
              clear HO2 HMv2 HI h8 hm0 hm2
              generalize wr.drewN nn = W2 at *
              have hsz : w.heap.size ≤ W2.heap.size := HMv3.out.grown.size
              go_wp2_with (
                at_builtin
                refine wpList_append_int rfl _ _ rfl base u7 S2 rfl (HO3.out.alloc _) _ _ c rfl (by simp) (by omega) (by simp; omega) ?_
                intro g' c' w2 hown' hg' hw'
                have HO4 : Hid _ := hown'
                have HM4 : Hid (Moved w w2 sv.ownBlock (some g')) := HMv3.out.trans ⟨(Moved.mk (grown_alloc W2 _ u7.ownBlock) (Or.inl rfl)).grow hg', by
                  rcases hw' with e | e
                  · exact Or.inl e
                  · exact Or.inr ⟨g', rfl, by rw [e]; simp⟩⟩
                have h8 := H8.out w2 HM4.out.grown
                have hm2 := HC.out w2 (c * 4 + 2) HM4.out.grown (by omega)
                rw [tc2, hcp] at hm2
                clear hown' hg' hw')
              go_roundg (c + 1)
              case rel => exact ⟨c, S2 ++ [c], rfl, by omega, by omega, hS3, HSk3, HO4, HM4⟩
              case measure => omega
      · have HRow : Hid (wr.rowIs wb 68 14 f) := HW.out.of_block (HMv.out.grown.block wb HW.out.lt (HNE.out wb hwb))
        have c10' := HRow.out.cell (i := 10) (by omega)
        have fz : wr.frozen? ⟨wb, 10, none⟩ = false := HRow.out.frozen 10
        have HFin : Hid (Sought w (wr.setCell ⟨wb, 10, none⟩ u7) base wb f sv) := by
          have hwne : ∀ g, u7.ownBlock = some g → g ≠ wb := fun g hg e => by
            have := (HO.out.lt g hg).1; omega
          refine ⟨⟨u7, S, HRow.out.set 10 u7, ?_, ?_⟩, ?_⟩
          · exact ((Fr.refl (fun k => k = wb) wr).setCell ⟨wb, 10, none⟩ u7 (Or.inl rfl)).own HO.out hwne
          · exact HMv.out.here
          · refine ((Fr.of_grown HMv.out.grown).mono (fun b _ h => Or.inr h)).setCell _ _ (Or.inl (Or.inl rfl))
        have HRes : Hid (fnd = true ↔ ∃ l, T.Has l ∧ ∀ m ∈ l, mem bt p m = true) := by
          show _ ↔ _
          cases hf : fnd with
          | true =>
            obtain ⟨v, hv, he⟩ := HFd.out.1 hf
            exact ⟨fun _ => HSk.out.found HT.out hv he, fun _ => rfl⟩
          | false =>
            have hS0 : S = [] := by
              cases S with
              | nil => rfl
              | cons a b => exact absurd ⟨by simp, hf⟩ hgo
            subst hS0
            refine ⟨fun h => by simp at h, fun h => absurd h (HSk.out.none HT.out (fun v hv => ?_))⟩
            cases he : T.en v with
            | false => rfl
            | true => have := HFd.out.2 ⟨v, hv, he⟩; rw [hf] at this; cases this
        by_cases hS0 : 0 < S.length
        · have hf : fnd = true := by
            cases fnd with
            | true => rfl
            | false => exact absurd ⟨hS0, rfl⟩ hgo
          obtain ⟨sg, scap, rfl, hsc, hsgb, hsglt⟩ := own_form' HO.out hS0
          subst hf
          clear hgo HSk HFd HO HMv HRow
          go_wp2
          go_ret
          exact Or.inr ⟨rfl, HRes.out.1 trivial, HFin.out⟩
        · have hS1 : S.length = 0 := by omega
          have HOx : Hid (∃ o c, u7 = .slice o 0 c) := by
            rcases HO.out.2 with ⟨x, _⟩ | ⟨g, cap, _, x, _⟩
            · exact ⟨none, 0, x⟩
            · exact ⟨_, cap, by rw [x, hS1]⟩
          obtain ⟨o, c, rfl⟩ := HOx.out
          clear hgo HSk HFd HO HMv HRow HOx
          go_wp2
          go_ret
          exact ⟨fnd, rfl, HRes.out, HFin.out⟩
end Go.Proofs.Qxb6613821aDoor
