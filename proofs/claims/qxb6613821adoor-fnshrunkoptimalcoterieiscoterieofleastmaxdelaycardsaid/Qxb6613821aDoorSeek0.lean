/- (*setTrie).holdsOne, where there may be no node. -/
import Derived.Test.Qxb6613821aDoorTS
namespace Go.Proofs.Qxb6613821aDoor
set_option linter.unusedVariables false
set_option linter.unusedSimpArgs false
open Ieee Go.RowKit Go.Sort Go.Lib

theorem holdsOne_zero (wb : Nat) (no : Option Addr) (nc : Nat) (a b : Value) (w : World) (h8 : w.cell? ⟨wb, 8, none⟩ = some (.slice no 0 nc)) :
    Calls Tryd.prog 66 #[.pointer (some ⟨wb, 8, none⟩), a, b] w fun e w' => e = .returned (.bool false) ∧ w' = w := by
  go_enter Tryd.func66, Tryd.ntmps66
  go_wp2
  go_ret
  exact ⟨rfl, rfl⟩

theorem holdsOne_all (wb base bb wd p cw : Nat) (bt : Nat → Nat) (T : Trie) (hT : T.N = 0 ∨ T.Ok) (hN : T.N ≤ 1000000) (hmb : ∀ c, c < T.N → T.mb c < 64 * wd) (hw0 : wd ≤ 5) (hbt : ∀ i, bt i < 2 ^ 64) (f : Nat → Value) (nv sv : Value) (l0 : List Nat) (w : World) (hW : w.rowIs wb 68 14 f) (h8 : f 8 = nv) (h10 : f 10 = sv)
    (hn : w.ownsRow base 124 4 nv T.N (tlist T)) (hs : w.ownsRow base 3 1 sv l0.length (ints l0)) (hap : sv.ownBlock = none ∨ nv.ownBlock ≠ sv.ownBlock) (hwb : wb < base) (hbb : bb < base) (hbase : base ≤ w.heap.size) (hset : ∀ i, i < wd → w.cell? ⟨bb, p + i, none⟩ = some (.int .u64 (bt (p + i) : Int))) :
    Calls Tryd.prog 66 #[.pointer (some ⟨wb, 8, none⟩), .slice (some ⟨bb, p, none⟩) wd cw, .pointer (some ⟨wb, 10, none⟩)] w fun e w' => ∃ b : Bool, e = .returned (.bool b) ∧ (b = true ↔ ∃ l, T.Has l ∧ ∀ m ∈ l, mem bt p m = true) ∧ Sought w w' base wb f sv := by
  rcases hT with hz | hT
  · obtain ⟨no, nc, hnv⟩ : ∃ no nc, nv = .slice no 0 nc := by
      rcases hn.2 with ⟨x, y⟩ | ⟨g, cap, _, x, _⟩
      · exact ⟨none, 0, x⟩
      · exact ⟨_, cap, by rw [x, hz]⟩
    have c8 := hW.cell (i := 8) (by omega)
    rw [h8, hnv] at c8
    refine (holdsOne_zero wb no nc _ _ w c8).mono ?_
    rintro e w' ⟨rfl, rfl⟩
    refine ⟨false, rfl, ⟨fun h => by simp at h, fun ⟨l, ⟨v, hv, _⟩, _⟩ => by omega⟩, ⟨sv, l0, hW.congr (fun i _ => ?_), hs, Or.inl rfl⟩, Fr.refl _ _⟩
    by_cases e : i = 10
    · simp [e, h10]
    · simp [e]
  · exact holdsOne_any wb base bb wd p cw bt T hT hN hmb hw0 hbt f nv sv l0 w hW h8 h10 hn hs hap hwb hbb hbase hset
end Go.Proofs.Qxb6613821aDoor
