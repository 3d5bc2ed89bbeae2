/- zzSameQuorums and zzQuorumsWellFormed. -/
import Derived.Test.Qxb6613821aDoorCot
namespace Go.Proofs.Qxb6613821aDoor
set_option linter.unusedVariables false
set_option linter.unusedSimpArgs false
open Ieee Go.RowKit

set_option maxHeartbeats 4000000 in
theorem same_any (ra rb : Nat) (QS : List (List Nat)) (hm : QS.length ≤ 65536) (hl : ∀ l ∈ QS, l.length ≤ 65536) (w : World) (hA : QAt w ra QS) (hB : QAt w rb QS) :
    Calls Tryd.prog 15 #[.slice (some ⟨ra, 0, none⟩) QS.length QS.length, .slice (some ⟨rb, 0, none⟩) QS.length QS.length] w fun e w' => e = .returned (.bool true) ∧ ∃ k, w' = w.drewN k := by
  have HA : Hid (QAt w ra QS) := hA
  have HB : Hid (QAt w rb QS) := hB
  have HL : Hid (∀ l ∈ QS, l.length ≤ 65536) := hl
  clear hA hB hl
  go_enter Tryd.func15, Tryd.ntmps15
  go_wp2
  go_loopw [5] (fun vi wr => ∃ i k : Nat, vi = .int .i64 i ∧ i ≤ QS.length ∧ wr = w.drewN k) (fun vi _ => QS.length - (intOf vi).toNat)
  case atStart => exact ⟨0, 0, rfl, Nat.zero_le _, rfl⟩
  case round =>
    obtain ⟨i, k, rfl, hi, rfl⟩ := hrel
    by_cases hlt : i < QS.length
    · obtain ⟨l, hle⟩ : ∃ l, QS[i]? = some l := ⟨_, List.getElem?_eq_getElem hlt⟩
      obtain ⟨go1, c1, a1, a2, a3⟩ := HA.out.row i l hle
      obtain ⟨go2, c2, b1, b2, b3⟩ := HB.out.row i l hle
      have hll := HL.out l (List.mem_of_getElem? hle)
      have A3 : Hid (∀ (j x : Nat), l[j]? = some x → ∃ g, go1 = some ⟨g, 0, none⟩ ∧ w.cell? ⟨g, j, none⟩ = some (.int .i64 (x : Int))) := a3
      have B3 : Hid (∀ (j x : Nat), l[j]? = some x → ∃ g, go2 = some ⟨g, 0, none⟩ ∧ w.cell? ⟨g, j, none⟩ = some (.int .i64 (x : Int))) := b3
      clear a3 b3 hle
      go_wp2
      go_quiet (fail)
      go_wp2
      go_loopw [6] (fun vj wr => ∃ j k : Nat, vj = .int .i64 j ∧ j ≤ l.length ∧ wr = w.drewN k) (fun vj _ => l.length - (intOf vj).toNat)
      case atStart => exact ⟨0, k + nq, rfl, Nat.zero_le _, dq0 _ _ _⟩
      case round =>
        obtain ⟨j, k2, rfl, hj, rfl⟩ := hrel
        by_cases hjl : j < l.length
        · obtain ⟨x, hx⟩ : ∃ x, l[j]? = some x := ⟨_, List.getElem?_eq_getElem hjl⟩
          obtain ⟨g1, rfl, e1⟩ := A3.out j x hx
          obtain ⟨g2, rfl, e2⟩ := B3.out j x hx
          clear hx
          go_wp2
          go_quiet (fail)
          go_wp2
          go_roundw
          case rel => exact ⟨j + 1, _, by go_num, by omega, rfl⟩
          case measure => simp [intOf]; omega
        · go_wp2
          go_roundw
          case rel => exact ⟨i + 1, _, by go_num, by omega, rfl⟩
          case measure => simp [intOf]; omega
    · go_wp2
      go_ret
      exact ⟨rfl, _, rfl⟩

/-- Well formed quorums. -/
structure WF (QS : List (List Nat)) (n : Nat) : Prop where
  ne : QS ≠ []
  one : ∀ l ∈ QS, l ≠ []
  lt : ∀ l ∈ QS, ∀ x ∈ l, x < n
  asc : ∀ l ∈ QS, ∀ (j x y : Nat), l[j]? = some x → l[j + 1]? = some y → x < y

set_option maxHeartbeats 4000000 in
theorem well_any (ra n : Nat) (QS : List (List Nat)) (hm : QS.length ≤ 65536) (hn : n ≤ 65536) (hl : ∀ l ∈ QS, l.length ≤ 65536) (hW : WF QS n) (w : World) (hA : QAt w ra QS) :
    Calls Tryd.prog 8 #[.slice (some ⟨ra, 0, none⟩) QS.length QS.length, .int .i64 (n : Int)] w fun e w' => e = .returned (.bool true) ∧ ∃ k, w' = w.drewN k := by
  have HA : Hid (QAt w ra QS) := hA
  have HL : Hid (∀ l ∈ QS, l.length ≤ 65536) := hl
  have HW : Hid (WF QS n) := hW
  have hq0 : 0 < QS.length := List.length_pos_iff.2 hW.ne
  clear hA hl hW
  obtain ⟨m, hme⟩ : ∃ m, m = QS.length := ⟨_, rfl⟩
  have HME : Hid (m = QS.length) := hme
  rw [← hme] at hm hq0 ⊢
  clear hme
  go_enter Tryd.func8, Tryd.ntmps8
  go_wp2
  try rw [show ((m : Int) == 0) = false from by simp; omega]
  go_loopw [13] (fun vi wr => ∃ i k : Nat, vi = .int .i64 i ∧ i ≤ m ∧ wr = w.drewN k) (fun vi _ => m - (intOf vi).toNat)
  case atStart => exact ⟨0, 0, rfl, Nat.zero_le _, rfl⟩
  case round =>
    obtain ⟨i, k, rfl, hi, rfl⟩ := hrel
    by_cases hlt : i < m
    · obtain ⟨l, hle⟩ : ∃ l, QS[i]? = some l := ⟨_, List.getElem?_eq_getElem (by rw [← HME.out]; exact hlt)⟩
      obtain ⟨go1, c1, a1, a2, a3⟩ := HA.out.row i l hle
      have hlm := List.mem_of_getElem? hle
      have hll := HL.out l hlm
      have hl0 : 0 < l.length := List.length_pos_iff.2 (HW.out.one l hlm)
      have A3 : Hid (∀ (j x : Nat), l[j]? = some x → ∃ g, go1 = some ⟨g, 0, none⟩ ∧ w.cell? ⟨g, j, none⟩ = some (.int .i64 (x : Int))) := a3
      have HLM : Hid (l ∈ QS) := hlm
      obtain ⟨ll, hlle⟩ : ∃ ll, ll = l.length := ⟨_, rfl⟩
      have HLLE : Hid (ll = l.length) := hlle
      rw [← hlle] at a1 a2 hll hl0
      clear a3 hle hlm hlle
      go_wp2
      try rw [show ((ll : Int) == 0) = false from by simp; omega]
      go_loopw [7] (fun vj wr => ∃ j k : Nat, vj = .int .i64 j ∧ j ≤ ll ∧ wr = w.drewN k) (fun vj _ => ll - (intOf vj).toNat)
      case atStart => exact ⟨0, k, rfl, Nat.zero_le _, rfl⟩
      case round =>
        obtain ⟨j, k2, rfl, hj, rfl⟩ := hrel
        by_cases hjl : j < ll
        · obtain ⟨x, hx⟩ : ∃ x, l[j]? = some x := ⟨_, List.getElem?_eq_getElem (by rw [← HLLE.out]; exact hjl)⟩
          obtain ⟨g1, rfl, e1⟩ := A3.out j x hx
          have hxn := HW.out.lt l HLM.out x (List.mem_of_getElem? hx)
          by_cases hj0 : j = 0
          · subst hj0
            clear hx
            go_wp2
            go_quiet (fail)
            go_wp2
            go_roundw
            case rel => exact ⟨1, _, by go_num, by omega, rfl⟩
            case measure => simp [intOf]; omega
          · obtain ⟨y, hy⟩ : ∃ y, l[j - 1]? = some y := ⟨_, List.getElem?_eq_getElem (by have := HLLE.out; omega)⟩
            obtain ⟨g2, e3, e2⟩ := A3.out (j - 1) y hy
            cases e3
            have hyx := HW.out.asc l HLM.out (j - 1) y x hy (by rw [show j - 1 + 1 = j from by omega]; exact hx)
            have hk0 : (0 : Int) ≤ (j : Int) - 1 := by omega
            have hk1 : (0 : Int) < (j : Int) := by omega
            have hk2 : (j : Int) - 1 < (ll : Int) := by omega
            have hkw : IntKind.i64.wrap ((j : Int) - 1) = (j : Int) - 1 := by simp [IntKind.wrap, IntKind.bits, IntKind.signed]; omega
            have hk3 : ((j : Int) - 1).toNat = j - 1 := by omega
            have hk4 : (1 : Int) ≤ (j : Int) := by omega
            have hk5 : 1 ≤ j := by omega
            have hk6 : 0 < j := by omega
            have hk8 : (j : Int) < (ll : Int) + 1 := by omega
            have hk9 : j - 1 < ll := by omega
            have hk10 : j < ll + 1 := by omega
            clear hx hy
            go_wp2
            go_quiet (fail)
            go_wp2
            go_roundw
            case rel => exact ⟨j + 1, _, by go_num, by omega, rfl⟩
            case measure => simp [intOf]; omega
        · go_wp2
          go_roundw
          case rel => exact ⟨i + 1, _, by go_num, by omega, rfl⟩
          case measure => simp [intOf]; omega
    · go_wp2
      go_ret
      exact ⟨rfl, _, rfl⟩
end Go.Proofs.Qxb6613821aDoor
