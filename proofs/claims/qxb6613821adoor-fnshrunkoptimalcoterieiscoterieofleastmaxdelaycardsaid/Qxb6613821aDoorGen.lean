/- zzBytes over any matrix. -/
import Derived.Test.Qxb6613821aDoorLaw
namespace Go.Proofs.Qxb6613821aDoor
set_option linter.unusedVariables false
set_option linter.unusedSimpArgs false
open Ieee Go.RowKit

/-- A slice of slices of floats, rows of any length. -/
structure GM (w : World) (b o m : Nat) (rg : Nat → Option Addr) (rl rc : Nat → Nat) (d : Nat → Nat → Nat) : Prop where
  row : ∀ i, i < m → w.cell? ⟨b, o + i, none⟩ = some (.slice (rg i) (rl i) (rc i))
  el : ∀ i j, i < m → j < rl i → ∃ g p, rg i = some ⟨g, p, none⟩ ∧ w.cell? ⟨g, p + j, none⟩ = some (.float .f64 (d i j))
  len : ∀ i, i < m → rl i < 9223372036854775808
  cap : ∀ i, i < m → rl i ≤ rc i

set_option maxHeartbeats 2000000 in
theorem bytes_any (b o m cap : Nat) (go : Option Addr) (rg : Nat → Option Addr) (rl rc : Nat → Nat) (d : Nat → Nat → Nat) (w : World) (hG : GM w b o m rg rl rc d) (hgo : 0 < m → go = some ⟨b, o, none⟩) (hm : m < 9223372036854775808) :
    Calls Tryd.prog 13 #[.slice go m cap] w fun e w' => w' = w ∧ (e = .returned (.bool true) ∧ m ≤ 1048576 ∧ (∀ i, i < m → rl i ≤ 1048576) ∨ e = .returned (.bool false)) := by
  have HG : Hid (GM w b o m rg rl rc d) := hG
  have HGO : Hid (0 < m → go = some ⟨b, o, none⟩) := hgo
  clear hG hgo
  by_cases h1 : m ≤ 1048576
  · go_enter Tryd.func13, Tryd.ntmps13
    go_wp2
    go_loopw [3, 4] (fun vn vi wr => ∃ i N : Nat, vi = .int .i64 i ∧ vn = .int .i64 N ∧ i ≤ m ∧ N ≤ 1048576 ∧ wr = w ∧ Hid (∀ k, k < i → rl k ≤ 1048576)) (fun _ vi _ => m - (intOf vi).toNat)
    case atStart => exact ⟨0, m, rfl, by go_num, Nat.zero_le _, h1, rfl, fun k hk => absurd hk (by omega)⟩
    case round =>
      obtain ⟨i, N, rfl, rfl, hi, hN, rfl, HR⟩ := hrel
      by_cases hlt : i < m
      · have hgo := HGO.out (by omega)
        subst hgo
        have hr := HG.out.row i hlt
        have hlen := HG.out.len i hlt
        by_cases h2 : rl i ≤ 1048576
        · have HR2 : Hid (∀ k, k < i + 1 → rl k ≤ 1048576) := fun k hk => by
            by_cases e : k = i
            · subst e; exact h2
            · exact HR.out k (by omega)
          by_cases h3 : N + rl i ≤ 1048576
          · generalize rl i = ri at *
            go_wp2
            go_roundw
            case rel => exact ⟨i + 1, N + ri, by go_num, by go_num, by omega, h3, by first | trivial | rfl, HR2⟩
            case measure => simp [intOf]; omega
          · generalize rl i = ri at *
            go_wp2
            go_ret
            exact ⟨rfl, Or.inr rfl⟩
        · generalize rl i = ri at *
          go_wp2
          go_ret
          exact ⟨rfl, Or.inr rfl⟩
      · have HR2 : Hid (∀ k, k < m → rl k ≤ 1048576) := fun k hk => HR.out k (by omega)
        go_wp2
        go_ret
        exact ⟨rfl, Or.inl ⟨rfl, h1, HR2.out⟩⟩
  · go_enter Tryd.func13, Tryd.ntmps13
    go_wp2
    go_ret
    exact ⟨rfl, Or.inr rfl⟩
/-- What zzUnitScale asks of a distance. -/
def unitOk (x : Nat) : Bool := (FloatKind.f64.format.order x 0 == some .eq) || (!(FloatKind.f64.format.order x 4607182418800017408 == some .lt) && !(FloatKind.f64.format.order x 9214364837600034816 == some .gt || FloatKind.f64.format.order x 9214364837600034816 == some .eq))

set_option maxHeartbeats 2000000 in
theorem unit_any (b o m cap : Nat) (go : Option Addr) (rg : Nat → Option Addr) (rl rc : Nat → Nat) (d : Nat → Nat → Nat) (w : World) (hG : GM w b o m rg rl rc d) (hgo : 0 < m → go = some ⟨b, o, none⟩) (hm : m ≤ 1048576) (hrl : ∀ i, i < m → rl i ≤ 1048576) :
    Calls Tryd.prog 14 #[.slice go m cap] w fun e w' => w' = w ∧ (e = .returned (.bool true) ∧ (∀ i j, i < m → j < rl i → unitOk (d i j) = true) ∨ e = .returned (.bool false)) := by
  have HG : Hid (GM w b o m rg rl rc d) := hG
  have HGO : Hid (0 < m → go = some ⟨b, o, none⟩) := hgo
  have HRL : Hid (∀ i, i < m → rl i ≤ 1048576) := hrl
  clear hG hgo hrl
  go_enter Tryd.func14, Tryd.ntmps14
  go_wp2
  go_loopw [3] (fun vi wr => ∃ i : Nat, vi = .int .i64 i ∧ i ≤ m ∧ wr = w ∧ Hid (∀ k j, k < i → j < rl k → unitOk (d k j) = true)) (fun vi _ => m - (intOf vi).toNat)
  case atStart => exact ⟨0, rfl, Nat.zero_le _, rfl, fun k j hk => absurd hk (by omega)⟩
  case round =>
    obtain ⟨i, rfl, hi, rfl, HR⟩ := hrel
    by_cases hlt : i < m
    · have hgo := HGO.out (by omega)
      subst hgo
      have hr := HG.out.row i hlt
      have hlen := HRL.out i hlt
      have hcap := HG.out.cap i hlt
      go_wp2
      go_loopw [4] (fun vj wx => ∃ j : Nat, vj = .int .i64 j ∧ j ≤ rl i ∧ wx = wr ∧ Hid (∀ k, k < j → unitOk (d i k) = true)) (fun vj _ => rl i - (intOf vj).toNat)
      case atStart => exact ⟨0, rfl, Nat.zero_le _, rfl, fun k hk => absurd hk (by omega)⟩
      case round =>
        obtain ⟨j, rfl, hj, rfl, HRj⟩ := hrel
        by_cases hjl : j < rl i
        · obtain ⟨g, p, hg, hc⟩ := HG.out.el i j hlt hjl
          rw [hg] at hr
          have HS : Hid (unitOk (d i j) = true → ∀ k, k < j + 1 → unitOk (d i k) = true) := fun h k hk => by
            by_cases e : k = j
            · subst e; exact h
            · exact HRj.out k (by omega)
          have HU : Hid (unitOk (d i j) = ((FloatKind.f64.format.order (d i j) 0 == some .eq) || (!(FloatKind.f64.format.order (d i j) 4607182418800017408 == some .lt) && !(FloatKind.f64.format.order (d i j) 9214364837600034816 == some .gt || FloatKind.f64.format.order (d i j) 9214364837600034816 == some .eq)))) := rfl
          generalize d i j = x at *
          clear hg
          cases h0 : (FloatKind.f64.format.order x 0 == some .eq) with
          | true =>
            have HS2 : Hid (∀ k, k < j + 1 → unitOk (d i k) = true) := HS.out (by rw [HU.out, h0]; rfl)
            have h0' : (FloatKind.f64.format.order x 0 != some .eq) = false := by rw [bne, h0]; rfl
            clear HS HU h0
            go_wp2
            go_roundw
            case rel => exact ⟨j + 1, by go_num, by omega, by first | trivial | rfl, HS2⟩
            case measure => simp [intOf]; omega
          | false =>
            have h0' : (FloatKind.f64.format.order x 0 != some .eq) = true := by rw [bne, h0]; rfl
            cases h1 : (FloatKind.f64.format.order x 4607182418800017408 == some .lt) with
            | true =>
              clear HS HU h0
              go_wp2
              go_ret
              exact ⟨rfl, Or.inr rfl⟩
            | false =>
              cases h2 : (FloatKind.f64.format.order x 9214364837600034816 == some .gt || FloatKind.f64.format.order x 9214364837600034816 == some .eq) with
              | true =>
                clear HS HU h0
                go_wp2
                go_ret
                exact ⟨rfl, Or.inr rfl⟩
              | false =>
                have HS2 : Hid (∀ k, k < j + 1 → unitOk (d i k) = true) := HS.out (by rw [HU.out, h0, h1, h2]; rfl)
                clear HS HU h0
                go_wp2
                go_roundw
                case rel => exact ⟨j + 1, by go_num, by omega, by first | trivial | rfl, HS2⟩
                case measure => simp [intOf]; omega
        · have HR2 : Hid (∀ k j, k < i + 1 → j < rl k → unitOk (d k j) = true) := fun k j' hk hj' => by
            by_cases e : k = i
            · subst e; exact HRj.out j' (by omega)
            · exact HR.out k j' (by omega) hj'
          go_wp2
          go_roundw
          case rel => exact ⟨i + 1, by go_num, by omega, by first | trivial | rfl, HR2⟩
          case measure => simp [intOf]; omega
    · have HR2 : Hid (∀ k j, k < m → j < rl k → unitOk (d k j) = true) := fun k j hk hj => HR.out k j (by omega) hj
      go_wp2
      go_ret
      exact ⟨rfl, Or.inl ⟨rfl, HR2.out⟩⟩
end Go.Proofs.Qxb6613821aDoor
