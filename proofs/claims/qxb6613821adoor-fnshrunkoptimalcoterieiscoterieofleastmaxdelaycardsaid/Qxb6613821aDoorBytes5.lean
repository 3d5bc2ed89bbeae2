/- zzBytes of the other law. -/
import Derived.Test.Qxb6613821aDoorGen
namespace Go.Proofs.Qxb6613821aDoor
set_option linter.unusedVariables false
set_option linter.unusedSimpArgs false
open Ieee Go.RowKit

set_option maxHeartbeats 2000000 in
theorem bytes5_any (b o m cap : Nat) (go : Option Addr) (rg : Nat → Option Addr) (rl rc : Nat → Nat) (d : Nat → Nat → Nat) (w : World) (hG : GM w b o m rg rl rc d) (hgo : 0 < m → go = some ⟨b, o, none⟩) (hm : m < 9223372036854775808) :
    Calls Tryd.prog 5 #[.slice go m cap] w fun e w' => w' = w ∧ (e = .returned (.bool true) ∧ m ≤ 1048576 ∧ (∀ i, i < m → rl i ≤ 1048576) ∨ e = .returned (.bool false)) := by
  have HG : Hid (GM w b o m rg rl rc d) := hG
  have HGO : Hid (0 < m → go = some ⟨b, o, none⟩) := hgo
  clear hG hgo
  by_cases h1 : m ≤ 1048576
  · go_enter Tryd.func5, Tryd.ntmps5
    go_wp2
    go_loopw [3, 4] (fun vn vi wr => ∃ i N : Nat, vi = .int .i64 i ∧ vn = .int .i64 N ∧ i ≤ m ∧ N ≤ 1048576 ∧ wr = w ∧ Hid (∀ k, k < i → rl k ≤ 1048576)) (fun _ vi _ => m - (intOf vi).toNat)
    case atStart => exact ⟨0, m, rfl, by go_num, Nat.zero_le _, h1, rfl, fun k hk => absurd hk (by omega)⟩
    case round =>
      obtain ⟨i, N, rfl, rfl, hi, hN, rfl, HR⟩ := hrel
      by_cases hlt : i < m
      · have hgo := HGO.out (by omega)
        subst hgo
        have hr := HG.out.row i hlt
        have hlen := HG.out.len i hlt
        by_cases h2 : rl i ≤ 1048576
        · have HR2 : Hid (∀ k, k < i + 1 → rl k ≤ 1048576) := fun k hk => by
            by_cases e : k = i
            · subst e; exact h2
            · exact HR.out k (by omega)
          by_cases h3 : N + rl i ≤ 1048576
          · generalize rl i = ri at *
            go_wp2
            go_roundw
            case rel => exact ⟨i + 1, N + ri, by go_num, by go_num, by omega, h3, by first | trivial | rfl, HR2⟩
            case measure => simp [intOf]; omega
          · generalize rl i = ri at *
            go_wp2
            go_ret
            exact ⟨rfl, Or.inr rfl⟩
        · generalize rl i = ri at *
          go_wp2
          go_ret
          exact ⟨rfl, Or.inr rfl⟩
      · have HR2 : Hid (∀ k, k < m → rl k ≤ 1048576) := fun k hk => HR.out k (by omega)
        go_wp2
        go_ret
        exact ⟨rfl, Or.inl ⟨rfl, h1, HR2.out⟩⟩
  · go_enter Tryd.func5, Tryd.ntmps5
    go_wp2
    go_ret
    exact ⟨rfl, Or.inr rfl⟩
end Go.Proofs.Qxb6613821aDoor
