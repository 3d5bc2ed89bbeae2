/- Swap of *setOrder. -/
import Derived.Test.Qxb6613821aDoorKeys
namespace Go.Proofs.Qxb6613821aDoor
set_option linter.unusedVariables false
set_option linter.unusedSimpArgs false
open Ieee Go.RowKit Go.Sort Go.Lib

set_option maxHeartbeats 8000000 in
theorem swap_any {W0 : World} {wb kb bb sb n wd M : Nat} {bt sz : Nat → Nat} (hn : n ≤ 256) (hkb : wb ≠ kb) (d : Array Nat) (W : World) (h : KeysAt W0 wb kb bb sb n wd M bt sz d W) (i j : Nat) (hi : i < n) (hj : j < n) :
    Calls Tryd.prog 117 #[.pointer (some ⟨wb, 1, none⟩), .int .i64 (i : Int), .int .i64 (j : Int)] W fun e w' => e = .returned (.tuple #[]) ∧ ∃ k, w' = ((((((W.setCell ⟨kb, i * 3, none⟩ (.int .i64 (sz d[j]! : Int))).setCell ⟨kb, i * 3 + 1, none⟩ (.int .u64 (bt (d[j]! * wd) : Int))).setCell ⟨kb, i * 3 + 2, none⟩ (.int .i64 (d[j]! : Int))).setCell ⟨kb, j * 3, none⟩ (.int .i64 (sz d[i]! : Int))).setCell ⟨kb, j * 3 + 1, none⟩ (.int .u64 (bt (d[i]! * wd) : Int))).setCell ⟨kb, j * 3 + 2, none⟩ (.int .i64 (d[i]! : Int))).drewN k := by
  have h3 := h.f3
  have hlt : kb < W.heap.size := h.row.lt
  have hfr : ∀ o, W.frozen? ⟨kb, o, none⟩ = false := fun o => h.row.frozen o
  have ki0 : W.cell? ⟨kb, i * 3, none⟩ = some (.int .i64 (sz d[i]! : Int)) := by rw [h.row.cell (by omega)]; simp [kc]
  have kj0 : W.cell? ⟨kb, j * 3, none⟩ = some (.int .i64 (sz d[j]! : Int)) := by rw [h.row.cell (by omega)]; simp [kc]
  have ki1 : W.cell? ⟨kb, i * 3 + 1, none⟩ = some (.int .u64 (bt (d[i]! * wd) : Int)) := by rw [h.row.cell (by omega)]; simp [kc, Nat.add_mod, show (i * 3 + 1) / 3 = i from by omega]
  have kj1 : W.cell? ⟨kb, j * 3 + 1, none⟩ = some (.int .u64 (bt (d[j]! * wd) : Int)) := by rw [h.row.cell (by omega)]; simp [kc, Nat.add_mod, show (j * 3 + 1) / 3 = j from by omega]
  have ki2 : W.cell? ⟨kb, i * 3 + 2, none⟩ = some (.int .i64 (d[i]! : Int)) := by rw [h.row.cell (by omega)]; simp [kc, Nat.add_mod, show (i * 3 + 2) / 3 = i from by omega]
  have kj2 : W.cell? ⟨kb, j * 3 + 2, none⟩ = some (.int .i64 (d[j]! : Int)) := by rw [h.row.cell (by omega)]; simp [kc, Nat.add_mod, show (j * 3 + 2) / 3 = j from by omega]
  clear h
  by_cases e : i = j
  · subst e
    clear kj0 kj1 kj2
    generalize d[i]! = q at *
    generalize sz q = sa at *
    generalize bt (q * wd) = fa at *
    go_enter Tryd.func117, Tryd.ntmps117
    go_wp2
    go_region
    all_goals
      go_wp2
      go_end0
      exact ⟨rfl, 1, rfl⟩
  · have n1 : ¬ i * 3 = j * 3 := by omega
    have n2 : ¬ i * 3 = j * 3 + 1 := by omega
    have n3 : ¬ i * 3 = j * 3 + 2 := by omega
    have n4 : ¬ i * 3 + 1 = j * 3 := by omega
    have n5 : ¬ i * 3 + 2 = j * 3 := by omega
    have n6 : ¬ i * 3 + 1 = j * 3 + 2 := by omega
    have n7 : ¬ i * 3 + 2 = j * 3 + 1 := by omega
    have n8 : ¬ i * 3 + 1 = j * 3 + 1 := by omega
    have n9 : ¬ i * 3 + 2 = j * 3 + 2 := by omega
    have m1 : ¬ j * 3 = i * 3 := by omega
    have m2 : ¬ j * 3 = i * 3 + 1 := by omega
    have m3 : ¬ j * 3 = i * 3 + 2 := by omega
    have m4 : ¬ j * 3 + 1 = i * 3 := by omega
    have m5 : ¬ j * 3 + 2 = i * 3 := by omega
    have m6 : ¬ j * 3 + 1 = i * 3 + 2 := by omega
    have m7 : ¬ j * 3 + 2 = i * 3 + 1 := by omega
    have m8 : ¬ j * 3 + 1 = i * 3 + 1 := by omega
    have m9 : ¬ j * 3 + 2 = i * 3 + 2 := by omega
    have e' : ¬ j = i := by omega
    generalize d[i]! = q at *
    generalize d[j]! = r at *
    generalize sz q = sa at *
    generalize sz r = sb' at *
    generalize bt (q * wd) = fa at *
    generalize bt (r * wd) = fb at *
    go_enter Tryd.func117, Tryd.ntmps117
    go_wp2
    go_region
    all_goals
      go_wp2
      go_end0
      exact ⟨rfl, 1, rfl⟩
end Go.Proofs.Qxb6613821aDoor
