/- The order of the sets. -/
import Derived.Test.Qxb6613821aDoorKeys5
import Derived.Laws.MakeOwn
namespace Go.Proofs.Qxb6613821aDoor
set_option linter.unusedVariables false
set_option linter.unusedSimpArgs false
open Ieee Go.RowKit Go.Sort Go.Lib

theorem info107 : (Tryd.prog.info? 107).map (fun i => (i.zero, i.size, i.bytes)) = some (some (.agg #[.int .i64 0, .int .u64 0, .int .i64 0]), 3, 24) := by kernel_rfl
abbrev zk : Array Value := #[.int .i64 0, .int .u64 0, .int .i64 0]
theorem reuseKey_any (n : Nat) (h0 : 0 < n) (hn : n ≤ 65536) (w : World) :
    Calls Tryd.prog 63 #[.slice none 0 0, .int .i64 (n : Int)] w fun e w' => e = .returned (.slice (some ⟨w.heap.size, 0, none⟩) n n) ∧ w' = w.alloc (.cells (madeCells zk (n * 3)) 107) := by
  have hmk : ∀ w : World, (Instr.makeSlice 57 (.int .i64 (n : Int)) (.int .i64 (n : Int))).run Tryd.prog w = .ok (.slice (some ⟨w.heap.size, 0, none⟩) n n) (w.alloc (.cells (madeCells zk (n * 3)) 107)) := fun w => by
    obtain ⟨i, hi, hz, hs, hb⟩ := info_parts info107
    have hr := run_make (P := Tryd.prog) w 57 107 i _ Tryd.underlying57 hi hz .i64 .i64 n n (by omega) (Int.le_refl _) (by rw [hb]; omega) (by omega)
    simp only [Int.toNat_natCast, hs] at hr
    exact hr
  go_enter Tryd.func63, Tryd.ntmps63
  go_wp2
  go_ret
  exact ⟨rfl, rfl⟩
end Go.Proofs.Qxb6613821aDoor
