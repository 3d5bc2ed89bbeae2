import Derived.Test.Qxb6613043aRows
import Derived.WalkKit
import Derived.WalkLawsBesides
import Derived.ProofKit
import Derived.ShutString
import Derived.Deep.RegionWith
namespace Go.Proofs.Qxb6613043a

theorem extBits (b : Nat) (w : World) : (callFunc 19 #[.float .f64 b]).run Try.prog w = .ok (.value (.int .u64 b)) w := by
  rw [run_callFunc_extern (e := Extern.MathFloatBits.float64bits) Try.func19 (by kernel_rfl) (by kernel_rfl) (by kernel_rfl) (by kernel_rfl)]
  rfl
theorem extFrom (n : Int) (w : World) : (callFunc 20 #[.int .u64 n]).run Try.prog w = .ok (.value (.float .f64 n.toNat)) w := by
  rw [run_callFunc_extern (e := Extern.MathFloatBits.float64frombits) Try.func20 (by kernel_rfl) (by kernel_rfl) (by kernel_rfl) (by kernel_rfl)]
  rfl

theorem new_any (w : World) : Calls Try.prog 6 #[] w fun e w' => e = .returned (.pointer (some ⟨w.heap.size, 0, none⟩)) ∧ w' = w.alloc (.cells #[.int .u64 0] 38) := by
  go_enter Try.func6, Try.ntmps6
  go_wp2
  go_ret
  exact ⟨rfl, rfl⟩

theorem uStore_any (b off : Nat) (x n : Int) (w : World) (h0 : w.cell? ⟨b, off, none⟩ = some (.int .u64 x)) (f0 : w.frozen? ⟨b, off, none⟩ = false) :
    Calls Try.prog 18 #[.pointer (some ⟨b, off, none⟩), .int .u64 n] w fun e w' => e = .returned (.tuple #[]) ∧ w' = w.setCell ⟨b, off, none⟩ (.int .u64 n) := by
  have hst := run_call_store (P := Try.prog) Try.func23 (by kernel_rfl) (by kernel_rfl) (by kernel_rfl) (by kernel_rfl) (y := n) (k := .u64) h0 f0
  go_enter Try.func18, Try.ntmps18
  go_wp2
  go_end0
  exact ⟨rfl, rfl⟩

theorem uLoad_any (b off : Nat) (x : Int) (w : World) (h0 : w.cell? ⟨b, off, none⟩ = some (.int .u64 x)) :
    Calls Try.prog 21 #[.pointer (some ⟨b, off, none⟩)] w fun e w' => e = .returned (.int .u64 x) ∧ w' = w := by
  have hld := run_call_load (P := Try.prog) Try.func24 (by kernel_rfl) (by kernel_rfl) (by kernel_rfl) .u64 (by kernel_rfl) h0
  go_enter Try.func21, Try.ntmps21
  go_wp2
  go_ret
  exact ⟨rfl, rfl⟩

theorem uCas_any (b off : Nat) (x n : Int) (w : World) (h0 : w.cell? ⟨b, off, none⟩ = some (.int .u64 x)) (f0 : w.frozen? ⟨b, off, none⟩ = false) :
    Calls Try.prog 22 #[.pointer (some ⟨b, off, none⟩), .int .u64 x, .int .u64 n] w fun e w' => e = .returned (.bool true) ∧ w' = w.setCell ⟨b, off, none⟩ (.int .u64 n) := by
  have hst := run_call_cas_hit (P := Try.prog) Try.func25 (by kernel_rfl) (by kernel_rfl) (by kernel_rfl) .u64 (by kernel_rfl) (y := n) h0 f0
  go_enter Try.func22, Try.ntmps22
  go_wp2
  go_ret
  exact ⟨rfl, rfl⟩

theorem load_any (b off : Nat) (x : Nat) (w : World) (h0 : w.cell? ⟨b, off, none⟩ = some (.int .u64 x)) :
    Calls Try.prog 16 #[.pointer (some ⟨b, off, none⟩)] w fun e w' => e = .returned (.float .f64 x) ∧ w' = w := by
  have hx : ∀ w, (callFunc 20 #[.int .u64 (x : Int)]).run Try.prog w = .ok (.value (.float .f64 x)) w := fun w => extFrom x w
  go_enter Try.func16, Try.ntmps16
  go_wp2_with (go_at_call 21; refine (uLoad_any _ _ _ _ h0).mono ?_; rintro e w' ⟨rfl, rfl⟩)
  go_ret
  exact ⟨rfl, rfl⟩

theorem store_any (b off : Nat) (x : Int) (n : Nat) (w : World) (h0 : w.cell? ⟨b, off, none⟩ = some (.int .u64 x)) (f0 : w.frozen? ⟨b, off, none⟩ = false) :
    Calls Try.prog 15 #[.pointer (some ⟨b, off, none⟩), .float .f64 n] w fun e w' => e = .returned (.tuple #[]) ∧ w' = w.drew.setCell ⟨b, off, none⟩ (.int .u64 n) := by
  have hx := extBits n
  go_enter Try.func15, Try.ntmps15
  go_region_with (go_at_call 18; refine (uStore_any b off x n _ ?_ ?_).mono ?_; (simpa using h0); (simpa using f0); rintro e w' ⟨rfl, rfl⟩)
  all_goals go_wp2
  all_goals go_end0
  all_goals exact ⟨rfl, rfl⟩

theorem zzStore_any (b off : Nat) (x : Int) (n : Nat) (w : World) (h0 : w.cell? ⟨b, off, none⟩ = some (.int .u64 x)) (f0 : w.frozen? ⟨b, off, none⟩ = false) :
    Calls Try.prog 7 #[.pointer (some ⟨b, off, none⟩), .float .f64 n] w fun e w' => e = .returned (.tuple #[]) ∧ w' = w.drew.setCell ⟨b, off, none⟩ (.int .u64 n) := by
  go_enter Try.func7, Try.ntmps7
  go_wp2_with (go_at_call 15; refine (store_any _ _ _ _ _ h0 f0).mono ?_; rintro e w' ⟨rfl, rfl⟩)
  go_end0
  exact ⟨rfl, rfl⟩

theorem zzLoad_any (b off : Nat) (x : Nat) (w : World) (h0 : w.cell? ⟨b, off, none⟩ = some (.int .u64 x)) :
    Calls Try.prog 9 #[.pointer (some ⟨b, off, none⟩)] w fun e w' => e = .returned (.float .f64 x) ∧ w' = w := by
  go_enter Try.func9, Try.ntmps9
  go_wp2_with (go_at_call 16; refine (load_any _ _ _ _ h0).mono ?_; rintro e w' ⟨rfl, rfl⟩)
  go_ret
  exact ⟨rfl, rfl⟩
end Go.Proofs.Qxb6613043a
