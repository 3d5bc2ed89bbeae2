/- sort.Sort over *setOrder. -/
import Derived.Test.Qxb6613821aDoorSortH
namespace Go.Proofs.Qxb6613821aDoor
set_option linter.unusedVariables false
set_option linter.unusedSimpArgs false
open Ieee Go.RowKit Go.Sort Go.Lib
variable {α : Type} [Inhabited α]

def sorted (lt : α → α → Bool) (n : Nat) (d : Array α) : Array α := if n ≤ 1 then d else pdq lt d 0 n (Lib.bitLen n) true true

set_option maxHeartbeats 2000000 in
set_option maxRecDepth 100000 in
theorem sort_any {lt : α → α → Bool} (hO : SWO lt) {n : Nat} {p : Option Addr} {I : Array α → World → Prop} (E : SEnv lt n (.pointer p) I) (hn : n ≤ 65536)
    (hLen : ∀ d W, I d W → Calls Tryd.prog 115 #[.pointer p] W fun e w' => e = .returned (.int .i64 (n : Int)) ∧ Go.RowKit.Below W.heap.size W w') (d : Array α) (w : World) (hI : I d w) :
    Calls Tryd.prog 64 #[.iface 104 (.pointer p)] w fun e w' => e = .returned (.tuple #[]) ∧ I (sorted lt n d) w' := by
  have mN := mLen p
  have hC : Hid (Calls Tryd.prog 115 #[.pointer p] w fun e w' => e = .returned (.int .i64 (n : Int)) ∧ I d w') := (hLen d w hI).mono fun e w' h => ⟨h.1, E.keep d w w' hI h.2⟩
  by_cases h1 : n ≤ 1
  · have hs : sorted lt n d = d := by unfold sorted; rw [if_pos h1]
    rw [hs]
    clear hs hLen hI E
    go_enter Tryd.func64, Tryd.ntmps64
    go_wp2_with (go_at_call 115; refine hC.out.mono ?_; rintro e w1 ⟨rfl, hI1⟩)
    (try simp only [Exit.inBlock, Exit.then]); refine bodyPost_ret (results_none rfl _ _ _) rfl ?_
    exact ⟨rfl, hI1⟩
  · have hs : sorted lt n d = pdq lt d 0 n (Lib.bitLen n) true true := by unfold sorted; rw [if_neg h1]
    rw [hs]
    have hbl : Lib.bitLen n < 65536 := Nat.lt_of_le_of_lt (Lib.bitLen_le n 62 (by omega) (by omega)) (by omega)
    have HB : Hid (∀ w, Calls Tryd.prog 31 #[.int .u64 (n : Int)] w fun e w' => e = .returned (.int .i64 ((Lib.bitLen n : Nat) : Int)) ∧ w' = w) := fun w => by
      have h := Tryd.bits_Len (n : Int) w (by omega) (by omega)
      simpa using h
    have HP : Hid (∀ w, I d w → Calls Tryd.prog 76 #[.iface 104 (.pointer p), .int .i64 0, .int .i64 (n : Int), .int .i64 ((Lib.bitLen n : Nat) : Int)] w fun e w' => e = .returned (.tuple #[]) ∧ I (pdq lt d 0 n (Lib.bitLen n) true true) w') := fun w hI => by
      have h := pdqsort_any hO E hn (n + 1) 0 n (Lib.bitLen n) d w (by omega) hI (Nat.zero_le _) (Nat.le_refl _) hbl (Or.inl rfl)
      exact h
    have hwL : IntKind.u64.wrap (n : Int) = (n : Int) := by simp [IntKind.wrap, IntKind.bits, IntKind.signed]; omega
    clear hs hLen hI E
    go_enter Tryd.func64, Tryd.ntmps64
    go_wp2_with (first
      | (go_at_call 115; refine hC.out.mono ?_; rintro e w1 ⟨rfl, hI1⟩)
      | (go_at_call 31; refine (HB.out _).mono ?_; rintro e w' ⟨rfl, hw'⟩; rw [hw']; clear hw')
      | (go_at_call 76; refine (HP.out _ hI1).mono ?_; rintro e w2 ⟨rfl, hI2⟩))
    go_end0
    exact ⟨rfl, hI2⟩
end Go.Proofs.Qxb6613821aDoor
