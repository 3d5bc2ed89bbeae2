/- The card of UnitFree, out of the walk. -/
import Derived.Test.Qxb6613821aDoorOpen
import Derived.Test.Qxb6613821aDoorTie
import Derived.Test.Qxb6613821aDoorCards
import Derived.SevenTiedAt
namespace Go.Proofs.Qxb6613821aDoor
set_option linter.unusedVariables false
set_option linter.unusedSimpArgs false
open Go

theorem unitFree_holds (hF : Lawful 4) : Rows.FnShrunkOptimalCoterieUnitFreeSaid :=
  OpenClaim.holds_of_wide 4 Tryd.f4 rfl rfl rfl rfl rfl rfl rfl ⟨rfl, rfl, rfl, rfl, rfl⟩ rfl rfl rfl rfl rfl (by kernel_rfl) Tryd.func4 (by kernel_rfl)
    (of_decide_eq_true (by kernel_rfl)) (by unfold Func.isWrapper; rw [if_neg (of_decide_eq_false (by kernel_rfl))]; exact ⟨rfl, rfl⟩)
    (fun os started H enc _ => unitFree_lifted hF os started H enc)
theorem unitFree_card (hF : Lawful 4) : Rows.FnShrunkOptimalCoterieUnitFreeCardSaid :=
  Claim7.holds_tied_plain_at .later [] [.data] true (true, "91d46a849cdbb3ee6c3bcb3e704ac3f1902437f52a05f24d012a3f4b17ac25c8") false
    (unitFree_holds hF) (fun _ h => by cases h) (by kernel_rfl) (fun _ h => by cases h) fnShrunkOptimalCoterieUnitFree_row_tie rfl ⟨rfl, rfl⟩ (by kernel_rfl) rfl
    (fun f fn hf hfn => by
      obtain rfl : f = 4 := Option.some.inj ((show Tryd.prog.funcNamed Rows.fnShrunkOptimalCoterieUnitFreeRow.func = some 4 by kernel_rfl).symm.trans hf) |>.symm
      obtain rfl : fn = Tryd.f4 := (Option.some.inj (Tryd.func4.symm.trans hfn)).symm
      exact ⟨by kernel_rfl, fun j t ht => by
        rw [Tryd.params4] at ht
        have h3 : t = 22 := by
          rcases j with _ | j
          · simpa using ht.symm
          · simp at ht
        subst h3
        exact (show Tryd.prog.wantsStandIn 22 = false by kernel_rfl)⟩)
    (by kernel_rfl)
end Go.Proofs.Qxb6613821aDoor
