/- The card of IsCoterieOfLeastMaxDelay, out of the walk. -/
import Derived.Test.Qxb6613821aDoorOpenL
import Derived.Test.Qxb6613821aDoorTie
import Derived.Test.Qxb6613821aDoorCards
import Derived.SevenTiedAt
namespace Go.Proofs.Qxb6613821aDoor
set_option linter.unusedVariables false
set_option linter.unusedSimpArgs false
open Go

theorem least_holds (hF : Lawful 3) : Rows.FnShrunkOptimalCoterieIsCoterieOfLeastMaxDelaySaid :=
  OpenClaim.holds_of_wide 3 Tryd.f3 rfl rfl rfl rfl rfl rfl rfl ⟨rfl, rfl, rfl, rfl, rfl⟩ rfl rfl rfl rfl rfl (by kernel_rfl) Tryd.func3 (by kernel_rfl)
    (of_decide_eq_true (by kernel_rfl)) (by unfold Func.isWrapper; rw [if_neg (of_decide_eq_false (by kernel_rfl))]; exact ⟨rfl, rfl⟩)
    (fun os started H enc _ => least_lifted hF os started H enc)
theorem least_card (hF : Lawful 3) : Rows.FnShrunkOptimalCoterieIsCoterieOfLeastMaxDelayCardSaid :=
  Claim7.holds_tied_plain_at .later [] [.data] true (true, "91d46a849cdbb3ee6c3bcb3e704ac3f1902437f52a05f24d012a3f4b17ac25c8") false
    (least_holds hF) (fun _ h => by cases h) (by kernel_rfl) (fun _ h => by cases h) fnShrunkOptimalCoterieIsCoterieOfLeastMaxDelay_row_tie rfl ⟨rfl, rfl⟩ (by kernel_rfl) rfl
    (fun f fn hf hfn => by
      obtain rfl : f = 3 := Option.some.inj ((show Tryd.prog.funcNamed Rows.fnShrunkOptimalCoterieIsCoterieOfLeastMaxDelayRow.func = some 3 by kernel_rfl).symm.trans hf) |>.symm
      obtain rfl : fn = Tryd.f3 := (Option.some.inj (Tryd.func3.symm.trans hfn)).symm
      exact ⟨by kernel_rfl, fun j t ht => by
        rw [Tryd.params3] at ht
        have h3 : t = 22 := by
          rcases j with _ | j
          · simpa using ht.symm
          · simp at ht
        subst h3
        exact (show Tryd.prog.wantsStandIn 22 = false by kernel_rfl)⟩)
    (by kernel_rfl)
end Go.Proofs.Qxb6613821aDoor
