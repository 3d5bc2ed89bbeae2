/- FnShrunkOptimalCoterieIsCoterieOfLeastMaxDelay: the card. -/
import Derived.Test.Qxb6613821aDoorProg
import Derived.Test.Qxb6613821aDoorChecked
import Derived.Test.Qxb6613821aDoorIsCot
import Derived.Test.Qxb6613821aDoorCardL
namespace Go.Proofs.Qxb6613821aDoor
set_option linter.unusedVariables false
set_option linter.unusedSimpArgs false
open Go Go.RowKit

theorem maxLen_lt3 : maxLen < 9223372036854775808 := by decide
theorem least_lawful : Lawful 3 := fun W go m cap b o rg rl rc d hm hgo hrow hel htab =>
  isCot_any b o m cap go rg rl rc d W
    ⟨fun i hi => (hrow i hi).1, fun i j hi hj => (hel i j hi hj).2, fun i hi => Nat.lt_of_le_of_lt (Nat.le_trans (hrow i hi).2.1 (hrow i hi).2.2) maxLen_lt3, fun i hi => (hrow i hi).2.1⟩
    hgo (Nat.lt_of_le_of_lt hm maxLen_lt3) (fun i j hi hj => (hel i j hi hj).1) (fun j hj => htab j hj)
theorem least_proved : Rows.FnShrunkOptimalCoterieIsCoterieOfLeastMaxDelayCardSaid := least_card least_lawful
end Go.Proofs.Qxb6613821aDoor
