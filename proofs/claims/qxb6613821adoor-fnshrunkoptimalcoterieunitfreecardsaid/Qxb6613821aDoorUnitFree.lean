/- FnShrunkOptimalCoterieUnitFree: the card. -/
import Derived.Test.Qxb6613821aDoorProg
import Derived.Test.Qxb6613821aDoorChecked
import Derived.Test.Qxb6613821aDoorFree
import Derived.Test.Qxb6613821aDoorCardU
namespace Go.Proofs.Qxb6613821aDoor
set_option linter.unusedVariables false
set_option linter.unusedSimpArgs false
open Go Go.RowKit

theorem maxLen_lt : maxLen < 9223372036854775808 := by decide
theorem free_lawful : Lawful 4 := fun W go m cap b o rg rl rc d hm hgo hrow hel htab =>
  free_any b o m cap go rg rl rc d W
    ⟨fun i hi => (hrow i hi).1, fun i j hi hj => (hel i j hi hj).2, fun i hi => Nat.lt_of_le_of_lt (Nat.le_trans (hrow i hi).2.1 (hrow i hi).2.2) maxLen_lt, fun i hi => (hrow i hi).2.1⟩
    hgo (Nat.lt_of_le_of_lt hm maxLen_lt) (fun i j hi hj => (hel i j hi hj).1) (fun j hj => htab j hj)
theorem unitFree_proved : Rows.FnShrunkOptimalCoterieUnitFreeCardSaid := unitFree_card free_lawful
end Go.Proofs.Qxb6613821aDoor
