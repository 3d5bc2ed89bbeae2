/-
  DERIVED. GIVEN WITH THE SEED: THE CARDS: each row of Qxb6613821aDoorRows.lean that lists a variable, with what it lists TIED to the program's text (the seventh form; the later family's looks); each row that meets fmt, with fmt's text TOLD by the authors' own Lean function (tested against real Go, not proved from fmt's source: count such statements apart). THE CARD IS WHAT COUNTS. Prove the row's statement (the work); the ties are given (Qxb6613821aDoorTie.lean); close each card by the builder's one call (the guide's Derived/Test/ToyasCard.lean, 'card_holds'). Laid BY PROGRAM, IN A SANDBOX (cutbox-door.mjs). By AI agents, Wed Nov 11 2026. No macro, syntax, notation, axiom, sorry.
-/
import Derived.Test.Qxb6613821aDoorRows
import GoSem.ClaimSeven
namespace Go.Proofs.Qxb6613821aDoor
namespace Rows

/-- THE TIED CARD OF 'zzlaws_root_b1.FnShrunkOptimalCoterieIsCoterieOfLeastMaxDelay'. -/
def fnShrunkOptimalCoterieIsCoterieOfLeastMaxDelayCard : Claim7 := { stood := { row := fnShrunkOptimalCoterieIsCoterieOfLeastMaxDelayRow, standIns := [], harness := (true, "91d46a849cdbb3ee6c3bcb3e704ac3f1902437f52a05f24d012a3f4b17ac25c8"), looks := false }, kinds := [], alts := [], laidByText := true, laidKinds := [.data], laidTests := true, laidLooks := .later }
def FnShrunkOptimalCoterieIsCoterieOfLeastMaxDelayCardSaid : Prop := Claim7.holds Tryd.pinned (.plain (OpenSpec.ofChange fnShrunkOptimalCoterieIsCoterieOfLeastMaxDelaySpec)) fnShrunkOptimalCoterieIsCoterieOfLeastMaxDelayCard

/-- THE TIED CARD OF 'zzlaws_root_b1.FnShrunkOptimalCoterieUnitFree'. -/
def fnShrunkOptimalCoterieUnitFreeCard : Claim7 := { stood := { row := fnShrunkOptimalCoterieUnitFreeRow, standIns := [], harness := (true, "91d46a849cdbb3ee6c3bcb3e704ac3f1902437f52a05f24d012a3f4b17ac25c8"), looks := false }, kinds := [], alts := [], laidByText := true, laidKinds := [.data], laidTests := true, laidLooks := .later }
def FnShrunkOptimalCoterieUnitFreeCardSaid : Prop := Claim7.holds Tryd.pinned (.plain (OpenSpec.ofChange fnShrunkOptimalCoterieUnitFreeSpec)) fnShrunkOptimalCoterieUnitFreeCard
end Rows
end Go.Proofs.Qxb6613821aDoor
