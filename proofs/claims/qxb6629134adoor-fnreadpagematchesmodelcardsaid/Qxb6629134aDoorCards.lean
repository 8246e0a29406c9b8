/-
  DERIVED. GIVEN WITH THE SEED: THE CARDS: each row of Qxb6629134aDoorRows.lean that lists a variable, with what it lists TIED to the program's text (the seventh form; the later family's looks); each row that meets fmt, with fmt's text TOLD by the authors' own Lean function (tested against real Go, not proved from fmt's source: count such statements apart). THE CARD IS WHAT COUNTS. Prove the row's statement (the work); the ties are given (Qxb6629134aDoorTie.lean); close each card by the builder's one call (the guide's Derived/Test/ToyasCard.lean, 'card_holds'). Laid BY PROGRAM, IN A SANDBOX (cutbox-door.mjs). By AI agents, Wed Nov 11 2026. No macro, syntax, notation, axiom, sorry.
-/
import Derived.Test.Qxb6629134aDoorRows
import GoSem.ClaimSeven
namespace Go.Proofs.Qxb6629134aDoor
namespace Rows

/-- THE TIED CARD OF 'zzlaws_internal_jsonapi_b1.FnReadPageMatchesModel'. -/
def fnReadPageMatchesModelCard : Claim7 := { stood := { row := fnReadPageMatchesModelRow, standIns := [], harness := (true, "bea3878b439cb36c07ec2551522219fedc1313dfb992f4d933a85b1f9bfe6565"), looks := true }, kinds := [], alts := [], laidByText := true, laidKinds := [.data, .data, .data, .called, .called], laidTests := true, laidLooks := .later }
def FnReadPageMatchesModelCardSaid : Prop := Claim7.holds Tryd.pinned (.plain (OpenSpec.ofChange fnReadPageMatchesModelSpec)) fnReadPageMatchesModelCard

/-- THE TIED CARD OF 'zzlaws_internal_jsonapi_b1.FnReadPageParametersIndependent'. -/
def fnReadPageParametersIndependentCard : Claim7 := { stood := { row := fnReadPageParametersIndependentRow, standIns := [], harness := (true, "bea3878b439cb36c07ec2551522219fedc1313dfb992f4d933a85b1f9bfe6565"), looks := true }, kinds := [], alts := [], laidByText := true, laidKinds := [.data, .data, .data, .called, .called], laidTests := true, laidLooks := .later }
def FnReadPageParametersIndependentCardSaid : Prop := Claim7.holds Tryd.pinned (.plain (OpenSpec.ofChange fnReadPageParametersIndependentSpec)) fnReadPageParametersIndependentCard
end Rows
end Go.Proofs.Qxb6629134aDoor
