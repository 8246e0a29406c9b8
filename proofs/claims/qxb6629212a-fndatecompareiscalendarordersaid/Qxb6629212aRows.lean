/-
  No cell of these rows narrows 'for every input' (looked for: loops, veiled, ifaces, maps, wideKeys, modest, calm, conditions, laid).
  DERIVED. THE GIVEN ROWS OF THIS SEAT. 2 by the template 'for every input the law returns true; each argument reads behind the call as it read before'; 0 by the template 'total and deterministic' (their statements: Qxb6629212aTotals.lean).
  GIVEN WITH THE SEED: the statements are not yours to turn. If you find one false, say at which input.
  Laid BY PROGRAM, IN A SANDBOX (cutbox-rows.mjs): the forced cells as the released guide's own fill.sh prints them over the translation 2c2c23e1c0a13fb6… (all of the seat's roots in one cut). By AI agents, Wed Nov 11 2026. No macro, syntax, notation, axiom, sorry.
-/
import Derived.Test.Qxb6629212aChecked
import GoSem.Claim
import GoSem.ClaimJoined
import GoSem.ClaimMapViews
import Derived.JoinedTies
import Derived.KernelRfl
namespace Go.Proofs.Qxb6629212a
/- THE CELL 'sum', in the pinned program and in every row, IS THE sha256 OF THE DUMP (.gsa) THAT Qxb6629212aProg.lean LOADS. Nothing in Lean hashes anything: it is a label: what it is worth is what the hold of that sum in a sandbox is worth. -/
noncomputable def Try.pinned : Pinned := { name := "qxb6629212a", sum := "2c2c23e1c0a13fb60965431f8fff40d7a7913a779a17ac98086f342345e1954f", checked := Try.checked }
namespace Rows
def none {H : Type} : Left H := { results := [], args := [] }

/-- 'zzlaws_root_b1.FnDateCompareIsCalendarOrder': WHATEVER THE INPUT: true; the input reads as it did. -/
def fnDateCompareIsCalendarOrderSpec : ChangeSpec := { name := "fnDateCompareIsCalendarOrder", fn := fun _ => fun
  | [d1, d2] => { results := [.lit (.bool true)], args := [d1, d2] }
  | _ => none }
def fnDateCompareIsCalendarOrderRow : OpenClaim := { program := "qxb6629212a", sum := "2c2c23e1c0a13fb60965431f8fff40d7a7913a779a17ac98086f342345e1954f", func := "example.com/rikin/rikin/zzlaws_root_b1.FnDateCompareIsCalendarOrder", spec := "fnDateCompareIsCalendarOrder", apart := false }
def FnDateCompareIsCalendarOrderSaid : Prop := fnDateCompareIsCalendarOrderRow.holds Try.pinned (OpenSpec.ofChange fnDateCompareIsCalendarOrderSpec)

/-- ITS FALSE NEIGHBOUR: 'it returns false'. Refute it at one input. -/
def fnDateCompareIsCalendarOrderWrong : ChangeSpec := { name := "fnDateCompareIsCalendarOrder", fn := fun _ => fun
  | [d1, d2] => { results := [.lit (.bool false)], args := [d1, d2] }
  | _ => none }
def FnDateCompareIsCalendarOrderWrongFalsely : Prop := fnDateCompareIsCalendarOrderRow.holds Try.pinned (OpenSpec.ofChange fnDateCompareIsCalendarOrderWrong)

/-- 'zzlaws_root_b1.FnDateCompareNoDateBetweenNeighbours': WHATEVER THE INPUT: true; the input reads as it did. -/
def fnDateCompareNoDateBetweenNeighboursSpec : ChangeSpec := { name := "fnDateCompareNoDateBetweenNeighbours", fn := fun _ => fun
  | [d1, d2] => { results := [.lit (.bool true)], args := [d1, d2] }
  | _ => none }
def fnDateCompareNoDateBetweenNeighboursRow : OpenClaim := { program := "qxb6629212a", sum := "2c2c23e1c0a13fb60965431f8fff40d7a7913a779a17ac98086f342345e1954f", func := "example.com/rikin/rikin/zzlaws_root_b1.FnDateCompareNoDateBetweenNeighbours", spec := "fnDateCompareNoDateBetweenNeighbours", apart := false }
def FnDateCompareNoDateBetweenNeighboursSaid : Prop := fnDateCompareNoDateBetweenNeighboursRow.holds Try.pinned (OpenSpec.ofChange fnDateCompareNoDateBetweenNeighboursSpec)

/-- ITS FALSE NEIGHBOUR: 'it returns false'. Refute it at one input. -/
def fnDateCompareNoDateBetweenNeighboursWrong : ChangeSpec := { name := "fnDateCompareNoDateBetweenNeighbours", fn := fun _ => fun
  | [d1, d2] => { results := [.lit (.bool false)], args := [d1, d2] }
  | _ => none }
def FnDateCompareNoDateBetweenNeighboursWrongFalsely : Prop := fnDateCompareNoDateBetweenNeighboursRow.holds Try.pinned (OpenSpec.ofChange fnDateCompareNoDateBetweenNeighboursWrong)

end Rows
end Go.Proofs.Qxb6629212a
