/-
  No cell of these rows narrows 'for every input' (looked for: loops, veiled, ifaces, maps, wideKeys, modest, calm, conditions, laid).
  DERIVED. THE GIVEN ROWS OF THIS SEAT. 2 by the template 'for every input the law returns true; each argument reads behind the call as it read before'; 0 by the template 'total and deterministic' (their statements: Qxb6629167aTotals.lean).
  GIVEN WITH THE SEED: the statements are not yours to turn. If you find one false, say at which input.
  Laid BY PROGRAM, IN A SANDBOX (cutbox-rows.mjs): the forced cells as the released guide's own fill.sh prints them over the translation e86546b5a0bd8132… (all of the seat's roots in one cut). By AI agents, Wed Nov 11 2026. No macro, syntax, notation, axiom, sorry.
-/
import Derived.Test.Qxb6629167aChecked
import GoSem.Claim
import GoSem.ClaimJoined
import GoSem.ClaimMapViews
import Derived.JoinedTies
import Derived.KernelRfl
namespace Go.Proofs.Qxb6629167a
/- THE CELL 'sum', in the pinned program and in every row, IS THE sha256 OF THE DUMP (.gsa) THAT Qxb6629167aProg.lean LOADS. Nothing in Lean hashes anything: it is a label: what it is worth is what the hold of that sum in a sandbox is worth. -/
noncomputable def Try.pinned : Pinned := { name := "qxb6629167a", sum := "e86546b5a0bd8132f4cec38719af26c3df0f9c583e0d63d8265d6683e9acb590", checked := Try.checked }
namespace Rows
def none {H : Type} : Left H := { results := [], args := [] }

/-- 'zzlaws_pkg_money_b1.FnAppendPackedRoundTrip': WHATEVER THE INPUT: true; the input reads as it did. -/
def fnAppendPackedRoundTripSpec : ChangeSpec := { name := "fnAppendPackedRoundTrip", fn := fun _ => fun
  | [d1, d2] => { results := [.lit (.bool true)], args := [d1, d2] }
  | _ => none }
def fnAppendPackedRoundTripRow : OpenClaim := { program := "qxb6629167a", sum := "e86546b5a0bd8132f4cec38719af26c3df0f9c583e0d63d8265d6683e9acb590", func := "example.com/clearcount/clearcount/zzlaws_pkg_money_b1.FnAppendPackedRoundTrip", spec := "fnAppendPackedRoundTrip", apart := false }
def FnAppendPackedRoundTripSaid : Prop := fnAppendPackedRoundTripRow.holds Try.pinned (OpenSpec.ofChange fnAppendPackedRoundTripSpec)

/-- ITS FALSE NEIGHBOUR: 'it returns false'. Refute it at one input. -/
def fnAppendPackedRoundTripWrong : ChangeSpec := { name := "fnAppendPackedRoundTrip", fn := fun _ => fun
  | [d1, d2] => { results := [.lit (.bool false)], args := [d1, d2] }
  | _ => none }
def FnAppendPackedRoundTripWrongFalsely : Prop := fnAppendPackedRoundTripRow.holds Try.pinned (OpenSpec.ofChange fnAppendPackedRoundTripWrong)

/-- 'zzlaws_pkg_money_b1.FnAppendPackedKeepsAmountOrder': WHATEVER THE INPUT: true; the input reads as it did. -/
def fnAppendPackedKeepsAmountOrderSpec : ChangeSpec := { name := "fnAppendPackedKeepsAmountOrder", fn := fun _ => fun
  | [d1, d2, d3] => { results := [.lit (.bool true)], args := [d1, d2, d3] }
  | _ => none }
def fnAppendPackedKeepsAmountOrderRow : OpenClaim := { program := "qxb6629167a", sum := "e86546b5a0bd8132f4cec38719af26c3df0f9c583e0d63d8265d6683e9acb590", func := "example.com/clearcount/clearcount/zzlaws_pkg_money_b1.FnAppendPackedKeepsAmountOrder", spec := "fnAppendPackedKeepsAmountOrder", apart := false }
def FnAppendPackedKeepsAmountOrderSaid : Prop := fnAppendPackedKeepsAmountOrderRow.holds Try.pinned (OpenSpec.ofChange fnAppendPackedKeepsAmountOrderSpec)

/-- ITS FALSE NEIGHBOUR: 'it returns false'. Refute it at one input. -/
def fnAppendPackedKeepsAmountOrderWrong : ChangeSpec := { name := "fnAppendPackedKeepsAmountOrder", fn := fun _ => fun
  | [d1, d2, d3] => { results := [.lit (.bool false)], args := [d1, d2, d3] }
  | _ => none }
def FnAppendPackedKeepsAmountOrderWrongFalsely : Prop := fnAppendPackedKeepsAmountOrderRow.holds Try.pinned (OpenSpec.ofChange fnAppendPackedKeepsAmountOrderWrong)

end Rows
end Go.Proofs.Qxb6629167a
