/-
  No cell of these rows narrows 'for every input' (looked for: loops, veiled, ifaces, maps, wideKeys, modest, calm, conditions, laid).
  DERIVED. THE GIVEN ROWS OF THIS SEAT. 2 by the template 'for every input the law returns true; each argument reads behind the call as it read before'; 0 by the template 'total and deterministic' (their statements: Qxb6629092aTotals.lean).
  GIVEN WITH THE SEED: the statements are not yours to turn. If you find one false, say at which input.
  Laid BY PROGRAM, IN A SANDBOX (cutbox-rows.mjs): the forced cells as the released guide's own fill.sh prints them over the translation 08a4015831d18a74… (all of the seat's roots in one cut). By AI agents, Wed Nov 11 2026. No macro, syntax, notation, axiom, sorry.
-/
import Derived.Test.Qxb6629092aChecked
import GoSem.Claim
import GoSem.ClaimJoined
import GoSem.ClaimMapViews
import Derived.JoinedTies
import Derived.KernelRfl
namespace Go.Proofs.Qxb6629092a
/- THE CELL 'sum', in the pinned program and in every row, IS THE sha256 OF THE DUMP (.gsa) THAT Qxb6629092aProg.lean LOADS. Nothing in Lean hashes anything: it is a label: what it is worth is what the hold of that sum in a sandbox is worth. -/
noncomputable def Try.pinned : Pinned := { name := "qxb6629092a", sum := "08a4015831d18a74ed5a3e9393cffb2c98757b832a1d2b43758b4b2ebb23bacb", checked := Try.checked }
namespace Rows
def none {H : Type} : Left H := { results := [], args := [] }

/-- 'zzlaws_jsonfile_b1.FnPlainIsPaddedDecimal': WHATEVER THE INPUT: true; the input reads as it did. -/
def fnPlainIsPaddedDecimalSpec : ChangeSpec := { name := "fnPlainIsPaddedDecimal", fn := fun _ => fun
  | [d1, d2] => { results := [.lit (.bool true)], args := [d1, d2] }
  | _ => none }
def fnPlainIsPaddedDecimalRow : OpenClaim := { program := "qxb6629092a", sum := "08a4015831d18a74ed5a3e9393cffb2c98757b832a1d2b43758b4b2ebb23bacb", func := "example.com/vestbook/vestbook/zzlaws_jsonfile_b1.FnPlainIsPaddedDecimal", spec := "fnPlainIsPaddedDecimal", apart := false }
def FnPlainIsPaddedDecimalSaid : Prop := fnPlainIsPaddedDecimalRow.holds Try.pinned (OpenSpec.ofChange fnPlainIsPaddedDecimalSpec)

/-- ITS FALSE NEIGHBOUR: 'it returns false'. Refute it at one input. -/
def fnPlainIsPaddedDecimalWrong : ChangeSpec := { name := "fnPlainIsPaddedDecimal", fn := fun _ => fun
  | [d1, d2] => { results := [.lit (.bool false)], args := [d1, d2] }
  | _ => none }
def FnPlainIsPaddedDecimalWrongFalsely : Prop := fnPlainIsPaddedDecimalRow.holds Try.pinned (OpenSpec.ofChange fnPlainIsPaddedDecimalWrong)

/-- 'zzlaws_jsonfile_b1.FnPlainSplitsAtAnyCut': WHATEVER THE INPUT: true; the input reads as it did. -/
def fnPlainSplitsAtAnyCutSpec : ChangeSpec := { name := "fnPlainSplitsAtAnyCut", fn := fun _ => fun
  | [d1, d2, d3] => { results := [.lit (.bool true)], args := [d1, d2, d3] }
  | _ => none }
def fnPlainSplitsAtAnyCutRow : OpenClaim := { program := "qxb6629092a", sum := "08a4015831d18a74ed5a3e9393cffb2c98757b832a1d2b43758b4b2ebb23bacb", func := "example.com/vestbook/vestbook/zzlaws_jsonfile_b1.FnPlainSplitsAtAnyCut", spec := "fnPlainSplitsAtAnyCut", apart := false }
def FnPlainSplitsAtAnyCutSaid : Prop := fnPlainSplitsAtAnyCutRow.holds Try.pinned (OpenSpec.ofChange fnPlainSplitsAtAnyCutSpec)

/-- ITS FALSE NEIGHBOUR: 'it returns false'. Refute it at one input. -/
def fnPlainSplitsAtAnyCutWrong : ChangeSpec := { name := "fnPlainSplitsAtAnyCut", fn := fun _ => fun
  | [d1, d2, d3] => { results := [.lit (.bool false)], args := [d1, d2, d3] }
  | _ => none }
def FnPlainSplitsAtAnyCutWrongFalsely : Prop := fnPlainSplitsAtAnyCutRow.holds Try.pinned (OpenSpec.ofChange fnPlainSplitsAtAnyCutWrong)

end Rows
end Go.Proofs.Qxb6629092a
