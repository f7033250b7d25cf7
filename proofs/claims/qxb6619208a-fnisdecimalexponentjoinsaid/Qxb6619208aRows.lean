/-
  No cell of these rows narrows 'for every input' (looked for: loops, veiled, ifaces, maps, wideKeys, modest, calm, conditions, laid).
  DERIVED. THE GIVEN ROWS OF THIS SEAT. 5 by the template 'for every input the law returns true; each argument reads behind the call as it read before'; 0 by the template 'total and deterministic' (their statements: Qxb6619208aTotals.lean).
  GIVEN WITH THE SEED: the statements are not yours to turn. If you find one false, say at which input.
  Laid BY PROGRAM, IN A SANDBOX (cutbox-rows.mjs): the forced cells as the released guide's own fill.sh prints them over the translation 85c240c17cb5811c… (all of the seat's roots in one cut). By AI agents, Wed Nov 11 2026. No macro, syntax, notation, axiom, sorry.
-/
import Derived.Test.Qxb6619208aChecked
import GoSem.Claim
import GoSem.ClaimJoined
import GoSem.ClaimMapViews
import Derived.JoinedTies
import Derived.KernelRfl
namespace Go.Proofs.Qxb6619208a
/- THE CELL 'sum', in the pinned program and in every row, IS THE sha256 OF THE DUMP (.gsa) THAT Qxb6619208aProg.lean LOADS. Nothing in Lean hashes anything: it is a label: what it is worth is what the hold of that sum in a sandbox is worth. -/
noncomputable def Try.pinned : Pinned := { name := "qxb6619208a", sum := "85c240c17cb5811c3eb9f2b28ce1429fd84d6558ca4fcaf6d43f240f05b77db9", checked := Try.checked }
namespace Rows
def none {H : Type} : Left H := { results := [], args := [] }

/-- 'zzlaws_dataset_b1.FnIsDecimalSignPrefix': WHATEVER THE INPUT: true; the input reads as it did. -/
def fnIsDecimalSignPrefixSpec : ChangeSpec := { name := "fnIsDecimalSignPrefix", fn := fun _ => fun
  | [d] => { results := [.lit (.bool true)], args := [d] }
  | _ => none }
def fnIsDecimalSignPrefixRow : OpenClaim := { program := "qxb6619208a", sum := "85c240c17cb5811c3eb9f2b28ce1429fd84d6558ca4fcaf6d43f240f05b77db9", func := "example.com/shardwright/shardwright/zzlaws_dataset_b1.FnIsDecimalSignPrefix", spec := "fnIsDecimalSignPrefix", apart := false }
def FnIsDecimalSignPrefixSaid : Prop := fnIsDecimalSignPrefixRow.holds Try.pinned (OpenSpec.ofChange fnIsDecimalSignPrefixSpec)

/-- ITS FALSE NEIGHBOUR: 'it returns false'. Refute it at one input. -/
def fnIsDecimalSignPrefixWrong : ChangeSpec := { name := "fnIsDecimalSignPrefix", fn := fun _ => fun
  | [d] => { results := [.lit (.bool false)], args := [d] }
  | _ => none }
def FnIsDecimalSignPrefixWrongFalsely : Prop := fnIsDecimalSignPrefixRow.holds Try.pinned (OpenSpec.ofChange fnIsDecimalSignPrefixWrong)

/-- 'zzlaws_dataset_b1.FnIsDecimalExponentJoin': WHATEVER THE INPUT: true; the input reads as it did. -/
def fnIsDecimalExponentJoinSpec : ChangeSpec := { name := "fnIsDecimalExponentJoin", fn := fun _ => fun
  | [d1, d2] => { results := [.lit (.bool true)], args := [d1, d2] }
  | _ => none }
def fnIsDecimalExponentJoinRow : OpenClaim := { program := "qxb6619208a", sum := "85c240c17cb5811c3eb9f2b28ce1429fd84d6558ca4fcaf6d43f240f05b77db9", func := "example.com/shardwright/shardwright/zzlaws_dataset_b1.FnIsDecimalExponentJoin", spec := "fnIsDecimalExponentJoin", apart := false }
def FnIsDecimalExponentJoinSaid : Prop := fnIsDecimalExponentJoinRow.holds Try.pinned (OpenSpec.ofChange fnIsDecimalExponentJoinSpec)

/-- ITS FALSE NEIGHBOUR: 'it returns false'. Refute it at one input. -/
def fnIsDecimalExponentJoinWrong : ChangeSpec := { name := "fnIsDecimalExponentJoin", fn := fun _ => fun
  | [d1, d2] => { results := [.lit (.bool false)], args := [d1, d2] }
  | _ => none }
def FnIsDecimalExponentJoinWrongFalsely : Prop := fnIsDecimalExponentJoinRow.holds Try.pinned (OpenSpec.ofChange fnIsDecimalExponentJoinWrong)

/-- 'zzlaws_dataset_b1.FnIsDecimalDigitInsert': WHATEVER THE INPUT: true; the input reads as it did. -/
def fnIsDecimalDigitInsertSpec : ChangeSpec := { name := "fnIsDecimalDigitInsert", fn := fun _ => fun
  | [d1, d2, d3] => { results := [.lit (.bool true)], args := [d1, d2, d3] }
  | _ => none }
def fnIsDecimalDigitInsertRow : OpenClaim := { program := "qxb6619208a", sum := "85c240c17cb5811c3eb9f2b28ce1429fd84d6558ca4fcaf6d43f240f05b77db9", func := "example.com/shardwright/shardwright/zzlaws_dataset_b1.FnIsDecimalDigitInsert", spec := "fnIsDecimalDigitInsert", apart := false }
def FnIsDecimalDigitInsertSaid : Prop := fnIsDecimalDigitInsertRow.holds Try.pinned (OpenSpec.ofChange fnIsDecimalDigitInsertSpec)

/-- ITS FALSE NEIGHBOUR: 'it returns false'. Refute it at one input. -/
def fnIsDecimalDigitInsertWrong : ChangeSpec := { name := "fnIsDecimalDigitInsert", fn := fun _ => fun
  | [d1, d2, d3] => { results := [.lit (.bool false)], args := [d1, d2, d3] }
  | _ => none }
def FnIsDecimalDigitInsertWrongFalsely : Prop := fnIsDecimalDigitInsertRow.holds Try.pinned (OpenSpec.ofChange fnIsDecimalDigitInsertWrong)

/-- 'zzlaws_dataset_b1.FnSkipDigitsJoin': WHATEVER THE INPUT: true; the input reads as it did. -/
def fnSkipDigitsJoinSpec : ChangeSpec := { name := "fnSkipDigitsJoin", fn := fun _ => fun
  | [d1, d2, d3] => { results := [.lit (.bool true)], args := [d1, d2, d3] }
  | _ => none }
def fnSkipDigitsJoinRow : OpenClaim := { program := "qxb6619208a", sum := "85c240c17cb5811c3eb9f2b28ce1429fd84d6558ca4fcaf6d43f240f05b77db9", func := "example.com/shardwright/shardwright/zzlaws_dataset_b1.FnSkipDigitsJoin", spec := "fnSkipDigitsJoin", apart := false }
def FnSkipDigitsJoinSaid : Prop := fnSkipDigitsJoinRow.holds Try.pinned (OpenSpec.ofChange fnSkipDigitsJoinSpec)

/-- ITS FALSE NEIGHBOUR: 'it returns false'. Refute it at one input. -/
def fnSkipDigitsJoinWrong : ChangeSpec := { name := "fnSkipDigitsJoin", fn := fun _ => fun
  | [d1, d2, d3] => { results := [.lit (.bool false)], args := [d1, d2, d3] }
  | _ => none }
def FnSkipDigitsJoinWrongFalsely : Prop := fnSkipDigitsJoinRow.holds Try.pinned (OpenSpec.ofChange fnSkipDigitsJoinWrong)

/-- 'zzlaws_dataset_b1.FnSkipDigitsLanding': WHATEVER THE INPUT: true; the input reads as it did. -/
def fnSkipDigitsLandingSpec : ChangeSpec := { name := "fnSkipDigitsLanding", fn := fun _ => fun
  | [d1, d2, d3] => { results := [.lit (.bool true)], args := [d1, d2, d3] }
  | _ => none }
def fnSkipDigitsLandingRow : OpenClaim := { program := "qxb6619208a", sum := "85c240c17cb5811c3eb9f2b28ce1429fd84d6558ca4fcaf6d43f240f05b77db9", func := "example.com/shardwright/shardwright/zzlaws_dataset_b1.FnSkipDigitsLanding", spec := "fnSkipDigitsLanding", apart := false }
def FnSkipDigitsLandingSaid : Prop := fnSkipDigitsLandingRow.holds Try.pinned (OpenSpec.ofChange fnSkipDigitsLandingSpec)

/-- ITS FALSE NEIGHBOUR: 'it returns false'. Refute it at one input. -/
def fnSkipDigitsLandingWrong : ChangeSpec := { name := "fnSkipDigitsLanding", fn := fun _ => fun
  | [d1, d2, d3] => { results := [.lit (.bool false)], args := [d1, d2, d3] }
  | _ => none }
def FnSkipDigitsLandingWrongFalsely : Prop := fnSkipDigitsLandingRow.holds Try.pinned (OpenSpec.ofChange fnSkipDigitsLandingWrong)

end Rows
end Go.Proofs.Qxb6619208a
