/-
  No cell of these rows narrows 'for every input' (looked for: loops, veiled, ifaces, maps, wideKeys, modest, calm, conditions, laid).
  DERIVED. THE GIVEN ROWS OF THIS SEAT. 4 by the template 'for every input the law returns true; each argument reads behind the call as it read before'; 0 by the template 'total and deterministic' (their statements: Qxb6619201aTotals.lean).
  GIVEN WITH THE SEED: the statements are not yours to turn. If you find one false, say at which input.
  Laid BY PROGRAM, IN A SANDBOX (cutbox-rows.mjs): the forced cells as the released guide's own fill.sh prints them over the translation 1a87e0899ce3afac… (all of the seat's roots in one cut). By AI agents, Wed Nov 11 2026. No macro, syntax, notation, axiom, sorry.
-/
import Derived.Test.Qxb6619201aChecked
import GoSem.Claim
import GoSem.ClaimJoined
import GoSem.ClaimMapViews
import Derived.JoinedTies
import Derived.KernelRfl
namespace Go.Proofs.Qxb6619201a
/- THE CELL 'sum', in the pinned program and in every row, IS THE sha256 OF THE DUMP (.gsa) THAT Qxb6619201aProg.lean LOADS. Nothing in Lean hashes anything: it is a label: what it is worth is what the hold of that sum in a sandbox is worth. -/
noncomputable def Try.pinned : Pinned := { name := "qxb6619201a", sum := "1a87e0899ce3afacb49924871ff9c928165a7b17d4f534b05799e380cecfd37c", checked := Try.checked }
namespace Rows
def none {H : Type} : Left H := { results := [], args := [] }

/-- 'zzlaws_root_b1.FnSplitWordsMaximalRuns': WHATEVER THE INPUT: true; the input reads as it did. -/
def fnSplitWordsMaximalRunsSpec : ChangeSpec := { name := "fnSplitWordsMaximalRuns", fn := fun _ => fun
  | [d1, d2] => { results := [.lit (.bool true)], args := [d1, d2] }
  | _ => none }
def fnSplitWordsMaximalRunsRow : OpenClaim := { program := "qxb6619201a", sum := "1a87e0899ce3afacb49924871ff9c928165a7b17d4f534b05799e380cecfd37c", func := "example.com/crossbook/crossbook/zzlaws_root_b1.FnSplitWordsMaximalRuns", spec := "fnSplitWordsMaximalRuns", apart := false }
def FnSplitWordsMaximalRunsSaid : Prop := fnSplitWordsMaximalRunsRow.holds Try.pinned (OpenSpec.ofChange fnSplitWordsMaximalRunsSpec)

/-- ITS FALSE NEIGHBOUR: 'it returns false'. Refute it at one input. -/
def fnSplitWordsMaximalRunsWrong : ChangeSpec := { name := "fnSplitWordsMaximalRuns", fn := fun _ => fun
  | [d1, d2] => { results := [.lit (.bool false)], args := [d1, d2] }
  | _ => none }
def FnSplitWordsMaximalRunsWrongFalsely : Prop := fnSplitWordsMaximalRunsRow.holds Try.pinned (OpenSpec.ofChange fnSplitWordsMaximalRunsWrong)

/-- 'zzlaws_root_b1.FnSplitWordsAnyBufferSameLine': WHATEVER THE INPUT: true; the input reads as it did. -/
def fnSplitWordsAnyBufferSameLineSpec : ChangeSpec := { name := "fnSplitWordsAnyBufferSameLine", fn := fun _ => fun
  | [d1, d2, d3] => { results := [.lit (.bool true)], args := [d1, d2, d3] }
  | _ => none }
def fnSplitWordsAnyBufferSameLineRow : OpenClaim := { program := "qxb6619201a", sum := "1a87e0899ce3afacb49924871ff9c928165a7b17d4f534b05799e380cecfd37c", func := "example.com/crossbook/crossbook/zzlaws_root_b1.FnSplitWordsAnyBufferSameLine", spec := "fnSplitWordsAnyBufferSameLine", apart := false }
def FnSplitWordsAnyBufferSameLineSaid : Prop := fnSplitWordsAnyBufferSameLineRow.holds Try.pinned (OpenSpec.ofChange fnSplitWordsAnyBufferSameLineSpec)

/-- ITS FALSE NEIGHBOUR: 'it returns false'. Refute it at one input. -/
def fnSplitWordsAnyBufferSameLineWrong : ChangeSpec := { name := "fnSplitWordsAnyBufferSameLine", fn := fun _ => fun
  | [d1, d2, d3] => { results := [.lit (.bool false)], args := [d1, d2, d3] }
  | _ => none }
def FnSplitWordsAnyBufferSameLineWrongFalsely : Prop := fnSplitWordsAnyBufferSameLineRow.holds Try.pinned (OpenSpec.ofChange fnSplitWordsAnyBufferSameLineWrong)

/-- 'zzlaws_root_b1.FnValidSymbolBytewiseAndNumerals': WHATEVER THE INPUT: true; the input reads as it did. -/
def fnValidSymbolBytewiseAndNumeralsSpec : ChangeSpec := { name := "fnValidSymbolBytewiseAndNumerals", fn := fun _ => fun
  | [d1, d2] => { results := [.lit (.bool true)], args := [d1, d2] }
  | _ => none }
def fnValidSymbolBytewiseAndNumeralsRow : OpenClaim := { program := "qxb6619201a", sum := "1a87e0899ce3afacb49924871ff9c928165a7b17d4f534b05799e380cecfd37c", func := "example.com/crossbook/crossbook/zzlaws_root_b1.FnValidSymbolBytewiseAndNumerals", spec := "fnValidSymbolBytewiseAndNumerals", apart := false }
def FnValidSymbolBytewiseAndNumeralsSaid : Prop := fnValidSymbolBytewiseAndNumeralsRow.holds Try.pinned (OpenSpec.ofChange fnValidSymbolBytewiseAndNumeralsSpec)

/-- ITS FALSE NEIGHBOUR: 'it returns false'. Refute it at one input. -/
def fnValidSymbolBytewiseAndNumeralsWrong : ChangeSpec := { name := "fnValidSymbolBytewiseAndNumerals", fn := fun _ => fun
  | [d1, d2] => { results := [.lit (.bool false)], args := [d1, d2] }
  | _ => none }
def FnValidSymbolBytewiseAndNumeralsWrongFalsely : Prop := fnValidSymbolBytewiseAndNumeralsRow.holds Try.pinned (OpenSpec.ofChange fnValidSymbolBytewiseAndNumeralsWrong)

/-- 'zzlaws_root_b1.FnIdTableGetFindsExactlyStored': WHATEVER THE INPUT: true; the input reads as it did. -/
def fnIdTableGetFindsExactlyStoredSpec : ChangeSpec := { name := "fnIdTableGetFindsExactlyStored", fn := fun _ => fun
  | [d1, d2, d3, d4] => { results := [.lit (.bool true)], args := [d1, d2, d3, d4] }
  | _ => none }
def fnIdTableGetFindsExactlyStoredRow : OpenClaim := { program := "qxb6619201a", sum := "1a87e0899ce3afacb49924871ff9c928165a7b17d4f534b05799e380cecfd37c", func := "example.com/crossbook/crossbook/zzlaws_root_b1.FnIdTableGetFindsExactlyStored", spec := "fnIdTableGetFindsExactlyStored", apart := false }
def FnIdTableGetFindsExactlyStoredSaid : Prop := fnIdTableGetFindsExactlyStoredRow.holds Try.pinned (OpenSpec.ofChange fnIdTableGetFindsExactlyStoredSpec)

/-- ITS FALSE NEIGHBOUR: 'it returns false'. Refute it at one input. -/
def fnIdTableGetFindsExactlyStoredWrong : ChangeSpec := { name := "fnIdTableGetFindsExactlyStored", fn := fun _ => fun
  | [d1, d2, d3, d4] => { results := [.lit (.bool false)], args := [d1, d2, d3, d4] }
  | _ => none }
def FnIdTableGetFindsExactlyStoredWrongFalsely : Prop := fnIdTableGetFindsExactlyStoredRow.holds Try.pinned (OpenSpec.ofChange fnIdTableGetFindsExactlyStoredWrong)

end Rows
end Go.Proofs.Qxb6619201a
