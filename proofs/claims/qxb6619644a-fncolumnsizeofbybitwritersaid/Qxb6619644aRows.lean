/-
  No cell of these rows narrows 'for every input' (looked for: loops, veiled, ifaces, maps, wideKeys, modest, calm, conditions, laid).
  DERIVED. THE GIVEN ROWS OF THIS SEAT. 4 by the template 'for every input the law returns true; each argument reads behind the call as it read before'; 0 by the template 'total and deterministic' (their statements: Qxb6619644aTotals.lean).
  GIVEN WITH THE SEED: the statements are not yours to turn. If you find one false, say at which input.
  Laid BY PROGRAM, IN A SANDBOX (cutbox-rows.mjs): the forced cells as the released guide's own fill.sh prints them over the translation 73d183712776ac76… (all of the seat's roots in one cut). By AI agents, Wed Nov 11 2026. No macro, syntax, notation, axiom, sorry.
-/
import Derived.Test.Qxb6619644aChecked
import GoSem.Claim
import GoSem.ClaimJoined
import GoSem.ClaimMapViews
import Derived.JoinedTies
import Derived.KernelRfl
namespace Go.Proofs.Qxb6619644a
/- THE CELL 'sum', in the pinned program and in every row, IS THE sha256 OF THE DUMP (.gsa) THAT Qxb6619644aProg.lean LOADS. Nothing in Lean hashes anything: it is a label: what it is worth is what the hold of that sum in a sandbox is worth. -/
noncomputable def Try.pinned : Pinned := { name := "qxb6619644a", sum := "73d183712776ac764455ba438d3e8dcdd560b32616c21286526d7a98c3b2e241", checked := Try.checked }
namespace Rows
def none {H : Type} : Left H := { results := [], args := [] }

/-- 'zzlaws_internal_coding_b1.FnDecimalFitAtExact': WHATEVER THE INPUT: true; the input reads as it did. -/
def fnDecimalFitAtExactSpec : ChangeSpec := { name := "fnDecimalFitAtExact", fn := fun _ => fun
  | [d1, d2, d3, d4] => { results := [.lit (.bool true)], args := [d1, d2, d3, d4] }
  | _ => none }
def fnDecimalFitAtExactRow : OpenClaim := { program := "qxb6619644a", sum := "73d183712776ac764455ba438d3e8dcdd560b32616c21286526d7a98c3b2e241", func := "example.com/chronolith/chronolith/zzlaws_internal_coding_b1.FnDecimalFitAtExact", spec := "fnDecimalFitAtExact", apart := false }
def FnDecimalFitAtExactSaid : Prop := fnDecimalFitAtExactRow.holds Try.pinned (OpenSpec.ofChange fnDecimalFitAtExactSpec)

/-- ITS FALSE NEIGHBOUR: 'it returns false'. Refute it at one input. -/
def fnDecimalFitAtExactWrong : ChangeSpec := { name := "fnDecimalFitAtExact", fn := fun _ => fun
  | [d1, d2, d3, d4] => { results := [.lit (.bool false)], args := [d1, d2, d3, d4] }
  | _ => none }
def FnDecimalFitAtExactWrongFalsely : Prop := fnDecimalFitAtExactRow.holds Try.pinned (OpenSpec.ofChange fnDecimalFitAtExactWrong)

/-- 'zzlaws_internal_coding_b1.FnDecimalFitAtLadder': WHATEVER THE INPUT: true; the input reads as it did. -/
def fnDecimalFitAtLadderSpec : ChangeSpec := { name := "fnDecimalFitAtLadder", fn := fun _ => fun
  | [d1, d2, d3, d4] => { results := [.lit (.bool true)], args := [d1, d2, d3, d4] }
  | _ => none }
def fnDecimalFitAtLadderRow : OpenClaim := { program := "qxb6619644a", sum := "73d183712776ac764455ba438d3e8dcdd560b32616c21286526d7a98c3b2e241", func := "example.com/chronolith/chronolith/zzlaws_internal_coding_b1.FnDecimalFitAtLadder", spec := "fnDecimalFitAtLadder", apart := false }
def FnDecimalFitAtLadderSaid : Prop := fnDecimalFitAtLadderRow.holds Try.pinned (OpenSpec.ofChange fnDecimalFitAtLadderSpec)

/-- ITS FALSE NEIGHBOUR: 'it returns false'. Refute it at one input. -/
def fnDecimalFitAtLadderWrong : ChangeSpec := { name := "fnDecimalFitAtLadder", fn := fun _ => fun
  | [d1, d2, d3, d4] => { results := [.lit (.bool false)], args := [d1, d2, d3, d4] }
  | _ => none }
def FnDecimalFitAtLadderWrongFalsely : Prop := fnDecimalFitAtLadderRow.holds Try.pinned (OpenSpec.ofChange fnDecimalFitAtLadderWrong)

/-- 'zzlaws_internal_coding_b1.FnBitWriterWriteSplitAndModel': WHATEVER THE INPUT: true; the input reads as it did. -/
def fnBitWriterWriteSplitAndModelSpec : ChangeSpec := { name := "fnBitWriterWriteSplitAndModel", fn := fun _ => fun
  | [d1, d2, d3, d4, d5, d6] => { results := [.lit (.bool true)], args := [d1, d2, d3, d4, d5, d6] }
  | _ => none }
def fnBitWriterWriteSplitAndModelRow : OpenClaim := { program := "qxb6619644a", sum := "73d183712776ac764455ba438d3e8dcdd560b32616c21286526d7a98c3b2e241", func := "example.com/chronolith/chronolith/zzlaws_internal_coding_b1.FnBitWriterWriteSplitAndModel", spec := "fnBitWriterWriteSplitAndModel", recurses := true, apart := false }
def FnBitWriterWriteSplitAndModelSaid : Prop := fnBitWriterWriteSplitAndModelRow.holds Try.pinned (OpenSpec.ofChange fnBitWriterWriteSplitAndModelSpec)

/-- ITS FALSE NEIGHBOUR: 'it returns false'. Refute it at one input. -/
def fnBitWriterWriteSplitAndModelWrong : ChangeSpec := { name := "fnBitWriterWriteSplitAndModel", fn := fun _ => fun
  | [d1, d2, d3, d4, d5, d6] => { results := [.lit (.bool false)], args := [d1, d2, d3, d4, d5, d6] }
  | _ => none }
def FnBitWriterWriteSplitAndModelWrongFalsely : Prop := fnBitWriterWriteSplitAndModelRow.holds Try.pinned (OpenSpec.ofChange fnBitWriterWriteSplitAndModelWrong)

/-- 'zzlaws_internal_coding_b1.FnColumnSizeOfByBitWriter': WHATEVER THE INPUT: true; the input reads as it did. -/
def fnColumnSizeOfByBitWriterSpec : ChangeSpec := { name := "fnColumnSizeOfByBitWriter", fn := fun _ => fun
  | [d1, d2, d3, d4, d5] => { results := [.lit (.bool true)], args := [d1, d2, d3, d4, d5] }
  | _ => none }
def fnColumnSizeOfByBitWriterRow : OpenClaim := { program := "qxb6619644a", sum := "73d183712776ac764455ba438d3e8dcdd560b32616c21286526d7a98c3b2e241", func := "example.com/chronolith/chronolith/zzlaws_internal_coding_b1.FnColumnSizeOfByBitWriter", spec := "fnColumnSizeOfByBitWriter", unfollowed := true, recurses := true, apart := false }
def FnColumnSizeOfByBitWriterSaid : Prop := fnColumnSizeOfByBitWriterRow.holds Try.pinned (OpenSpec.ofChange fnColumnSizeOfByBitWriterSpec)

/-- ITS FALSE NEIGHBOUR: 'it returns false'. Refute it at one input. -/
def fnColumnSizeOfByBitWriterWrong : ChangeSpec := { name := "fnColumnSizeOfByBitWriter", fn := fun _ => fun
  | [d1, d2, d3, d4, d5] => { results := [.lit (.bool false)], args := [d1, d2, d3, d4, d5] }
  | _ => none }
def FnColumnSizeOfByBitWriterWrongFalsely : Prop := fnColumnSizeOfByBitWriterRow.holds Try.pinned (OpenSpec.ofChange fnColumnSizeOfByBitWriterWrong)

end Rows
end Go.Proofs.Qxb6619644a
