/-
  No cell of these rows narrows 'for every input' (looked for: loops, veiled, ifaces, maps, wideKeys, modest, calm, conditions, laid).
  DERIVED. THE GIVEN ROWS OF THIS SEAT. 2 by the template 'for every input the law returns true; each argument reads behind the call as it read before'; 0 by the template 'total and deterministic' (their statements: Qxb6619600aTotals.lean).
  GIVEN WITH THE SEED: the statements are not yours to turn. If you find one false, say at which input.
  Laid BY PROGRAM, IN A SANDBOX (cutbox-rows.mjs): the forced cells as the released guide's own fill.sh prints them over the translation 738f507fad4d65fb… (all of the seat's roots in one cut). By AI agents, Wed Nov 11 2026. No macro, syntax, notation, axiom, sorry.
-/
import Derived.Test.Qxb6619600aChecked
import GoSem.Claim
import GoSem.ClaimJoined
import GoSem.ClaimMapViews
import Derived.JoinedTies
import Derived.KernelRfl
namespace Go.Proofs.Qxb6619600a
/- THE CELL 'sum', in the pinned program and in every row, IS THE sha256 OF THE DUMP (.gsa) THAT Qxb6619600aProg.lean LOADS. Nothing in Lean hashes anything: it is a label: what it is worth is what the hold of that sum in a sandbox is worth. -/
noncomputable def Try.pinned : Pinned := { name := "qxb6619600a", sum := "738f507fad4d65fb9749dad1ab41bec77b09d2b341eb0c27fca6c06016037b94", checked := Try.checked }
namespace Rows
def none {H : Type} : Left H := { results := [], args := [] }

/-- 'zzlaws_link_b1.FnLowerHexCutAnywhereAndExact': WHATEVER THE INPUT: true; the input reads as it did. -/
def fnLowerHexCutAnywhereAndExactSpec : ChangeSpec := { name := "fnLowerHexCutAnywhereAndExact", fn := fun _ => fun
  | [d1, d2] => { results := [.lit (.bool true)], args := [d1, d2] }
  | _ => none }
def fnLowerHexCutAnywhereAndExactRow : OpenClaim := { program := "qxb6619600a", sum := "738f507fad4d65fb9749dad1ab41bec77b09d2b341eb0c27fca6c06016037b94", func := "example.com/tributary/tributary/zzlaws_link_b1.FnLowerHexCutAnywhereAndExact", spec := "fnLowerHexCutAnywhereAndExact", apart := false }
def FnLowerHexCutAnywhereAndExactSaid : Prop := fnLowerHexCutAnywhereAndExactRow.holds Try.pinned (OpenSpec.ofChange fnLowerHexCutAnywhereAndExactSpec)

/-- ITS FALSE NEIGHBOUR: 'it returns false'. Refute it at one input. -/
def fnLowerHexCutAnywhereAndExactWrong : ChangeSpec := { name := "fnLowerHexCutAnywhereAndExact", fn := fun _ => fun
  | [d1, d2] => { results := [.lit (.bool false)], args := [d1, d2] }
  | _ => none }
def FnLowerHexCutAnywhereAndExactWrongFalsely : Prop := fnLowerHexCutAnywhereAndExactRow.holds Try.pinned (OpenSpec.ofChange fnLowerHexCutAnywhereAndExactWrong)

/-- 'zzlaws_link_b1.FnLowerHexOneByteInsertedAnywhere': WHATEVER THE INPUT: true; the input reads as it did. -/
def fnLowerHexOneByteInsertedAnywhereSpec : ChangeSpec := { name := "fnLowerHexOneByteInsertedAnywhere", fn := fun _ => fun
  | [d1, d2, d3] => { results := [.lit (.bool true)], args := [d1, d2, d3] }
  | _ => none }
def fnLowerHexOneByteInsertedAnywhereRow : OpenClaim := { program := "qxb6619600a", sum := "738f507fad4d65fb9749dad1ab41bec77b09d2b341eb0c27fca6c06016037b94", func := "example.com/tributary/tributary/zzlaws_link_b1.FnLowerHexOneByteInsertedAnywhere", spec := "fnLowerHexOneByteInsertedAnywhere", apart := false }
def FnLowerHexOneByteInsertedAnywhereSaid : Prop := fnLowerHexOneByteInsertedAnywhereRow.holds Try.pinned (OpenSpec.ofChange fnLowerHexOneByteInsertedAnywhereSpec)

/-- ITS FALSE NEIGHBOUR: 'it returns false'. Refute it at one input. -/
def fnLowerHexOneByteInsertedAnywhereWrong : ChangeSpec := { name := "fnLowerHexOneByteInsertedAnywhere", fn := fun _ => fun
  | [d1, d2, d3] => { results := [.lit (.bool false)], args := [d1, d2, d3] }
  | _ => none }
def FnLowerHexOneByteInsertedAnywhereWrongFalsely : Prop := fnLowerHexOneByteInsertedAnywhereRow.holds Try.pinned (OpenSpec.ofChange fnLowerHexOneByteInsertedAnywhereWrong)

end Rows
end Go.Proofs.Qxb6619600a
