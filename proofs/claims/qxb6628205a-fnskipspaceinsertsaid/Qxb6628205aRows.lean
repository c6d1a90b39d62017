/-
  No cell of these rows narrows 'for every input' (looked for: loops, veiled, ifaces, maps, wideKeys, modest, calm, conditions, laid).
  DERIVED. THE GIVEN ROWS OF THIS SEAT. 2 by the template 'for every input the law returns true; each argument reads behind the call as it read before'; 0 by the template 'total and deterministic' (their statements: Qxb6628205aTotals.lean).
  GIVEN WITH THE SEED: the statements are not yours to turn. If you find one false, say at which input.
  Laid BY PROGRAM, IN A SANDBOX (cutbox-rows.mjs): the forced cells as the released guide's own fill.sh prints them over the translation a9c11d5cc2220969… (all of the seat's roots in one cut). By AI agents, Wed Nov 11 2026. No macro, syntax, notation, axiom, sorry.
-/
import Derived.Test.Qxb6628205aChecked
import GoSem.Claim
import GoSem.ClaimJoined
import GoSem.ClaimMapViews
import Derived.JoinedTies
import Derived.KernelRfl
namespace Go.Proofs.Qxb6628205a
/- THE CELL 'sum', in the pinned program and in every row, IS THE sha256 OF THE DUMP (.gsa) THAT Qxb6628205aProg.lean LOADS. Nothing in Lean hashes anything: it is a label: what it is worth is what the hold of that sum in a sandbox is worth. -/
noncomputable def Try.pinned : Pinned := { name := "qxb6628205a", sum := "a9c11d5cc2220969cc73d8889609252b4da3d6e7da33a0f00498592e66dbd534", checked := Try.checked }
namespace Rows
def none {H : Type} : Left H := { results := [], args := [] }

/-- 'zzlaws_internal_strictjson_b1.FnSkipSpaceCut': WHATEVER THE INPUT: true; the input reads as it did. -/
def fnSkipSpaceCutSpec : ChangeSpec := { name := "fnSkipSpaceCut", fn := fun _ => fun
  | [d1, d2, d3] => { results := [.lit (.bool true)], args := [d1, d2, d3] }
  | _ => none }
def fnSkipSpaceCutRow : OpenClaim := { program := "qxb6628205a", sum := "a9c11d5cc2220969cc73d8889609252b4da3d6e7da33a0f00498592e66dbd534", func := "example.com/grantmoat/grantmoat/zzlaws_internal_strictjson_b1.FnSkipSpaceCut", spec := "fnSkipSpaceCut", apart := false }
def FnSkipSpaceCutSaid : Prop := fnSkipSpaceCutRow.holds Try.pinned (OpenSpec.ofChange fnSkipSpaceCutSpec)

/-- ITS FALSE NEIGHBOUR: 'it returns false'. Refute it at one input. -/
def fnSkipSpaceCutWrong : ChangeSpec := { name := "fnSkipSpaceCut", fn := fun _ => fun
  | [d1, d2, d3] => { results := [.lit (.bool false)], args := [d1, d2, d3] }
  | _ => none }
def FnSkipSpaceCutWrongFalsely : Prop := fnSkipSpaceCutRow.holds Try.pinned (OpenSpec.ofChange fnSkipSpaceCutWrong)

/-- 'zzlaws_internal_strictjson_b1.FnSkipSpaceInsert': WHATEVER THE INPUT: true; the input reads as it did. -/
def fnSkipSpaceInsertSpec : ChangeSpec := { name := "fnSkipSpaceInsert", fn := fun _ => fun
  | [d1, d2, d3, d4] => { results := [.lit (.bool true)], args := [d1, d2, d3, d4] }
  | _ => none }
def fnSkipSpaceInsertRow : OpenClaim := { program := "qxb6628205a", sum := "a9c11d5cc2220969cc73d8889609252b4da3d6e7da33a0f00498592e66dbd534", func := "example.com/grantmoat/grantmoat/zzlaws_internal_strictjson_b1.FnSkipSpaceInsert", spec := "fnSkipSpaceInsert", apart := false }
def FnSkipSpaceInsertSaid : Prop := fnSkipSpaceInsertRow.holds Try.pinned (OpenSpec.ofChange fnSkipSpaceInsertSpec)

/-- ITS FALSE NEIGHBOUR: 'it returns false'. Refute it at one input. -/
def fnSkipSpaceInsertWrong : ChangeSpec := { name := "fnSkipSpaceInsert", fn := fun _ => fun
  | [d1, d2, d3, d4] => { results := [.lit (.bool false)], args := [d1, d2, d3, d4] }
  | _ => none }
def FnSkipSpaceInsertWrongFalsely : Prop := fnSkipSpaceInsertRow.holds Try.pinned (OpenSpec.ofChange fnSkipSpaceInsertWrong)

end Rows
end Go.Proofs.Qxb6628205a
