/-
  No cell of these rows narrows 'for every input' (looked for: loops, veiled, ifaces, maps, wideKeys, modest, calm, conditions, laid).
  DERIVED. THE GIVEN ROWS OF THIS SEAT. 2 by the template 'for every input the law returns true; each argument reads behind the call as it read before'; 0 by the template 'total and deterministic' (their statements: Qxb6628287aTotals.lean).
  GIVEN WITH THE SEED: the statements are not yours to turn. If you find one false, say at which input.
  Laid BY PROGRAM, IN A SANDBOX (cutbox-rows.mjs): the forced cells as the released guide's own fill.sh prints them over the translation 83186d6a9ff7c186… (all of the seat's roots in one cut). By AI agents, Wed Nov 11 2026. No macro, syntax, notation, axiom, sorry.
-/
import Derived.Test.Qxb6628287aChecked
import GoSem.Claim
import GoSem.ClaimJoined
import GoSem.ClaimMapViews
import Derived.JoinedTies
import Derived.KernelRfl
namespace Go.Proofs.Qxb6628287a
/- THE CELL 'sum', in the pinned program and in every row, IS THE sha256 OF THE DUMP (.gsa) THAT Qxb6628287aProg.lean LOADS. Nothing in Lean hashes anything: it is a label: what it is worth is what the hold of that sum in a sandbox is worth. -/
noncomputable def Try.pinned : Pinned := { name := "qxb6628287a", sum := "83186d6a9ff7c186d3719ee27833d38c37aff359672a2ba88f447d32c2ff7202", checked := Try.checked }
namespace Rows
def none {H : Type} : Left H := { results := [], args := [] }

/-- 'zzlaws_internal_jsonscan_b1.FnLiteralIsSkipThenExactMatch': WHATEVER THE INPUT: true; the input reads as it did. -/
def fnLiteralIsSkipThenExactMatchSpec : ChangeSpec := { name := "fnLiteralIsSkipThenExactMatch", fn := fun _ => fun
  | [d1, d2, d3] => { results := [.lit (.bool true)], args := [d1, d2, d3] }
  | _ => none }
def fnLiteralIsSkipThenExactMatchRow : OpenClaim := { program := "qxb6628287a", sum := "83186d6a9ff7c186d3719ee27833d38c37aff359672a2ba88f447d32c2ff7202", func := "example.com/tenderline/tenderline/zzlaws_internal_jsonscan_b1.FnLiteralIsSkipThenExactMatch", spec := "fnLiteralIsSkipThenExactMatch", apart := false }
def FnLiteralIsSkipThenExactMatchSaid : Prop := fnLiteralIsSkipThenExactMatchRow.holds Try.pinned (OpenSpec.ofChange fnLiteralIsSkipThenExactMatchSpec)

/-- ITS FALSE NEIGHBOUR: 'it returns false'. Refute it at one input. -/
def fnLiteralIsSkipThenExactMatchWrong : ChangeSpec := { name := "fnLiteralIsSkipThenExactMatch", fn := fun _ => fun
  | [d1, d2, d3] => { results := [.lit (.bool false)], args := [d1, d2, d3] }
  | _ => none }
def FnLiteralIsSkipThenExactMatchWrongFalsely : Prop := fnLiteralIsSkipThenExactMatchRow.holds Try.pinned (OpenSpec.ofChange fnLiteralIsSkipThenExactMatchWrong)

/-- 'zzlaws_internal_jsonscan_b1.FnLiteralReadsBackItsOwnText': WHATEVER THE INPUT: true; the input reads as it did. -/
def fnLiteralReadsBackItsOwnTextSpec : ChangeSpec := { name := "fnLiteralReadsBackItsOwnText", fn := fun _ => fun
  | [d1, d2, d3] => { results := [.lit (.bool true)], args := [d1, d2, d3] }
  | _ => none }
def fnLiteralReadsBackItsOwnTextRow : OpenClaim := { program := "qxb6628287a", sum := "83186d6a9ff7c186d3719ee27833d38c37aff359672a2ba88f447d32c2ff7202", func := "example.com/tenderline/tenderline/zzlaws_internal_jsonscan_b1.FnLiteralReadsBackItsOwnText", spec := "fnLiteralReadsBackItsOwnText", apart := false }
def FnLiteralReadsBackItsOwnTextSaid : Prop := fnLiteralReadsBackItsOwnTextRow.holds Try.pinned (OpenSpec.ofChange fnLiteralReadsBackItsOwnTextSpec)

/-- ITS FALSE NEIGHBOUR: 'it returns false'. Refute it at one input. -/
def fnLiteralReadsBackItsOwnTextWrong : ChangeSpec := { name := "fnLiteralReadsBackItsOwnText", fn := fun _ => fun
  | [d1, d2, d3] => { results := [.lit (.bool false)], args := [d1, d2, d3] }
  | _ => none }
def FnLiteralReadsBackItsOwnTextWrongFalsely : Prop := fnLiteralReadsBackItsOwnTextRow.holds Try.pinned (OpenSpec.ofChange fnLiteralReadsBackItsOwnTextWrong)

end Rows
end Go.Proofs.Qxb6628287a
