/-
  No cell of these rows narrows 'for every input' (looked for: loops, veiled, ifaces, maps, wideKeys, modest, calm, conditions, laid).
  DERIVED. THE GIVEN ROWS OF THIS SEAT. 2 by the template 'for every input the law returns true; each argument reads behind the call as it read before'; 0 by the template 'total and deterministic' (their statements: Qxb6628251aTotals.lean).
  GIVEN WITH THE SEED: the statements are not yours to turn. If you find one false, say at which input.
  Laid BY PROGRAM, IN A SANDBOX (cutbox-rows.mjs): the forced cells as the released guide's own fill.sh prints them over the translation 6631cea5f5b9874e… (all of the seat's roots in one cut). By AI agents, Wed Nov 11 2026. No macro, syntax, notation, axiom, sorry.
-/
import Derived.Test.Qxb6628251aChecked
import GoSem.Claim
import GoSem.ClaimJoined
import GoSem.ClaimMapViews
import Derived.JoinedTies
import Derived.KernelRfl
namespace Go.Proofs.Qxb6628251a
/- THE CELL 'sum', in the pinned program and in every row, IS THE sha256 OF THE DUMP (.gsa) THAT Qxb6628251aProg.lean LOADS. Nothing in Lean hashes anything: it is a label: what it is worth is what the hold of that sum in a sandbox is worth. -/
noncomputable def Try.pinned : Pinned := { name := "qxb6628251a", sum := "6631cea5f5b9874e6dc30e5f32e884e2574677460ef8d07a902f008670cfa6e5", checked := Try.checked }
namespace Rows
def none {H : Type} : Left H := { results := [], args := [] }

/-- 'zzlaws_internal_auth_b1.FnChallengeStringReadsBackAsItsFields': WHATEVER THE INPUT: true; the input reads as it did. -/
def fnChallengeStringReadsBackAsItsFieldsSpec : ChangeSpec := { name := "fnChallengeStringReadsBackAsItsFields", fn := fun _ => fun
  | [d1, d2, d3, d4, d5, d6] => { results := [.lit (.bool true)], args := [d1, d2, d3, d4, d5, d6] }
  | _ => none }
def fnChallengeStringReadsBackAsItsFieldsRow : OpenClaim := { program := "qxb6628251a", sum := "6631cea5f5b9874e6dc30e5f32e884e2574677460ef8d07a902f008670cfa6e5", func := "example.com/waved-through/waved-through/zzlaws_internal_auth_b1.FnChallengeStringReadsBackAsItsFields", spec := "fnChallengeStringReadsBackAsItsFields", inPlace := ["internal/abi.NoEscape", "internal/bytealg.MakeNoZero"], apart := false }
def FnChallengeStringReadsBackAsItsFieldsSaid : Prop := fnChallengeStringReadsBackAsItsFieldsRow.holds Try.pinned (OpenSpec.ofChange fnChallengeStringReadsBackAsItsFieldsSpec)

/-- ITS FALSE NEIGHBOUR: 'it returns false'. Refute it at one input. -/
def fnChallengeStringReadsBackAsItsFieldsWrong : ChangeSpec := { name := "fnChallengeStringReadsBackAsItsFields", fn := fun _ => fun
  | [d1, d2, d3, d4, d5, d6] => { results := [.lit (.bool false)], args := [d1, d2, d3, d4, d5, d6] }
  | _ => none }
def FnChallengeStringReadsBackAsItsFieldsWrongFalsely : Prop := fnChallengeStringReadsBackAsItsFieldsRow.holds Try.pinned (OpenSpec.ofChange fnChallengeStringReadsBackAsItsFieldsWrong)

/-- 'zzlaws_internal_auth_b1.FnChallengeStringScopeListSplitsAtAnyCut': WHATEVER THE INPUT: true; the input reads as it did. -/
def fnChallengeStringScopeListSplitsAtAnyCutSpec : ChangeSpec := { name := "fnChallengeStringScopeListSplitsAtAnyCut", fn := fun _ => fun
  | [d1, d2, d3, d4, d5, d6, d7, d8, d9] => { results := [.lit (.bool true)], args := [d1, d2, d3, d4, d5, d6, d7, d8, d9] }
  | _ => none }
def fnChallengeStringScopeListSplitsAtAnyCutRow : OpenClaim := { program := "qxb6628251a", sum := "6631cea5f5b9874e6dc30e5f32e884e2574677460ef8d07a902f008670cfa6e5", func := "example.com/waved-through/waved-through/zzlaws_internal_auth_b1.FnChallengeStringScopeListSplitsAtAnyCut", spec := "fnChallengeStringScopeListSplitsAtAnyCut", inPlace := ["internal/abi.NoEscape", "internal/bytealg.MakeNoZero"], apart := false }
def FnChallengeStringScopeListSplitsAtAnyCutSaid : Prop := fnChallengeStringScopeListSplitsAtAnyCutRow.holds Try.pinned (OpenSpec.ofChange fnChallengeStringScopeListSplitsAtAnyCutSpec)

/-- ITS FALSE NEIGHBOUR: 'it returns false'. Refute it at one input. -/
def fnChallengeStringScopeListSplitsAtAnyCutWrong : ChangeSpec := { name := "fnChallengeStringScopeListSplitsAtAnyCut", fn := fun _ => fun
  | [d1, d2, d3, d4, d5, d6, d7, d8, d9] => { results := [.lit (.bool false)], args := [d1, d2, d3, d4, d5, d6, d7, d8, d9] }
  | _ => none }
def FnChallengeStringScopeListSplitsAtAnyCutWrongFalsely : Prop := fnChallengeStringScopeListSplitsAtAnyCutRow.holds Try.pinned (OpenSpec.ofChange fnChallengeStringScopeListSplitsAtAnyCutWrong)

end Rows
end Go.Proofs.Qxb6628251a
