/-
  No cell of these rows narrows 'for every input' (looked for: loops, veiled, ifaces, maps, wideKeys, modest, calm, conditions, laid).
  DERIVED. THE GIVEN ROWS OF THIS SEAT. 2 by the template 'for every input the law returns true; each argument reads behind the call as it read before'; 0 by the template 'total and deterministic' (their statements: Qxb6630554aFmtTotals.lean).
  GIVEN WITH THE SEED: the statements are not yours to turn. If you find one false, say at which input.
  Laid BY PROGRAM, IN A SANDBOX (cutbox-rows.mjs): the forced cells as the released guide's own fill.sh prints them over the translation 9a88540e1fd9e197… (all of the seat's roots in one cut). By AI agents, Wed Nov 11 2026. No macro, syntax, notation, axiom, sorry.
-/
import Derived.Test.Qxb6630554aFmtChecked
import GoSem.Claim
import GoSem.ClaimJoined
import GoSem.ClaimMapViews
import Derived.JoinedTies
import Derived.KernelRfl
namespace Go.Proofs.Qxb6630554aFmt
/- THE CELL 'sum', in the pinned program and in every row, IS THE sha256 OF THE DUMP (.gsa) THAT Qxb6630554aFmtProg.lean LOADS. Nothing in Lean hashes anything: it is a label: what it is worth is what the hold of that sum in a sandbox is worth. -/
noncomputable def Tryf.pinned : Pinned := { name := "qxb6630554afmt", sum := "9a88540e1fd9e197e0e944786eefcfe86e3d4fa29d25370e8526ae9c40a3a112", checked := Tryf.checked }
namespace Rows
def none {H : Type} : Left H := { results := [], args := [] }

/-- 'zzlaws_root_b1.FnStringReadsBackAndNegates': WHATEVER THE INPUT: true; the input reads as it did. -/
def fnStringReadsBackAndNegatesSpec : ChangeSpec := { name := "fnStringReadsBackAndNegates", fn := fun _ => fun
  | [d] => { results := [.lit (.bool true)], args := [d] }
  | _ => none }
def fnStringReadsBackAndNegatesRow : OpenClaim := { program := "qxb6630554afmt", sum := "9a88540e1fd9e197e0e944786eefcfe86e3d4fa29d25370e8526ae9c40a3a112", func := "example.com/armslength/armslength/zzlaws_root_b1.FnStringReadsBackAndNegates", spec := "fnStringReadsBackAndNegates", stops := ["fmt.Sprintf"], inPlace := ["fmt.Sprintf"], apart := false }
/-- NO THEOREM (fmt's text is open here; it may be false): for the released tool's asking of the row's closed facts alone. THE STATEMENT IS 'FnStringReadsBackAndNegatesToldSaid' (Qxb6630554aFmtCards.lean). -/
def FnStringReadsBackAndNegatesFormAsk : Prop := fnStringReadsBackAndNegatesRow.holds Tryf.pinned (OpenSpec.ofChange fnStringReadsBackAndNegatesSpec)

/-- ITS FALSE NEIGHBOUR: 'it returns false'. Refute it at one input. -/
def fnStringReadsBackAndNegatesWrong : ChangeSpec := { name := "fnStringReadsBackAndNegates", fn := fun _ => fun
  | [d] => { results := [.lit (.bool false)], args := [d] }
  | _ => none }
def FnStringReadsBackAndNegatesWrongFormAsk : Prop := fnStringReadsBackAndNegatesRow.holds Tryf.pinned (OpenSpec.ofChange fnStringReadsBackAndNegatesWrong)

/-- 'zzlaws_root_b1.FnStringSplitsYuanAndFen': WHATEVER THE INPUT: true; the input reads as it did. -/
def fnStringSplitsYuanAndFenSpec : ChangeSpec := { name := "fnStringSplitsYuanAndFen", fn := fun _ => fun
  | [d] => { results := [.lit (.bool true)], args := [d] }
  | _ => none }
def fnStringSplitsYuanAndFenRow : OpenClaim := { program := "qxb6630554afmt", sum := "9a88540e1fd9e197e0e944786eefcfe86e3d4fa29d25370e8526ae9c40a3a112", func := "example.com/armslength/armslength/zzlaws_root_b1.FnStringSplitsYuanAndFen", spec := "fnStringSplitsYuanAndFen", stops := ["fmt.Sprintf"], inPlace := ["fmt.Sprintf"], apart := false }
/-- NO THEOREM (fmt's text is open here; it may be false): for the released tool's asking of the row's closed facts alone. THE STATEMENT IS 'FnStringSplitsYuanAndFenToldSaid' (Qxb6630554aFmtCards.lean). -/
def FnStringSplitsYuanAndFenFormAsk : Prop := fnStringSplitsYuanAndFenRow.holds Tryf.pinned (OpenSpec.ofChange fnStringSplitsYuanAndFenSpec)

/-- ITS FALSE NEIGHBOUR: 'it returns false'. Refute it at one input. -/
def fnStringSplitsYuanAndFenWrong : ChangeSpec := { name := "fnStringSplitsYuanAndFen", fn := fun _ => fun
  | [d] => { results := [.lit (.bool false)], args := [d] }
  | _ => none }
def FnStringSplitsYuanAndFenWrongFormAsk : Prop := fnStringSplitsYuanAndFenRow.holds Tryf.pinned (OpenSpec.ofChange fnStringSplitsYuanAndFenWrong)

end Rows
end Go.Proofs.Qxb6630554aFmt
