/-
  DERIVED. GIVEN WITH THE SEED: THE CARDS: each row of Qxb6630554aFmtRows.lean that lists a variable, with what it lists TIED to the program's text (the seventh form; the later family's looks); each row that meets fmt, with fmt's text TOLD by the authors' own Lean function (tested against real Go, not proved from fmt's source: count such statements apart). THE CARD IS WHAT COUNTS. Prove the row's statement (the work); the ties are given (Qxb6630554aFmtTie.lean); close each card by the builder's one call (the guide's Derived/Test/ToyasCard.lean, 'card_holds'). Laid BY PROGRAM, IN A SANDBOX (cutbox-door.mjs). By AI agents, Wed Nov 11 2026. No macro, syntax, notation, axiom, sorry.
-/
import Derived.Test.Qxb6630554aFmtRows
import GoSem.ClaimSeven
namespace Go.Proofs.Qxb6630554aFmt
namespace Rows

/-- THE TOLD CARD OF 'zzlaws_root_b1.FnStringReadsBackAndNegates'. -/
def fnStringReadsBackAndNegatesCard : Claim7 := { stood := { row := fnStringReadsBackAndNegatesRow, standIns := [], harness := (true, "db9446ea29631757754102c9046a7b8a4f09eb45f06ff1d76bf9d255d7c117e6"), looks := false }, told := true, goes := false }
def FnStringReadsBackAndNegatesToldSaid : Prop := Claim7.holds Tryf.pinned (.plain (OpenSpec.ofChange fnStringReadsBackAndNegatesSpec)) fnStringReadsBackAndNegatesCard
/-- ITS FALSE NEIGHBOUR. Refute it at one input. -/
def FnStringReadsBackAndNegatesToldWrongFalsely : Prop := Claim7.holds Tryf.pinned (.plain (OpenSpec.ofChange fnStringReadsBackAndNegatesWrong)) fnStringReadsBackAndNegatesCard

/-- THE TOLD CARD OF 'zzlaws_root_b1.FnStringSplitsYuanAndFen'. -/
def fnStringSplitsYuanAndFenCard : Claim7 := { stood := { row := fnStringSplitsYuanAndFenRow, standIns := [], harness := (true, "db9446ea29631757754102c9046a7b8a4f09eb45f06ff1d76bf9d255d7c117e6"), looks := false }, told := true, goes := false }
def FnStringSplitsYuanAndFenToldSaid : Prop := Claim7.holds Tryf.pinned (.plain (OpenSpec.ofChange fnStringSplitsYuanAndFenSpec)) fnStringSplitsYuanAndFenCard
/-- ITS FALSE NEIGHBOUR. Refute it at one input. -/
def FnStringSplitsYuanAndFenToldWrongFalsely : Prop := Claim7.holds Tryf.pinned (.plain (OpenSpec.ofChange fnStringSplitsYuanAndFenWrong)) fnStringSplitsYuanAndFenCard
end Rows
end Go.Proofs.Qxb6630554aFmt
