/-
  DERIVED. GIVEN WITH THE SEED: THE CARDS: each row of Qxb6604665aFmtRows.lean that lists a variable, with what it lists TIED to the program's text (the seventh form; the later family's looks); each row that meets fmt, with fmt's text TOLD by the authors' own Lean function (tested against real Go, not proved from fmt's source: count such statements apart). THE CARD IS WHAT COUNTS. Prove the row's statement (the work); the ties are given (Qxb6604665aFmtTie.lean); close each card by the builder's one call (the guide's Derived/Test/ToyasCard.lean, 'card_holds'). Laid BY PROGRAM, IN A SANDBOX (cutbox-door.mjs). By AI agents, Wed Nov 11 2026. No macro, syntax, notation, axiom, sorry.
-/
import Derived.Test.Qxb6604665aFmtRows
import GoSem.ClaimSeven
namespace Go.Proofs.Qxb6604665aFmt
namespace Rows

/-- THE TOLD CARD OF 'zzlaws_internal_plan_b1.FnOfGradeExactLookup'. -/
def fnOfGradeExactLookupCard : Claim7 := { stood := { row := fnOfGradeExactLookupRow, standIns := [], harness := (true, "2921e837e6fe2810dc8e9abe2177b2dc8686cc9e1efb53ab62f37a96106b20aa"), looks := false }, told := true, goes := false }
def FnOfGradeExactLookupToldSaid : Prop := Claim7.holds Tryf.pinned (.plain (OpenSpec.ofChange fnOfGradeExactLookupSpec)) fnOfGradeExactLookupCard
/-- ITS FALSE NEIGHBOUR. Refute it at one input. -/
def FnOfGradeExactLookupToldWrongFalsely : Prop := Claim7.holds Tryf.pinned (.plain (OpenSpec.ofChange fnOfGradeExactLookupWrong)) fnOfGradeExactLookupCard

/-- THE TOLD CARD OF 'zzlaws_internal_plan_b1.FnOfGradeReadsBackEveryGrade'. -/
def fnOfGradeReadsBackEveryGradeCard : Claim7 := { stood := { row := fnOfGradeReadsBackEveryGradeRow, standIns := [], harness := (true, "2921e837e6fe2810dc8e9abe2177b2dc8686cc9e1efb53ab62f37a96106b20aa"), looks := false }, told := true, goes := false }
def FnOfGradeReadsBackEveryGradeToldSaid : Prop := Claim7.holds Tryf.pinned (.plain (OpenSpec.ofChange fnOfGradeReadsBackEveryGradeSpec)) fnOfGradeReadsBackEveryGradeCard
/-- ITS FALSE NEIGHBOUR. Refute it at one input. -/
def FnOfGradeReadsBackEveryGradeToldWrongFalsely : Prop := Claim7.holds Tryf.pinned (.plain (OpenSpec.ofChange fnOfGradeReadsBackEveryGradeWrong)) fnOfGradeReadsBackEveryGradeCard
end Rows
end Go.Proofs.Qxb6604665aFmt
