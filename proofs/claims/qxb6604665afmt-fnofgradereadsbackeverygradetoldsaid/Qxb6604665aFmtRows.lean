/-
  No cell of these rows narrows 'for every input' (looked for: loops, veiled, ifaces, maps, wideKeys, modest, calm, conditions, laid).
  DERIVED. THE GIVEN ROWS OF THIS SEAT. 2 by the template 'for every input the law returns true; each argument reads behind the call as it read before'; 0 by the template 'total and deterministic' (their statements: Qxb6604665aFmtTotals.lean).
  GIVEN WITH THE SEED: the statements are not yours to turn. If you find one false, say at which input.
  Laid BY PROGRAM, IN A SANDBOX (cutbox-rows.mjs): the forced cells as the released guide's own fill.sh prints them over the translation 9b61e634a6486070… (all of the seat's roots in one cut). By AI agents, Wed Nov 11 2026. No macro, syntax, notation, axiom, sorry.
-/
import Derived.Test.Qxb6604665aFmtChecked
import GoSem.Claim
import GoSem.ClaimJoined
import GoSem.ClaimMapViews
import Derived.JoinedTies
import Derived.KernelRfl
namespace Go.Proofs.Qxb6604665aFmt
/- THE CELL 'sum', in the pinned program and in every row, IS THE sha256 OF THE DUMP (.gsa) THAT Qxb6604665aFmtProg.lean LOADS. Nothing in Lean hashes anything: it is a label: what it is worth is what the hold of that sum in a sandbox is worth. -/
noncomputable def Tryf.pinned : Pinned := { name := "qxb6604665afmt", sum := "9b61e634a6486070b7bf9753b720ca8f178946e334fe0974268720b28136a609", checked := Tryf.checked }
namespace Rows
def none {H : Type} : Left H := { results := [], args := [] }

/-- 'zzlaws_internal_plan_b1.FnOfGradeExactLookup': WHATEVER THE INPUT: true; the input reads as it did. -/
def fnOfGradeExactLookupSpec : ChangeSpec := { name := "fnOfGradeExactLookup", fn := fun _ => fun
  | [d1, d2, d3, d4] => { results := [.lit (.bool true)], args := [d1, d2, d3, d4] }
  | _ => none }
def fnOfGradeExactLookupRow : OpenClaim := { program := "qxb6604665afmt", sum := "9b61e634a6486070b7bf9753b720ca8f178946e334fe0974268720b28136a609", func := "example.com/vestbook/vestbook/zzlaws_internal_plan_b1.FnOfGradeExactLookup", spec := "fnOfGradeExactLookup", stops := ["fmt.errorf"], inPlace := ["fmt.errorf", "internal/abi.NoEscape", "internal/bytealg.MakeNoZero"], unfollowed := true, recurses := true, apart := false }
/-- NO THEOREM (fmt's text is open here; it may be false): for the released tool's asking of the row's closed facts alone. THE STATEMENT IS 'FnOfGradeExactLookupToldSaid' (Qxb6604665aFmtCards.lean). -/
def FnOfGradeExactLookupFormAsk : Prop := fnOfGradeExactLookupRow.holds Tryf.pinned (OpenSpec.ofChange fnOfGradeExactLookupSpec)

/-- ITS FALSE NEIGHBOUR: 'it returns false'. Refute it at one input. -/
def fnOfGradeExactLookupWrong : ChangeSpec := { name := "fnOfGradeExactLookup", fn := fun _ => fun
  | [d1, d2, d3, d4] => { results := [.lit (.bool false)], args := [d1, d2, d3, d4] }
  | _ => none }
def FnOfGradeExactLookupWrongFormAsk : Prop := fnOfGradeExactLookupRow.holds Tryf.pinned (OpenSpec.ofChange fnOfGradeExactLookupWrong)

/-- 'zzlaws_internal_plan_b1.FnOfGradeReadsBackEveryGrade': WHATEVER THE INPUT: true; the input reads as it did. -/
def fnOfGradeReadsBackEveryGradeSpec : ChangeSpec := { name := "fnOfGradeReadsBackEveryGrade", fn := fun _ => fun
  | [d1, d2, d3] => { results := [.lit (.bool true)], args := [d1, d2, d3] }
  | _ => none }
def fnOfGradeReadsBackEveryGradeRow : OpenClaim := { program := "qxb6604665afmt", sum := "9b61e634a6486070b7bf9753b720ca8f178946e334fe0974268720b28136a609", func := "example.com/vestbook/vestbook/zzlaws_internal_plan_b1.FnOfGradeReadsBackEveryGrade", spec := "fnOfGradeReadsBackEveryGrade", stops := ["fmt.errorf"], inPlace := ["fmt.errorf", "internal/abi.NoEscape", "internal/bytealg.MakeNoZero"], unfollowed := true, recurses := true, apart := false }
/-- NO THEOREM (fmt's text is open here; it may be false): for the released tool's asking of the row's closed facts alone. THE STATEMENT IS 'FnOfGradeReadsBackEveryGradeToldSaid' (Qxb6604665aFmtCards.lean). -/
def FnOfGradeReadsBackEveryGradeFormAsk : Prop := fnOfGradeReadsBackEveryGradeRow.holds Tryf.pinned (OpenSpec.ofChange fnOfGradeReadsBackEveryGradeSpec)

/-- ITS FALSE NEIGHBOUR: 'it returns false'. Refute it at one input. -/
def fnOfGradeReadsBackEveryGradeWrong : ChangeSpec := { name := "fnOfGradeReadsBackEveryGrade", fn := fun _ => fun
  | [d1, d2, d3] => { results := [.lit (.bool false)], args := [d1, d2, d3] }
  | _ => none }
def FnOfGradeReadsBackEveryGradeWrongFormAsk : Prop := fnOfGradeReadsBackEveryGradeRow.holds Tryf.pinned (OpenSpec.ofChange fnOfGradeReadsBackEveryGradeWrong)

end Rows
end Go.Proofs.Qxb6604665aFmt
