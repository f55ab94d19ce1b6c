/-
  No cell of these rows narrows 'for every input' (looked for: loops, veiled, ifaces, maps, wideKeys, modest, calm, conditions, laid).
  DERIVED. THE GIVEN ROWS OF THIS SEAT. 3 by the template 'for every input the law returns true; each argument reads behind the call as it read before'; 0 by the template 'total and deterministic' (their statements: Qxb6604761aTotals.lean).
  GIVEN WITH THE SEED: the statements are not yours to turn. If you find one false, say at which input.
  Laid BY PROGRAM, IN A SANDBOX (cutbox-rows.mjs): the forced cells as the released guide's own fill.sh prints them over the translation 2a61b427255995a9… (all of the seat's roots in one cut). By AI agents, Wed Nov 11 2026. No macro, syntax, notation, axiom, sorry.
-/
import Derived.Test.Qxb6604761aChecked
import GoSem.Claim
import GoSem.ClaimJoined
import GoSem.ClaimMapViews
import Derived.JoinedTies
import Derived.KernelRfl
namespace Go.Proofs.Qxb6604761a
/- THE CELL 'sum', in the pinned program and in every row, IS THE sha256 OF THE DUMP (.gsa) THAT Qxb6604761aProg.lean LOADS. Nothing in Lean hashes anything: it is a label: what it is worth is what the hold of that sum in a sandbox is worth. -/
noncomputable def Try.pinned : Pinned := { name := "qxb6604761a", sum := "2a61b427255995a9cf8486be4ee869115ea8f93c0700471b4d3b7debc4073ce6", checked := Try.checked }
namespace Rows
def none {H : Type} : Left H := { results := [], args := [] }

/-- 'zzlaws_internal_accrual_b1.FnSignedTwoWritesReadBack': WHATEVER THE INPUT: true; the input reads as it did. -/
def fnSignedTwoWritesReadBackSpec : ChangeSpec := { name := "fnSignedTwoWritesReadBack", fn := fun _ => fun
  | [d1, d2, d3] => { results := [.lit (.bool true)], args := [d1, d2, d3] }
  | _ => none }
def fnSignedTwoWritesReadBackRow : OpenClaim := { program := "qxb6604761a", sum := "2a61b427255995a9cf8486be4ee869115ea8f93c0700471b4d3b7debc4073ce6", func := "example.com/stakeloom/stakeloom/zzlaws_internal_accrual_b1.FnSignedTwoWritesReadBack", spec := "fnSignedTwoWritesReadBack", apart := false }
def FnSignedTwoWritesReadBackSaid : Prop := fnSignedTwoWritesReadBackRow.holds Try.pinned (OpenSpec.ofChange fnSignedTwoWritesReadBackSpec)

/-- ITS FALSE NEIGHBOUR: 'it returns false'. Refute it at one input. -/
def fnSignedTwoWritesReadBackWrong : ChangeSpec := { name := "fnSignedTwoWritesReadBack", fn := fun _ => fun
  | [d1, d2, d3] => { results := [.lit (.bool false)], args := [d1, d2, d3] }
  | _ => none }
def FnSignedTwoWritesReadBackWrongFalsely : Prop := fnSignedTwoWritesReadBackRow.holds Try.pinned (OpenSpec.ofChange fnSignedTwoWritesReadBackWrong)

/-- 'zzlaws_internal_accrual_b1.FnIntAppendsSizeSignMagnitude': WHATEVER THE INPUT: true; the input reads as it did. -/
def fnIntAppendsSizeSignMagnitudeSpec : ChangeSpec := { name := "fnIntAppendsSizeSignMagnitude", fn := fun _ => fun
  | [d1, d2, d3] => { results := [.lit (.bool true)], args := [d1, d2, d3] }
  | _ => none }
def fnIntAppendsSizeSignMagnitudeRow : OpenClaim := { program := "qxb6604761a", sum := "2a61b427255995a9cf8486be4ee869115ea8f93c0700471b4d3b7debc4073ce6", func := "example.com/stakeloom/stakeloom/zzlaws_internal_accrual_b1.FnIntAppendsSizeSignMagnitude", spec := "fnIntAppendsSizeSignMagnitude", apart := false }
def FnIntAppendsSizeSignMagnitudeSaid : Prop := fnIntAppendsSizeSignMagnitudeRow.holds Try.pinned (OpenSpec.ofChange fnIntAppendsSizeSignMagnitudeSpec)

/-- ITS FALSE NEIGHBOUR: 'it returns false'. Refute it at one input. -/
def fnIntAppendsSizeSignMagnitudeWrong : ChangeSpec := { name := "fnIntAppendsSizeSignMagnitude", fn := fun _ => fun
  | [d1, d2, d3] => { results := [.lit (.bool false)], args := [d1, d2, d3] }
  | _ => none }
def FnIntAppendsSizeSignMagnitudeWrongFalsely : Prop := fnIntAppendsSizeSignMagnitudeRow.holds Try.pinned (OpenSpec.ofChange fnIntAppendsSizeSignMagnitudeWrong)

/-- 'zzlaws_internal_accrual_b1.FnIntThenSignedReadBack': WHATEVER THE INPUT: true; the input reads as it did. -/
def fnIntThenSignedReadBackSpec : ChangeSpec := { name := "fnIntThenSignedReadBack", fn := fun _ => fun
  | [d1, d2, d3, d4] => { results := [.lit (.bool true)], args := [d1, d2, d3, d4] }
  | _ => none }
def fnIntThenSignedReadBackRow : OpenClaim := { program := "qxb6604761a", sum := "2a61b427255995a9cf8486be4ee869115ea8f93c0700471b4d3b7debc4073ce6", func := "example.com/stakeloom/stakeloom/zzlaws_internal_accrual_b1.FnIntThenSignedReadBack", spec := "fnIntThenSignedReadBack", apart := false }
def FnIntThenSignedReadBackSaid : Prop := fnIntThenSignedReadBackRow.holds Try.pinned (OpenSpec.ofChange fnIntThenSignedReadBackSpec)

/-- ITS FALSE NEIGHBOUR: 'it returns false'. Refute it at one input. -/
def fnIntThenSignedReadBackWrong : ChangeSpec := { name := "fnIntThenSignedReadBack", fn := fun _ => fun
  | [d1, d2, d3, d4] => { results := [.lit (.bool false)], args := [d1, d2, d3, d4] }
  | _ => none }
def FnIntThenSignedReadBackWrongFalsely : Prop := fnIntThenSignedReadBackRow.holds Try.pinned (OpenSpec.ofChange fnIntThenSignedReadBackWrong)

end Rows
end Go.Proofs.Qxb6604761a
