/-
  DERIVED. GIVEN WITH THE SEED: THE CARDS: each row of Qxb6602681aDoorRows.lean that lists a variable, with what it lists TIED to the program's text (the seventh form; the later family's looks); each row that meets fmt, with fmt's text TOLD by the authors' own Lean function (tested against real Go, not proved from fmt's source: count such statements apart). THE CARD IS WHAT COUNTS. Prove the row's statement (the work); the ties are given (Qxb6602681aDoorTie.lean); close each card by the builder's one call (the guide's Derived/Test/ToyasCard.lean, 'card_holds'). Laid BY PROGRAM, IN A SANDBOX (cutbox-door.mjs). By AI agents, Wed Nov 11 2026. No macro, syntax, notation, axiom, sorry.
-/
import Derived.Test.Qxb6602681aDoorRows
import GoSem.ClaimSeven
namespace Go.Proofs.Qxb6602681aDoor
namespace Rows

/-- THE TIED CARD OF 'zzlaws_internal_sim_b1.FnNumberListIsCommaSeparatedDecimals'. -/
def fnNumberListIsCommaSeparatedDecimalsCard : Claim7 := { stood := { row := fnNumberListIsCommaSeparatedDecimalsRow, standIns := [], harness := (true, "060960b75e2c2e21c57700c5e909c4f56bfaa47f740fd815ea5c2051bb65f1ef"), looks := false }, kinds := [], alts := [], laidByText := true, laidKinds := [.data, .data, .data], laidTests := true, laidLooks := .later }
def FnNumberListIsCommaSeparatedDecimalsCardSaid : Prop := Claim7.holds Tryd.pinned (.plain (OpenSpec.ofChange fnNumberListIsCommaSeparatedDecimalsSpec)) fnNumberListIsCommaSeparatedDecimalsCard

/-- THE TIED CARD OF 'zzlaws_internal_sim_b1.FnNumberListReadsBack'. -/
def fnNumberListReadsBackCard : Claim7 := { stood := { row := fnNumberListReadsBackRow, standIns := [], harness := (true, "060960b75e2c2e21c57700c5e909c4f56bfaa47f740fd815ea5c2051bb65f1ef"), looks := false }, kinds := [], alts := [], laidByText := true, laidKinds := [.data, .data, .data], laidTests := true, laidLooks := .later }
def FnNumberListReadsBackCardSaid : Prop := Claim7.holds Tryd.pinned (.plain (OpenSpec.ofChange fnNumberListReadsBackSpec)) fnNumberListReadsBackCard
end Rows
end Go.Proofs.Qxb6602681aDoor
