/-
  DERIVED. GIVEN WITH THE SEED: THE CARDS: each row of Qxb6603154aDoorRows.lean that lists a variable, with what it lists TIED to the program's text (the seventh form; the later family's looks); each row that meets fmt, with fmt's text TOLD by the authors' own Lean function (tested against real Go, not proved from fmt's source: count such statements apart). THE CARD IS WHAT COUNTS. Prove the row's statement (the work); the ties are given (Qxb6603154aDoorTie.lean); close each card by the builder's one call (the guide's Derived/Test/ToyasCard.lean, 'card_holds'). Laid BY PROGRAM, IN A SANDBOX (cutbox-door.mjs). By AI agents, Wed Nov 11 2026. No macro, syntax, notation, axiom, sorry.
-/
import Derived.Test.Qxb6603154aDoorRows
import GoSem.ClaimSeven
namespace Go.Proofs.Qxb6603154aDoor
namespace Rows

/-- THE TIED CARD OF 'zzlaws_root_b1.FnAdvisoryIntMatchesDecimalReading'. -/
def fnAdvisoryIntMatchesDecimalReadingCard : Claim7 := { stood := { row := fnAdvisoryIntMatchesDecimalReadingRow, standIns := [], harness := (true, "85f66edcd892fa1d3367b89f974b916748e4f0129e7caf3f724ca9e5ccf48078"), looks := false }, kinds := [], alts := [], laidByText := true, laidKinds := [.data, .pinned], laidTests := true, laidLooks := .later }
def FnAdvisoryIntMatchesDecimalReadingCardSaid : Prop := Claim7.holds Tryd.pinned (.plain (OpenSpec.ofChange fnAdvisoryIntMatchesDecimalReadingSpec)) fnAdvisoryIntMatchesDecimalReadingCard

/-- THE TIED CARD OF 'zzlaws_root_b1.FnAdvisoryIntWiderBitsKeepTheValue'. -/
def fnAdvisoryIntWiderBitsKeepTheValueCard : Claim7 := { stood := { row := fnAdvisoryIntWiderBitsKeepTheValueRow, standIns := [], harness := (true, "85f66edcd892fa1d3367b89f974b916748e4f0129e7caf3f724ca9e5ccf48078"), looks := false }, kinds := [], alts := [], laidByText := true, laidKinds := [.data, .pinned], laidTests := true, laidLooks := .later }
def FnAdvisoryIntWiderBitsKeepTheValueCardSaid : Prop := Claim7.holds Tryd.pinned (.plain (OpenSpec.ofChange fnAdvisoryIntWiderBitsKeepTheValueSpec)) fnAdvisoryIntWiderBitsKeepTheValueCard

/-- THE TIED CARD OF 'zzlaws_root_b1.FnAdvisoryIntReadsEveryFormattedInteger'. -/
def fnAdvisoryIntReadsEveryFormattedIntegerCard : Claim7 := { stood := { row := fnAdvisoryIntReadsEveryFormattedIntegerRow, standIns := [], harness := (true, "85f66edcd892fa1d3367b89f974b916748e4f0129e7caf3f724ca9e5ccf48078"), looks := false }, kinds := [], alts := [], laidByText := true, laidKinds := [.data, .pinned], laidTests := true, laidLooks := .later }
def FnAdvisoryIntReadsEveryFormattedIntegerCardSaid : Prop := Claim7.holds Tryd.pinned (.plain (OpenSpec.ofChange fnAdvisoryIntReadsEveryFormattedIntegerSpec)) fnAdvisoryIntReadsEveryFormattedIntegerCard

/-- THE TIED CARD OF 'zzlaws_root_b1.FnFormatQueueListsFirstOccurrencesInOrder'. -/
def fnFormatQueueListsFirstOccurrencesInOrderCard : Claim7 := { stood := { row := fnFormatQueueListsFirstOccurrencesInOrderRow, standIns := [], harness := (true, "85f66edcd892fa1d3367b89f974b916748e4f0129e7caf3f724ca9e5ccf48078"), looks := false }, kinds := [], alts := [], laidByText := true, laidKinds := [.data, .data, .data], laidTests := true, laidLooks := .later }
def FnFormatQueueListsFirstOccurrencesInOrderCardSaid : Prop := Claim7.holds Tryd.pinned (.plain (OpenSpec.ofChange fnFormatQueueListsFirstOccurrencesInOrderSpec)) fnFormatQueueListsFirstOccurrencesInOrderCard
end Rows
end Go.Proofs.Qxb6603154aDoor
