/-
  DERIVED. GIVEN WITH THE SEED: THE CARDS: each row of YtcbolmendjocbaaDoorRows.lean that lists a variable, with what it lists TIED to the program's text (the seventh form; the later family's looks); each row that meets fmt, with fmt's text TOLD by the authors' own Lean function (tested against real Go, not proved from fmt's source: count such statements apart). THE CARD IS WHAT COUNTS. Prove the row's statement (the work); the ties are given (YtcbolmendjocbaaDoorTie.lean); close each card by the builder's one call (the guide's Derived/Test/ToyasCard.lean, 'card_holds'). Laid BY PROGRAM, IN A SANDBOX (cutbox-door.mjs). By AI agents, Wed Nov 11 2026. No macro, syntax, notation, axiom, sorry.
-/
import Derived.Test.YtcbolmendjocbaaDoorRows
import GoSem.ClaimSeven
namespace Go.Proofs.YtcbolmendjocbaaDoor
namespace Rows

/-- THE TIED CARD OF 'laws.FnExactReads'. -/
def fnExactReadsCard : Claim7 := { stood := { row := fnExactReadsRow, standIns := [], harness := (true, "1564b1c342f08570c7c71158c7c13c5722a7401852bae73666e1e155a511f8ef"), looks := true }, kinds := [], alts := [], laidByText := true, laidKinds := [.data, .sentinel, .sentinel, .sentinel, .sentinel, .sentinel, .pinned], laidTests := true, laidLooks := .later }
def FnExactReadsCardSaid : Prop := Claim7.holds Tryd.pinned (.plain (OpenSpec.ofChange fnExactReadsSpec)) fnExactReadsCard

/-- THE TIED CARD OF 'laws.FnRawReads'. -/
def fnRawReadsCard : Claim7 := { stood := { row := fnRawReadsRow, standIns := [], harness := (true, "1564b1c342f08570c7c71158c7c13c5722a7401852bae73666e1e155a511f8ef"), looks := true }, kinds := [], alts := [], laidByText := true, laidKinds := [.data, .sentinel, .sentinel, .sentinel, .sentinel, .sentinel, .pinned], laidTests := true, laidLooks := .later }
def FnRawReadsCardSaid : Prop := Claim7.holds Tryd.pinned (.plain (OpenSpec.ofChange fnRawReadsSpec)) fnRawReadsCard

/-- THE SECOND FORM's CARD OF 'laws.FnExactReads'. -/
def fnExactReadsUptoCard : Claim7 := { stood := { row := fnExactReadsUptoRow, standIns := [], harness := (true, "1564b1c342f08570c7c71158c7c13c5722a7401852bae73666e1e155a511f8ef"), looks := true }, kinds := [], alts := [], laidByText := true, laidKinds := [.data, .sentinel, .sentinel, .sentinel, .sentinel, .sentinel, .pinned], laidTests := true, laidLooks := .later }
def FnExactReadsUptoCardSaid : Prop := Claim7.holds Tryd.pinned (.plain (OpenSpec.upto fnExactReadsSpec)) fnExactReadsUptoCard

/-- THE SECOND FORM's CARD OF 'laws.FnRawReads'. -/
def fnRawReadsUptoCard : Claim7 := { stood := { row := fnRawReadsUptoRow, standIns := [], harness := (true, "1564b1c342f08570c7c71158c7c13c5722a7401852bae73666e1e155a511f8ef"), looks := true }, kinds := [], alts := [], laidByText := true, laidKinds := [.data, .sentinel, .sentinel, .sentinel, .sentinel, .sentinel, .pinned], laidTests := true, laidLooks := .later }
def FnRawReadsUptoCardSaid : Prop := Claim7.holds Tryd.pinned (.plain (OpenSpec.upto fnRawReadsSpec)) fnRawReadsUptoCard
end Rows
end Go.Proofs.YtcbolmendjocbaaDoor
