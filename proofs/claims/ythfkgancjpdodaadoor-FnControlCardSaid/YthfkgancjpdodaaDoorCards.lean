/-
  DERIVED. GIVEN WITH THE SEED: THE CARDS: each row of YthfkgancjpdodaaDoorRows.lean that lists a variable, with what it lists TIED to the program's text (the seventh form; the later family's looks); each row that meets fmt, with fmt's text TOLD by the authors' own Lean function (tested against real Go, not proved from fmt's source: count such statements apart). THE CARD IS WHAT COUNTS. Prove the row's statement (the work); the ties are given (YthfkgancjpdodaaDoorTie.lean); close each card by the builder's one call (the guide's Derived/Test/ToyasCard.lean, 'card_holds'). Laid BY PROGRAM, IN A SANDBOX (cutbox-door.mjs). By AI agents, Wed Nov 11 2026. No macro, syntax, notation, axiom, sorry.
-/
import Derived.Test.YthfkgancjpdodaaDoorRows
import GoSem.ClaimSeven
namespace Go.Proofs.YthfkgancjpdodaaDoor
namespace Rows

/-- THE TIED CARD OF 'laws.FnBinary'. -/
def fnBinaryCard : Claim7 := { stood := { row := fnBinaryRow, standIns := [], harness := (true, "044ac47df3564dad1284d7643cb5eb53e721fc0904b1d6bbfb1d04e7bacc39de"), looks := true }, kinds := [], alts := [], laidByText := true, laidKinds := [.sentinel], laidTests := true, laidLooks := .later }
def FnBinaryCardSaid : Prop := Claim7.holds Tryd.pinned (.plain (OpenSpec.ofChange fnBinarySpec)) fnBinaryCard

/-- THE TIED CARD OF 'laws.FnLines'. -/
def fnLinesCard : Claim7 := { stood := { row := fnLinesRow, standIns := [], harness := (true, "044ac47df3564dad1284d7643cb5eb53e721fc0904b1d6bbfb1d04e7bacc39de"), looks := true }, kinds := [], alts := [], laidByText := true, laidKinds := [.sentinel], laidTests := true, laidLooks := .later }
def FnLinesCardSaid : Prop := Claim7.holds Tryd.pinned (.plain (OpenSpec.ofChange fnLinesSpec)) fnLinesCard

/-- THE TIED CARD OF 'laws.FnExactSlow'. -/
def fnExactSlowCard : Claim7 := { stood := { row := fnExactSlowRow, standIns := [], harness := (true, "044ac47df3564dad1284d7643cb5eb53e721fc0904b1d6bbfb1d04e7bacc39de"), looks := true }, kinds := [], alts := [], laidByText := true, laidKinds := [.sentinel], laidTests := true, laidLooks := .later }
def FnExactSlowCardSaid : Prop := Claim7.holds Tryd.pinned (.plain (OpenSpec.ofChange fnExactSlowSpec)) fnExactSlowCard

/-- THE TIED CARD OF 'laws.FnControl'. -/
def fnControlCard : Claim7 := { stood := { row := fnControlRow, standIns := [], harness := (true, "044ac47df3564dad1284d7643cb5eb53e721fc0904b1d6bbfb1d04e7bacc39de"), looks := true }, kinds := [], alts := [], laidByText := true, laidKinds := [.sentinel], laidTests := true, laidLooks := .later }
def FnControlCardSaid : Prop := Claim7.holds Tryd.pinned (.plain (OpenSpec.ofChange fnControlSpec)) fnControlCard

/-- THE TIED CARD OF 'laws.FnRead'. -/
def fnReadCard : Claim7 := { stood := { row := fnReadRow, standIns := [], harness := (true, "044ac47df3564dad1284d7643cb5eb53e721fc0904b1d6bbfb1d04e7bacc39de"), looks := true }, kinds := [], alts := [], laidByText := true, laidKinds := [.sentinel], laidTests := true, laidLooks := .later }
def FnReadCardSaid : Prop := Claim7.holds Tryd.pinned (.plain (OpenSpec.ofChange fnReadSpec)) fnReadCard

/-- THE TIED CARD OF 'laws.FnEndSoft'. -/
def fnEndSoftCard : Claim7 := { stood := { row := fnEndSoftRow, standIns := [], harness := (true, "044ac47df3564dad1284d7643cb5eb53e721fc0904b1d6bbfb1d04e7bacc39de"), looks := true }, kinds := [], alts := [], laidByText := true, laidKinds := [.sentinel], laidTests := true, laidLooks := .later }
def FnEndSoftCardSaid : Prop := Claim7.holds Tryd.pinned (.plain (OpenSpec.ofChange fnEndSoftSpec)) fnEndSoftCard

/-- THE TIED CARD OF 'laws.FnEscape'. -/
def fnEscapeCard : Claim7 := { stood := { row := fnEscapeRow, standIns := [], harness := (true, "044ac47df3564dad1284d7643cb5eb53e721fc0904b1d6bbfb1d04e7bacc39de"), looks := true }, kinds := [], alts := [], laidByText := true, laidKinds := [.sentinel], laidTests := true, laidLooks := .later }
def FnEscapeCardSaid : Prop := Claim7.holds Tryd.pinned (.plain (OpenSpec.ofChange fnEscapeSpec)) fnEscapeCard

/-- THE TIED CARD OF 'laws.FnExactDecode'. -/
def fnExactDecodeCard : Claim7 := { stood := { row := fnExactDecodeRow, standIns := [], harness := (true, "044ac47df3564dad1284d7643cb5eb53e721fc0904b1d6bbfb1d04e7bacc39de"), looks := true }, kinds := [], alts := [], laidByText := true, laidKinds := [.sentinel], laidTests := true, laidLooks := .later }
def FnExactDecodeCardSaid : Prop := Claim7.holds Tryd.pinned (.plain (OpenSpec.ofChange fnExactDecodeSpec)) fnExactDecodeCard

/-- THE TIED CARD OF 'laws.FnExactEscape'. -/
def fnExactEscapeCard : Claim7 := { stood := { row := fnExactEscapeRow, standIns := [], harness := (true, "044ac47df3564dad1284d7643cb5eb53e721fc0904b1d6bbfb1d04e7bacc39de"), looks := true }, kinds := [], alts := [], laidByText := true, laidKinds := [.sentinel], laidTests := true, laidLooks := .later }
def FnExactEscapeCardSaid : Prop := Claim7.holds Tryd.pinned (.plain (OpenSpec.ofChange fnExactEscapeSpec)) fnExactEscapeCard

/-- THE TIED CARD OF 'laws.FnExactEscapes'. -/
def fnExactEscapesCard : Claim7 := { stood := { row := fnExactEscapesRow, standIns := [], harness := (true, "044ac47df3564dad1284d7643cb5eb53e721fc0904b1d6bbfb1d04e7bacc39de"), looks := true }, kinds := [], alts := [], laidByText := true, laidKinds := [.sentinel], laidTests := true, laidLooks := .later }
def FnExactEscapesCardSaid : Prop := Claim7.holds Tryd.pinned (.plain (OpenSpec.ofChange fnExactEscapesSpec)) fnExactEscapesCard

/-- THE TIED CARD OF 'laws.FnJoin'. -/
def fnJoinCard : Claim7 := { stood := { row := fnJoinRow, standIns := [], harness := (true, "044ac47df3564dad1284d7643cb5eb53e721fc0904b1d6bbfb1d04e7bacc39de"), looks := true }, kinds := [], alts := [], laidByText := true, laidKinds := [.sentinel], laidTests := true, laidLooks := .later }
def FnJoinCardSaid : Prop := Claim7.holds Tryd.pinned (.plain (OpenSpec.ofChange fnJoinSpec)) fnJoinCard

/-- THE TIED CARD OF 'laws.FnLineFeed'. -/
def fnLineFeedCard : Claim7 := { stood := { row := fnLineFeedRow, standIns := [], harness := (true, "044ac47df3564dad1284d7643cb5eb53e721fc0904b1d6bbfb1d04e7bacc39de"), looks := true }, kinds := [], alts := [], laidByText := true, laidKinds := [.sentinel], laidTests := true, laidLooks := .later }
def FnLineFeedCardSaid : Prop := Claim7.holds Tryd.pinned (.plain (OpenSpec.ofChange fnLineFeedSpec)) fnLineFeedCard

/-- THE TIED CARD OF 'laws.FnLower'. -/
def fnLowerCard : Claim7 := { stood := { row := fnLowerRow, standIns := [], harness := (true, "044ac47df3564dad1284d7643cb5eb53e721fc0904b1d6bbfb1d04e7bacc39de"), looks := true }, kinds := [], alts := [], laidByText := true, laidKinds := [.sentinel], laidTests := true, laidLooks := .later }
def FnLowerCardSaid : Prop := Claim7.holds Tryd.pinned (.plain (OpenSpec.ofChange fnLowerSpec)) fnLowerCard

/-- THE TIED CARD OF 'laws.FnPadding'. -/
def fnPaddingCard : Claim7 := { stood := { row := fnPaddingRow, standIns := [], harness := (true, "044ac47df3564dad1284d7643cb5eb53e721fc0904b1d6bbfb1d04e7bacc39de"), looks := true }, kinds := [], alts := [], laidByText := true, laidKinds := [.sentinel], laidTests := true, laidLooks := .later }
def FnPaddingCardSaid : Prop := Claim7.holds Tryd.pinned (.plain (OpenSpec.ofChange fnPaddingSpec)) fnPaddingCard

/-- THE TIED CARD OF 'laws.FnPlain'. -/
def fnPlainCard : Claim7 := { stood := { row := fnPlainRow, standIns := [], harness := (true, "044ac47df3564dad1284d7643cb5eb53e721fc0904b1d6bbfb1d04e7bacc39de"), looks := true }, kinds := [], alts := [], laidByText := true, laidKinds := [.sentinel], laidTests := true, laidLooks := .later }
def FnPlainCardSaid : Prop := Claim7.holds Tryd.pinned (.plain (OpenSpec.ofChange fnPlainSpec)) fnPlainCard

/-- THE TIED CARD OF 'laws.FnPrefix'. -/
def fnPrefixCard : Claim7 := { stood := { row := fnPrefixRow, standIns := [], harness := (true, "044ac47df3564dad1284d7643cb5eb53e721fc0904b1d6bbfb1d04e7bacc39de"), looks := true }, kinds := [], alts := [], laidByText := true, laidKinds := [.sentinel], laidTests := true, laidLooks := .later }
def FnPrefixCardSaid : Prop := Claim7.holds Tryd.pinned (.plain (OpenSpec.ofChange fnPrefixSpec)) fnPrefixCard

/-- THE TIED CARD OF 'laws.FnSoft'. -/
def fnSoftCard : Claim7 := { stood := { row := fnSoftRow, standIns := [], harness := (true, "044ac47df3564dad1284d7643cb5eb53e721fc0904b1d6bbfb1d04e7bacc39de"), looks := true }, kinds := [], alts := [], laidByText := true, laidKinds := [.sentinel], laidTests := true, laidLooks := .later }
def FnSoftCardSaid : Prop := Claim7.holds Tryd.pinned (.plain (OpenSpec.ofChange fnSoftSpec)) fnSoftCard

/-- THE SECOND FORM's CARD OF 'laws.FnBinary'. -/
def fnBinaryUptoCard : Claim7 := { stood := { row := fnBinaryUptoRow, standIns := [], harness := (true, "044ac47df3564dad1284d7643cb5eb53e721fc0904b1d6bbfb1d04e7bacc39de"), looks := true }, kinds := [], alts := [], laidByText := true, laidKinds := [.sentinel], laidTests := true, laidLooks := .later }
def FnBinaryUptoCardSaid : Prop := Claim7.holds Tryd.pinned (.plain (OpenSpec.upto fnBinarySpec)) fnBinaryUptoCard

/-- THE SECOND FORM's CARD OF 'laws.FnLines'. -/
def fnLinesUptoCard : Claim7 := { stood := { row := fnLinesUptoRow, standIns := [], harness := (true, "044ac47df3564dad1284d7643cb5eb53e721fc0904b1d6bbfb1d04e7bacc39de"), looks := true }, kinds := [], alts := [], laidByText := true, laidKinds := [.sentinel], laidTests := true, laidLooks := .later }
def FnLinesUptoCardSaid : Prop := Claim7.holds Tryd.pinned (.plain (OpenSpec.upto fnLinesSpec)) fnLinesUptoCard

/-- THE SECOND FORM's CARD OF 'laws.FnExactSlow'. -/
def fnExactSlowUptoCard : Claim7 := { stood := { row := fnExactSlowUptoRow, standIns := [], harness := (true, "044ac47df3564dad1284d7643cb5eb53e721fc0904b1d6bbfb1d04e7bacc39de"), looks := true }, kinds := [], alts := [], laidByText := true, laidKinds := [.sentinel], laidTests := true, laidLooks := .later }
def FnExactSlowUptoCardSaid : Prop := Claim7.holds Tryd.pinned (.plain (OpenSpec.upto fnExactSlowSpec)) fnExactSlowUptoCard

/-- THE SECOND FORM's CARD OF 'laws.FnControl'. -/
def fnControlUptoCard : Claim7 := { stood := { row := fnControlUptoRow, standIns := [], harness := (true, "044ac47df3564dad1284d7643cb5eb53e721fc0904b1d6bbfb1d04e7bacc39de"), looks := true }, kinds := [], alts := [], laidByText := true, laidKinds := [.sentinel], laidTests := true, laidLooks := .later }
def FnControlUptoCardSaid : Prop := Claim7.holds Tryd.pinned (.plain (OpenSpec.upto fnControlSpec)) fnControlUptoCard

/-- THE SECOND FORM's CARD OF 'laws.FnRead'. -/
def fnReadUptoCard : Claim7 := { stood := { row := fnReadUptoRow, standIns := [], harness := (true, "044ac47df3564dad1284d7643cb5eb53e721fc0904b1d6bbfb1d04e7bacc39de"), looks := true }, kinds := [], alts := [], laidByText := true, laidKinds := [.sentinel], laidTests := true, laidLooks := .later }
def FnReadUptoCardSaid : Prop := Claim7.holds Tryd.pinned (.plain (OpenSpec.upto fnReadSpec)) fnReadUptoCard

/-- THE SECOND FORM's CARD OF 'laws.FnEndSoft'. -/
def fnEndSoftUptoCard : Claim7 := { stood := { row := fnEndSoftUptoRow, standIns := [], harness := (true, "044ac47df3564dad1284d7643cb5eb53e721fc0904b1d6bbfb1d04e7bacc39de"), looks := true }, kinds := [], alts := [], laidByText := true, laidKinds := [.sentinel], laidTests := true, laidLooks := .later }
def FnEndSoftUptoCardSaid : Prop := Claim7.holds Tryd.pinned (.plain (OpenSpec.upto fnEndSoftSpec)) fnEndSoftUptoCard

/-- THE SECOND FORM's CARD OF 'laws.FnEscape'. -/
def fnEscapeUptoCard : Claim7 := { stood := { row := fnEscapeUptoRow, standIns := [], harness := (true, "044ac47df3564dad1284d7643cb5eb53e721fc0904b1d6bbfb1d04e7bacc39de"), looks := true }, kinds := [], alts := [], laidByText := true, laidKinds := [.sentinel], laidTests := true, laidLooks := .later }
def FnEscapeUptoCardSaid : Prop := Claim7.holds Tryd.pinned (.plain (OpenSpec.upto fnEscapeSpec)) fnEscapeUptoCard

/-- THE SECOND FORM's CARD OF 'laws.FnExactDecode'. -/
def fnExactDecodeUptoCard : Claim7 := { stood := { row := fnExactDecodeUptoRow, standIns := [], harness := (true, "044ac47df3564dad1284d7643cb5eb53e721fc0904b1d6bbfb1d04e7bacc39de"), looks := true }, kinds := [], alts := [], laidByText := true, laidKinds := [.sentinel], laidTests := true, laidLooks := .later }
def FnExactDecodeUptoCardSaid : Prop := Claim7.holds Tryd.pinned (.plain (OpenSpec.upto fnExactDecodeSpec)) fnExactDecodeUptoCard

/-- THE SECOND FORM's CARD OF 'laws.FnExactEscape'. -/
def fnExactEscapeUptoCard : Claim7 := { stood := { row := fnExactEscapeUptoRow, standIns := [], harness := (true, "044ac47df3564dad1284d7643cb5eb53e721fc0904b1d6bbfb1d04e7bacc39de"), looks := true }, kinds := [], alts := [], laidByText := true, laidKinds := [.sentinel], laidTests := true, laidLooks := .later }
def FnExactEscapeUptoCardSaid : Prop := Claim7.holds Tryd.pinned (.plain (OpenSpec.upto fnExactEscapeSpec)) fnExactEscapeUptoCard

/-- THE SECOND FORM's CARD OF 'laws.FnExactEscapes'. -/
def fnExactEscapesUptoCard : Claim7 := { stood := { row := fnExactEscapesUptoRow, standIns := [], harness := (true, "044ac47df3564dad1284d7643cb5eb53e721fc0904b1d6bbfb1d04e7bacc39de"), looks := true }, kinds := [], alts := [], laidByText := true, laidKinds := [.sentinel], laidTests := true, laidLooks := .later }
def FnExactEscapesUptoCardSaid : Prop := Claim7.holds Tryd.pinned (.plain (OpenSpec.upto fnExactEscapesSpec)) fnExactEscapesUptoCard

/-- THE SECOND FORM's CARD OF 'laws.FnJoin'. -/
def fnJoinUptoCard : Claim7 := { stood := { row := fnJoinUptoRow, standIns := [], harness := (true, "044ac47df3564dad1284d7643cb5eb53e721fc0904b1d6bbfb1d04e7bacc39de"), looks := true }, kinds := [], alts := [], laidByText := true, laidKinds := [.sentinel], laidTests := true, laidLooks := .later }
def FnJoinUptoCardSaid : Prop := Claim7.holds Tryd.pinned (.plain (OpenSpec.upto fnJoinSpec)) fnJoinUptoCard

/-- THE SECOND FORM's CARD OF 'laws.FnLineFeed'. -/
def fnLineFeedUptoCard : Claim7 := { stood := { row := fnLineFeedUptoRow, standIns := [], harness := (true, "044ac47df3564dad1284d7643cb5eb53e721fc0904b1d6bbfb1d04e7bacc39de"), looks := true }, kinds := [], alts := [], laidByText := true, laidKinds := [.sentinel], laidTests := true, laidLooks := .later }
def FnLineFeedUptoCardSaid : Prop := Claim7.holds Tryd.pinned (.plain (OpenSpec.upto fnLineFeedSpec)) fnLineFeedUptoCard

/-- THE SECOND FORM's CARD OF 'laws.FnLower'. -/
def fnLowerUptoCard : Claim7 := { stood := { row := fnLowerUptoRow, standIns := [], harness := (true, "044ac47df3564dad1284d7643cb5eb53e721fc0904b1d6bbfb1d04e7bacc39de"), looks := true }, kinds := [], alts := [], laidByText := true, laidKinds := [.sentinel], laidTests := true, laidLooks := .later }
def FnLowerUptoCardSaid : Prop := Claim7.holds Tryd.pinned (.plain (OpenSpec.upto fnLowerSpec)) fnLowerUptoCard

/-- THE SECOND FORM's CARD OF 'laws.FnPadding'. -/
def fnPaddingUptoCard : Claim7 := { stood := { row := fnPaddingUptoRow, standIns := [], harness := (true, "044ac47df3564dad1284d7643cb5eb53e721fc0904b1d6bbfb1d04e7bacc39de"), looks := true }, kinds := [], alts := [], laidByText := true, laidKinds := [.sentinel], laidTests := true, laidLooks := .later }
def FnPaddingUptoCardSaid : Prop := Claim7.holds Tryd.pinned (.plain (OpenSpec.upto fnPaddingSpec)) fnPaddingUptoCard

/-- THE SECOND FORM's CARD OF 'laws.FnPlain'. -/
def fnPlainUptoCard : Claim7 := { stood := { row := fnPlainUptoRow, standIns := [], harness := (true, "044ac47df3564dad1284d7643cb5eb53e721fc0904b1d6bbfb1d04e7bacc39de"), looks := true }, kinds := [], alts := [], laidByText := true, laidKinds := [.sentinel], laidTests := true, laidLooks := .later }
def FnPlainUptoCardSaid : Prop := Claim7.holds Tryd.pinned (.plain (OpenSpec.upto fnPlainSpec)) fnPlainUptoCard

/-- THE SECOND FORM's CARD OF 'laws.FnPrefix'. -/
def fnPrefixUptoCard : Claim7 := { stood := { row := fnPrefixUptoRow, standIns := [], harness := (true, "044ac47df3564dad1284d7643cb5eb53e721fc0904b1d6bbfb1d04e7bacc39de"), looks := true }, kinds := [], alts := [], laidByText := true, laidKinds := [.sentinel], laidTests := true, laidLooks := .later }
def FnPrefixUptoCardSaid : Prop := Claim7.holds Tryd.pinned (.plain (OpenSpec.upto fnPrefixSpec)) fnPrefixUptoCard

/-- THE SECOND FORM's CARD OF 'laws.FnSoft'. -/
def fnSoftUptoCard : Claim7 := { stood := { row := fnSoftUptoRow, standIns := [], harness := (true, "044ac47df3564dad1284d7643cb5eb53e721fc0904b1d6bbfb1d04e7bacc39de"), looks := true }, kinds := [], alts := [], laidByText := true, laidKinds := [.sentinel], laidTests := true, laidLooks := .later }
def FnSoftUptoCardSaid : Prop := Claim7.holds Tryd.pinned (.plain (OpenSpec.upto fnSoftSpec)) fnSoftUptoCard
end Rows
end Go.Proofs.YthfkgancjpdodaaDoor
