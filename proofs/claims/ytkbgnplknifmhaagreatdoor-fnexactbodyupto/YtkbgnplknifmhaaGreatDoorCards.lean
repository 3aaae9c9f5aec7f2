/-
  DERIVED. GIVEN WITH THE SEED: THE CARDS: each row of YtkbgnplknifmhaaGreatDoorRows.lean that lists a variable, with what it lists TIED to the program's text (the seventh form; the later family's looks); each row that meets fmt, with fmt's text TOLD by the authors' own Lean function (tested against real Go, not proved from fmt's source: count such statements apart). THE CARD IS WHAT COUNTS. Prove the row's statement (the work); the ties are given (YtkbgnplknifmhaaGreatDoorTie.lean); close each card by the builder's one call (the guide's Derived/Test/ToyasCard.lean, 'card_holds'). Laid BY PROGRAM, IN A SANDBOX (cutbox-door.mjs). By AI agents, Wed Nov 11 2026. No macro, syntax, notation, axiom, sorry.
-/
import Derived.Test.YtkbgnplknifmhaaGreatDoorRows
import GoSem.ClaimSeven
namespace Go.Proofs.YtkbgnplknifmhaaGreatDoor
namespace Rows

/-- THE TIED CARD OF 'laws.FnReads'. -/
def fnReadsCard : Claim7 := { stood := { row := fnReadsRow, standIns := [], harness := (true, "449b53892b6968cf0200be4706c9ffd2bb6d562e813af7264624056bf08ccc47"), looks := true }, kinds := [], alts := [], laidByText := true, laidKinds := [.data, .sentinel, .sentinel, .sentinel, .data, .data, .sentinel, .sentinel, .sentinel, .sentinel, .sentinel, .sentinel, .pinned, .pinned], laidTests := true, laidLooks := .later }
def FnReadsCardSaid : Prop := Claim7.holds Tryz.pinned (.plain (OpenSpec.ofChange fnReadsSpec)) fnReadsCard

/-- THE TIED CARD OF 'laws.FnFolded'. -/
def fnFoldedCard : Claim7 := { stood := { row := fnFoldedRow, standIns := [], harness := (true, "449b53892b6968cf0200be4706c9ffd2bb6d562e813af7264624056bf08ccc47"), looks := true }, kinds := [], alts := [], laidByText := true, laidKinds := [.data, .sentinel, .sentinel, .sentinel, .data, .data, .sentinel, .sentinel, .sentinel, .sentinel, .sentinel, .sentinel, .pinned, .pinned], laidTests := true, laidLooks := .later }
def FnFoldedCardSaid : Prop := Claim7.holds Tryz.pinned (.plain (OpenSpec.ofChange fnFoldedSpec)) fnFoldedCard

/-- THE TIED CARD OF 'laws.FnSkips'. -/
def fnSkipsCard : Claim7 := { stood := { row := fnSkipsRow, standIns := [], harness := (true, "449b53892b6968cf0200be4706c9ffd2bb6d562e813af7264624056bf08ccc47"), looks := true }, kinds := [], alts := [], laidByText := true, laidKinds := [.data, .sentinel, .sentinel, .sentinel, .data, .data, .sentinel, .sentinel, .sentinel, .sentinel, .sentinel, .sentinel, .pinned, .pinned], laidTests := true, laidLooks := .later }
def FnSkipsCardSaid : Prop := Claim7.holds Tryz.pinned (.plain (OpenSpec.ofChange fnSkipsSpec)) fnSkipsCard

/-- THE TIED CARD OF 'laws.FnExactBody'. -/
def fnExactBodyCard : Claim7 := { stood := { row := fnExactBodyRow, standIns := [], harness := (true, "449b53892b6968cf0200be4706c9ffd2bb6d562e813af7264624056bf08ccc47"), looks := true }, kinds := [], alts := [], laidByText := true, laidKinds := [.data, .sentinel, .sentinel, .sentinel, .data, .data, .sentinel, .sentinel, .sentinel, .sentinel, .sentinel, .sentinel, .pinned, .pinned], laidTests := true, laidLooks := .later }
def FnExactBodyCardSaid : Prop := Claim7.holds Tryz.pinned (.plain (OpenSpec.ofChange fnExactBodySpec)) fnExactBodyCard

/-- THE TIED CARD OF 'laws.FnLineFeed'. -/
def fnLineFeedCard : Claim7 := { stood := { row := fnLineFeedRow, standIns := [], harness := (true, "449b53892b6968cf0200be4706c9ffd2bb6d562e813af7264624056bf08ccc47"), looks := true }, kinds := [], alts := [], laidByText := true, laidKinds := [.data, .sentinel, .sentinel, .sentinel, .data, .data, .sentinel, .sentinel, .sentinel, .sentinel, .sentinel, .sentinel, .pinned, .pinned], laidTests := true, laidLooks := .later }
def FnLineFeedCardSaid : Prop := Claim7.holds Tryz.pinned (.plain (OpenSpec.ofChange fnLineFeedSpec)) fnLineFeedCard

/-- THE TIED CARD OF 'laws.FnExactSlow'. -/
def fnExactSlowCard : Claim7 := { stood := { row := fnExactSlowRow, standIns := [], harness := (true, "449b53892b6968cf0200be4706c9ffd2bb6d562e813af7264624056bf08ccc47"), looks := true }, kinds := [], alts := [], laidByText := true, laidKinds := [.data, .sentinel, .sentinel, .sentinel, .data, .data, .sentinel, .sentinel, .sentinel, .sentinel, .sentinel, .sentinel, .pinned, .pinned], laidTests := true, laidLooks := .later }
def FnExactSlowCardSaid : Prop := Claim7.holds Tryz.pinned (.plain (OpenSpec.ofChange fnExactSlowSpec)) fnExactSlowCard

/-- THE TIED CARD OF 'laws.FnEpilogue'. -/
def fnEpilogueCard : Claim7 := { stood := { row := fnEpilogueRow, standIns := [], harness := (true, "449b53892b6968cf0200be4706c9ffd2bb6d562e813af7264624056bf08ccc47"), looks := true }, kinds := [], alts := [], laidByText := true, laidKinds := [.data, .sentinel, .sentinel, .sentinel, .data, .data, .sentinel, .sentinel, .sentinel, .sentinel, .sentinel, .sentinel, .pinned, .pinned], laidTests := true, laidLooks := .later }
def FnEpilogueCardSaid : Prop := Claim7.holds Tryz.pinned (.plain (OpenSpec.ofChange fnEpilogueSpec)) fnEpilogueCard

/-- THE TIED CARD OF 'laws.FnExactParse'. -/
def fnExactParseCard : Claim7 := { stood := { row := fnExactParseRow, standIns := [], harness := (true, "449b53892b6968cf0200be4706c9ffd2bb6d562e813af7264624056bf08ccc47"), looks := true }, kinds := [], alts := [], laidByText := true, laidKinds := [.data, .sentinel, .sentinel, .sentinel, .data, .data, .sentinel, .sentinel, .sentinel, .sentinel, .sentinel, .sentinel, .pinned, .pinned], laidTests := true, laidLooks := .later }
def FnExactParseCardSaid : Prop := Claim7.holds Tryz.pinned (.plain (OpenSpec.ofChange fnExactParseSpec)) fnExactParseCard

/-- THE TIED CARD OF 'laws.FnNext'. -/
def fnNextCard : Claim7 := { stood := { row := fnNextRow, standIns := [], harness := (true, "449b53892b6968cf0200be4706c9ffd2bb6d562e813af7264624056bf08ccc47"), looks := true }, kinds := [], alts := [], laidByText := true, laidKinds := [.data, .sentinel, .sentinel, .sentinel, .data, .data, .sentinel, .sentinel, .sentinel, .sentinel, .sentinel, .sentinel, .pinned, .pinned], laidTests := true, laidLooks := .later }
def FnNextCardSaid : Prop := Claim7.holds Tryz.pinned (.plain (OpenSpec.ofChange fnNextSpec)) fnNextCard

/-- THE TIED CARD OF 'laws.FnPreamble'. -/
def fnPreambleCard : Claim7 := { stood := { row := fnPreambleRow, standIns := [], harness := (true, "449b53892b6968cf0200be4706c9ffd2bb6d562e813af7264624056bf08ccc47"), looks := true }, kinds := [], alts := [], laidByText := true, laidKinds := [.data, .sentinel, .sentinel, .sentinel, .data, .data, .sentinel, .sentinel, .sentinel, .sentinel, .sentinel, .sentinel, .pinned, .pinned], laidTests := true, laidLooks := .later }
def FnPreambleCardSaid : Prop := Claim7.holds Tryz.pinned (.plain (OpenSpec.ofChange fnPreambleSpec)) fnPreambleCard

/-- THE SECOND FORM's CARD OF 'laws.FnReads'. -/
def fnReadsUptoCard : Claim7 := { stood := { row := fnReadsUptoRow, standIns := [], harness := (true, "449b53892b6968cf0200be4706c9ffd2bb6d562e813af7264624056bf08ccc47"), looks := true }, kinds := [], alts := [], laidByText := true, laidKinds := [.data, .sentinel, .sentinel, .sentinel, .data, .data, .sentinel, .sentinel, .sentinel, .sentinel, .sentinel, .sentinel, .pinned, .pinned], laidTests := true, laidLooks := .later }
def FnReadsUptoCardSaid : Prop := Claim7.holds Tryz.pinned (.plain (OpenSpec.upto fnReadsSpec)) fnReadsUptoCard

/-- THE SECOND FORM's CARD OF 'laws.FnFolded'. -/
def fnFoldedUptoCard : Claim7 := { stood := { row := fnFoldedUptoRow, standIns := [], harness := (true, "449b53892b6968cf0200be4706c9ffd2bb6d562e813af7264624056bf08ccc47"), looks := true }, kinds := [], alts := [], laidByText := true, laidKinds := [.data, .sentinel, .sentinel, .sentinel, .data, .data, .sentinel, .sentinel, .sentinel, .sentinel, .sentinel, .sentinel, .pinned, .pinned], laidTests := true, laidLooks := .later }
def FnFoldedUptoCardSaid : Prop := Claim7.holds Tryz.pinned (.plain (OpenSpec.upto fnFoldedSpec)) fnFoldedUptoCard

/-- THE SECOND FORM's CARD OF 'laws.FnSkips'. -/
def fnSkipsUptoCard : Claim7 := { stood := { row := fnSkipsUptoRow, standIns := [], harness := (true, "449b53892b6968cf0200be4706c9ffd2bb6d562e813af7264624056bf08ccc47"), looks := true }, kinds := [], alts := [], laidByText := true, laidKinds := [.data, .sentinel, .sentinel, .sentinel, .data, .data, .sentinel, .sentinel, .sentinel, .sentinel, .sentinel, .sentinel, .pinned, .pinned], laidTests := true, laidLooks := .later }
def FnSkipsUptoCardSaid : Prop := Claim7.holds Tryz.pinned (.plain (OpenSpec.upto fnSkipsSpec)) fnSkipsUptoCard

/-- THE SECOND FORM's CARD OF 'laws.FnExactBody'. -/
def fnExactBodyUptoCard : Claim7 := { stood := { row := fnExactBodyUptoRow, standIns := [], harness := (true, "449b53892b6968cf0200be4706c9ffd2bb6d562e813af7264624056bf08ccc47"), looks := true }, kinds := [], alts := [], laidByText := true, laidKinds := [.data, .sentinel, .sentinel, .sentinel, .data, .data, .sentinel, .sentinel, .sentinel, .sentinel, .sentinel, .sentinel, .pinned, .pinned], laidTests := true, laidLooks := .later }
def FnExactBodyUptoCardSaid : Prop := Claim7.holds Tryz.pinned (.plain (OpenSpec.upto fnExactBodySpec)) fnExactBodyUptoCard

/-- THE SECOND FORM's CARD OF 'laws.FnLineFeed'. -/
def fnLineFeedUptoCard : Claim7 := { stood := { row := fnLineFeedUptoRow, standIns := [], harness := (true, "449b53892b6968cf0200be4706c9ffd2bb6d562e813af7264624056bf08ccc47"), looks := true }, kinds := [], alts := [], laidByText := true, laidKinds := [.data, .sentinel, .sentinel, .sentinel, .data, .data, .sentinel, .sentinel, .sentinel, .sentinel, .sentinel, .sentinel, .pinned, .pinned], laidTests := true, laidLooks := .later }
def FnLineFeedUptoCardSaid : Prop := Claim7.holds Tryz.pinned (.plain (OpenSpec.upto fnLineFeedSpec)) fnLineFeedUptoCard

/-- THE SECOND FORM's CARD OF 'laws.FnExactSlow'. -/
def fnExactSlowUptoCard : Claim7 := { stood := { row := fnExactSlowUptoRow, standIns := [], harness := (true, "449b53892b6968cf0200be4706c9ffd2bb6d562e813af7264624056bf08ccc47"), looks := true }, kinds := [], alts := [], laidByText := true, laidKinds := [.data, .sentinel, .sentinel, .sentinel, .data, .data, .sentinel, .sentinel, .sentinel, .sentinel, .sentinel, .sentinel, .pinned, .pinned], laidTests := true, laidLooks := .later }
def FnExactSlowUptoCardSaid : Prop := Claim7.holds Tryz.pinned (.plain (OpenSpec.upto fnExactSlowSpec)) fnExactSlowUptoCard

/-- THE SECOND FORM's CARD OF 'laws.FnEpilogue'. -/
def fnEpilogueUptoCard : Claim7 := { stood := { row := fnEpilogueUptoRow, standIns := [], harness := (true, "449b53892b6968cf0200be4706c9ffd2bb6d562e813af7264624056bf08ccc47"), looks := true }, kinds := [], alts := [], laidByText := true, laidKinds := [.data, .sentinel, .sentinel, .sentinel, .data, .data, .sentinel, .sentinel, .sentinel, .sentinel, .sentinel, .sentinel, .pinned, .pinned], laidTests := true, laidLooks := .later }
def FnEpilogueUptoCardSaid : Prop := Claim7.holds Tryz.pinned (.plain (OpenSpec.upto fnEpilogueSpec)) fnEpilogueUptoCard

/-- THE SECOND FORM's CARD OF 'laws.FnExactParse'. -/
def fnExactParseUptoCard : Claim7 := { stood := { row := fnExactParseUptoRow, standIns := [], harness := (true, "449b53892b6968cf0200be4706c9ffd2bb6d562e813af7264624056bf08ccc47"), looks := true }, kinds := [], alts := [], laidByText := true, laidKinds := [.data, .sentinel, .sentinel, .sentinel, .data, .data, .sentinel, .sentinel, .sentinel, .sentinel, .sentinel, .sentinel, .pinned, .pinned], laidTests := true, laidLooks := .later }
def FnExactParseUptoCardSaid : Prop := Claim7.holds Tryz.pinned (.plain (OpenSpec.upto fnExactParseSpec)) fnExactParseUptoCard

/-- THE SECOND FORM's CARD OF 'laws.FnNext'. -/
def fnNextUptoCard : Claim7 := { stood := { row := fnNextUptoRow, standIns := [], harness := (true, "449b53892b6968cf0200be4706c9ffd2bb6d562e813af7264624056bf08ccc47"), looks := true }, kinds := [], alts := [], laidByText := true, laidKinds := [.data, .sentinel, .sentinel, .sentinel, .data, .data, .sentinel, .sentinel, .sentinel, .sentinel, .sentinel, .sentinel, .pinned, .pinned], laidTests := true, laidLooks := .later }
def FnNextUptoCardSaid : Prop := Claim7.holds Tryz.pinned (.plain (OpenSpec.upto fnNextSpec)) fnNextUptoCard

/-- THE SECOND FORM's CARD OF 'laws.FnPreamble'. -/
def fnPreambleUptoCard : Claim7 := { stood := { row := fnPreambleUptoRow, standIns := [], harness := (true, "449b53892b6968cf0200be4706c9ffd2bb6d562e813af7264624056bf08ccc47"), looks := true }, kinds := [], alts := [], laidByText := true, laidKinds := [.data, .sentinel, .sentinel, .sentinel, .data, .data, .sentinel, .sentinel, .sentinel, .sentinel, .sentinel, .sentinel, .pinned, .pinned], laidTests := true, laidLooks := .later }
def FnPreambleUptoCardSaid : Prop := Claim7.holds Tryz.pinned (.plain (OpenSpec.upto fnPreambleSpec)) fnPreambleUptoCard
end Rows
end Go.Proofs.YtkbgnplknifmhaaGreatDoor
