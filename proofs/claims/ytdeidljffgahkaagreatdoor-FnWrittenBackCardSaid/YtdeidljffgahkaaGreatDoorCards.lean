/-
  DERIVED. GIVEN WITH THE SEED: THE CARDS: each row of YtdeidljffgahkaaGreatDoorRows.lean that lists a variable, with what it lists TIED to the program's text (the seventh form; the later family's looks); each row that meets fmt, with fmt's text TOLD by the authors' own Lean function (tested against real Go, not proved from fmt's source: count such statements apart). THE CARD IS WHAT COUNTS. Prove the row's statement (the work); the ties are given (YtdeidljffgahkaaGreatDoorTie.lean); close each card by the builder's one call (the guide's Derived/Test/ToyasCard.lean, 'card_holds'). Laid BY PROGRAM, IN A SANDBOX (cutbox-door.mjs). By AI agents, Wed Nov 11 2026. No macro, syntax, notation, axiom, sorry.
-/
import Derived.Test.YtdeidljffgahkaaGreatDoorRows
import GoSem.ClaimSeven
namespace Go.Proofs.YtdeidljffgahkaaGreatDoor
namespace Rows

/-- THE TIED CARD OF 'laws.FnRead'. -/
def fnReadCard : Claim7 := { stood := { row := fnReadRow, standIns := [], harness := (true, "2fdf3cea78dd62ddf88ee974af444a83c8567a10023f92ad02ba72aece641e1d"), looks := true }, kinds := [], alts := [], laidByText := true, laidKinds := [.sentinel, .sentinel, .sentinel], laidTests := true, laidLooks := .later }
def FnReadCardSaid : Prop := Claim7.holds Tryz.pinned (.plain (OpenSpec.ofChange fnReadSpec)) fnReadCard

/-- THE TIED CARD OF 'laws.FnReadTry'. -/
def fnReadTryCard : Claim7 := { stood := { row := fnReadTryRow, standIns := [], harness := (true, "2fdf3cea78dd62ddf88ee974af444a83c8567a10023f92ad02ba72aece641e1d"), looks := true }, kinds := [], alts := [], laidByText := true, laidKinds := [.sentinel, .sentinel, .sentinel], laidTests := true, laidLooks := .later }
def FnReadTryCardSaid : Prop := Claim7.holds Tryz.pinned (.plain (OpenSpec.ofChange fnReadTrySpec)) fnReadTryCard

/-- THE TIED CARD OF 'laws.FnWrittenBack'. -/
def fnWrittenBackCard : Claim7 := { stood := { row := fnWrittenBackRow, standIns := [], harness := (true, "2fdf3cea78dd62ddf88ee974af444a83c8567a10023f92ad02ba72aece641e1d"), looks := true }, kinds := [], alts := [], laidByText := true, laidKinds := [.sentinel, .sentinel, .sentinel], laidTests := true, laidLooks := .later }
def FnWrittenBackCardSaid : Prop := Claim7.holds Tryz.pinned (.plain (OpenSpec.ofChange fnWrittenBackSpec)) fnWrittenBackCard

/-- THE TIED CARD OF 'laws.FnCoded'. -/
def fnCodedCard : Claim7 := { stood := { row := fnCodedRow, standIns := [], harness := (true, "2fdf3cea78dd62ddf88ee974af444a83c8567a10023f92ad02ba72aece641e1d"), looks := true }, kinds := [], alts := [], laidByText := true, laidKinds := [.sentinel, .sentinel, .sentinel], laidTests := true, laidLooks := .later }
def FnCodedCardSaid : Prop := Claim7.holds Tryz.pinned (.plain (OpenSpec.ofChange fnCodedSpec)) fnCodedCard

/-- THE TIED CARD OF 'laws.FnReadFrom'. -/
def fnReadFromCard : Claim7 := { stood := { row := fnReadFromRow, standIns := [], harness := (true, "2fdf3cea78dd62ddf88ee974af444a83c8567a10023f92ad02ba72aece641e1d"), looks := true }, kinds := [], alts := [], laidByText := true, laidKinds := [.sentinel, .sentinel, .sentinel], laidTests := true, laidLooks := .later }
def FnReadFromCardSaid : Prop := Claim7.holds Tryz.pinned (.plain (OpenSpec.ofChange fnReadFromSpec)) fnReadFromCard

/-- THE TIED CARD OF 'laws.FnMetaAny'. -/
def fnMetaAnyCard : Claim7 := { stood := { row := fnMetaAnyRow, standIns := [], harness := (true, "2fdf3cea78dd62ddf88ee974af444a83c8567a10023f92ad02ba72aece641e1d"), looks := true }, kinds := [], alts := [], laidByText := true, laidKinds := [.sentinel, .sentinel], laidTests := true, laidLooks := .later }
def FnMetaAnyCardSaid : Prop := Claim7.holds Tryz.pinned (.plain (OpenSpec.ofChange fnMetaAnySpec)) fnMetaAnyCard

/-- THE TIED CARD OF 'laws.FnMetaBack'. -/
def fnMetaBackCard : Claim7 := { stood := { row := fnMetaBackRow, standIns := [], harness := (true, "2fdf3cea78dd62ddf88ee974af444a83c8567a10023f92ad02ba72aece641e1d"), looks := true }, kinds := [], alts := [], laidByText := true, laidKinds := [.sentinel, .sentinel], laidTests := true, laidLooks := .later }
def FnMetaBackCardSaid : Prop := Claim7.holds Tryz.pinned (.plain (OpenSpec.ofChange fnMetaBackSpec)) fnMetaBackCard

/-- THE TIED CARD OF 'laws.FnMetaCut'. -/
def fnMetaCutCard : Claim7 := { stood := { row := fnMetaCutRow, standIns := [], harness := (true, "2fdf3cea78dd62ddf88ee974af444a83c8567a10023f92ad02ba72aece641e1d"), looks := true }, kinds := [], alts := [], laidByText := true, laidKinds := [.sentinel, .sentinel], laidTests := true, laidLooks := .later }
def FnMetaCutCardSaid : Prop := Claim7.holds Tryz.pinned (.plain (OpenSpec.ofChange fnMetaCutSpec)) fnMetaCutCard

/-- THE TIED CARD OF 'laws.FnMetaPieces'. -/
def fnMetaPiecesCard : Claim7 := { stood := { row := fnMetaPiecesRow, standIns := [], harness := (true, "2fdf3cea78dd62ddf88ee974af444a83c8567a10023f92ad02ba72aece641e1d"), looks := true }, kinds := [], alts := [], laidByText := true, laidKinds := [.sentinel, .sentinel], laidTests := true, laidLooks := .later }
def FnMetaPiecesCardSaid : Prop := Claim7.holds Tryz.pinned (.plain (OpenSpec.ofChange fnMetaPiecesSpec)) fnMetaPiecesCard

/-- THE TIED CARD OF 'laws.FnMetaSilent'. -/
def fnMetaSilentCard : Claim7 := { stood := { row := fnMetaSilentRow, standIns := [], harness := (true, "2fdf3cea78dd62ddf88ee974af444a83c8567a10023f92ad02ba72aece641e1d"), looks := true }, kinds := [], alts := [], laidByText := true, laidKinds := [.sentinel, .sentinel], laidTests := true, laidLooks := .later }
def FnMetaSilentCardSaid : Prop := Claim7.holds Tryz.pinned (.plain (OpenSpec.ofChange fnMetaSilentSpec)) fnMetaSilentCard

/-- THE TIED CARD OF 'laws.FnMetaSearch'. -/
def fnMetaSearchCard : Claim7 := { stood := { row := fnMetaSearchRow, standIns := [], harness := (true, "2fdf3cea78dd62ddf88ee974af444a83c8567a10023f92ad02ba72aece641e1d"), looks := true }, kinds := [], alts := [], laidByText := true, laidKinds := [.sentinel, .sentinel], laidTests := true, laidLooks := .later }
def FnMetaSearchCardSaid : Prop := Claim7.holds Tryz.pinned (.plain (OpenSpec.ofChange fnMetaSearchSpec)) fnMetaSearchCard

/-- THE TIED CARD OF 'laws.FnMetaSeries'. -/
def fnMetaSeriesCard : Claim7 := { stood := { row := fnMetaSeriesRow, standIns := [], harness := (true, "2fdf3cea78dd62ddf88ee974af444a83c8567a10023f92ad02ba72aece641e1d"), looks := true }, kinds := [], alts := [], laidByText := true, laidKinds := [.sentinel, .sentinel], laidTests := true, laidLooks := .later }
def FnMetaSeriesCardSaid : Prop := Claim7.holds Tryz.pinned (.plain (OpenSpec.ofChange fnMetaSeriesSpec)) fnMetaSeriesCard

/-- THE TIED CARD OF 'laws.FnMetaClosed'. -/
def fnMetaClosedCard : Claim7 := { stood := { row := fnMetaClosedRow, standIns := [], harness := (true, "2fdf3cea78dd62ddf88ee974af444a83c8567a10023f92ad02ba72aece641e1d"), looks := true }, kinds := [], alts := [], laidByText := true, laidKinds := [.sentinel, .sentinel], laidTests := true, laidLooks := .later }
def FnMetaClosedCardSaid : Prop := Claim7.holds Tryz.pinned (.plain (OpenSpec.ofChange fnMetaClosedSpec)) fnMetaClosedCard

/-- THE SECOND FORM's CARD OF 'laws.FnRead'. -/
def fnReadUptoCard : Claim7 := { stood := { row := fnReadUptoRow, standIns := [], harness := (true, "2fdf3cea78dd62ddf88ee974af444a83c8567a10023f92ad02ba72aece641e1d"), looks := true }, kinds := [], alts := [], laidByText := true, laidKinds := [.sentinel, .sentinel, .sentinel], laidTests := true, laidLooks := .later }
def FnReadUptoCardSaid : Prop := Claim7.holds Tryz.pinned (.plain (OpenSpec.upto fnReadSpec)) fnReadUptoCard

/-- THE SECOND FORM's CARD OF 'laws.FnReadTry'. -/
def fnReadTryUptoCard : Claim7 := { stood := { row := fnReadTryUptoRow, standIns := [], harness := (true, "2fdf3cea78dd62ddf88ee974af444a83c8567a10023f92ad02ba72aece641e1d"), looks := true }, kinds := [], alts := [], laidByText := true, laidKinds := [.sentinel, .sentinel, .sentinel], laidTests := true, laidLooks := .later }
def FnReadTryUptoCardSaid : Prop := Claim7.holds Tryz.pinned (.plain (OpenSpec.upto fnReadTrySpec)) fnReadTryUptoCard

/-- THE SECOND FORM's CARD OF 'laws.FnWrittenBack'. -/
def fnWrittenBackUptoCard : Claim7 := { stood := { row := fnWrittenBackUptoRow, standIns := [], harness := (true, "2fdf3cea78dd62ddf88ee974af444a83c8567a10023f92ad02ba72aece641e1d"), looks := true }, kinds := [], alts := [], laidByText := true, laidKinds := [.sentinel, .sentinel, .sentinel], laidTests := true, laidLooks := .later }
def FnWrittenBackUptoCardSaid : Prop := Claim7.holds Tryz.pinned (.plain (OpenSpec.upto fnWrittenBackSpec)) fnWrittenBackUptoCard

/-- THE SECOND FORM's CARD OF 'laws.FnCoded'. -/
def fnCodedUptoCard : Claim7 := { stood := { row := fnCodedUptoRow, standIns := [], harness := (true, "2fdf3cea78dd62ddf88ee974af444a83c8567a10023f92ad02ba72aece641e1d"), looks := true }, kinds := [], alts := [], laidByText := true, laidKinds := [.sentinel, .sentinel, .sentinel], laidTests := true, laidLooks := .later }
def FnCodedUptoCardSaid : Prop := Claim7.holds Tryz.pinned (.plain (OpenSpec.upto fnCodedSpec)) fnCodedUptoCard

/-- THE SECOND FORM's CARD OF 'laws.FnReadFrom'. -/
def fnReadFromUptoCard : Claim7 := { stood := { row := fnReadFromUptoRow, standIns := [], harness := (true, "2fdf3cea78dd62ddf88ee974af444a83c8567a10023f92ad02ba72aece641e1d"), looks := true }, kinds := [], alts := [], laidByText := true, laidKinds := [.sentinel, .sentinel, .sentinel], laidTests := true, laidLooks := .later }
def FnReadFromUptoCardSaid : Prop := Claim7.holds Tryz.pinned (.plain (OpenSpec.upto fnReadFromSpec)) fnReadFromUptoCard

/-- THE SECOND FORM's CARD OF 'laws.FnMetaAny'. -/
def fnMetaAnyUptoCard : Claim7 := { stood := { row := fnMetaAnyUptoRow, standIns := [], harness := (true, "2fdf3cea78dd62ddf88ee974af444a83c8567a10023f92ad02ba72aece641e1d"), looks := true }, kinds := [], alts := [], laidByText := true, laidKinds := [.sentinel, .sentinel], laidTests := true, laidLooks := .later }
def FnMetaAnyUptoCardSaid : Prop := Claim7.holds Tryz.pinned (.plain (OpenSpec.upto fnMetaAnySpec)) fnMetaAnyUptoCard

/-- THE SECOND FORM's CARD OF 'laws.FnMetaBack'. -/
def fnMetaBackUptoCard : Claim7 := { stood := { row := fnMetaBackUptoRow, standIns := [], harness := (true, "2fdf3cea78dd62ddf88ee974af444a83c8567a10023f92ad02ba72aece641e1d"), looks := true }, kinds := [], alts := [], laidByText := true, laidKinds := [.sentinel, .sentinel], laidTests := true, laidLooks := .later }
def FnMetaBackUptoCardSaid : Prop := Claim7.holds Tryz.pinned (.plain (OpenSpec.upto fnMetaBackSpec)) fnMetaBackUptoCard

/-- THE SECOND FORM's CARD OF 'laws.FnMetaCut'. -/
def fnMetaCutUptoCard : Claim7 := { stood := { row := fnMetaCutUptoRow, standIns := [], harness := (true, "2fdf3cea78dd62ddf88ee974af444a83c8567a10023f92ad02ba72aece641e1d"), looks := true }, kinds := [], alts := [], laidByText := true, laidKinds := [.sentinel, .sentinel], laidTests := true, laidLooks := .later }
def FnMetaCutUptoCardSaid : Prop := Claim7.holds Tryz.pinned (.plain (OpenSpec.upto fnMetaCutSpec)) fnMetaCutUptoCard

/-- THE SECOND FORM's CARD OF 'laws.FnMetaPieces'. -/
def fnMetaPiecesUptoCard : Claim7 := { stood := { row := fnMetaPiecesUptoRow, standIns := [], harness := (true, "2fdf3cea78dd62ddf88ee974af444a83c8567a10023f92ad02ba72aece641e1d"), looks := true }, kinds := [], alts := [], laidByText := true, laidKinds := [.sentinel, .sentinel], laidTests := true, laidLooks := .later }
def FnMetaPiecesUptoCardSaid : Prop := Claim7.holds Tryz.pinned (.plain (OpenSpec.upto fnMetaPiecesSpec)) fnMetaPiecesUptoCard

/-- THE SECOND FORM's CARD OF 'laws.FnMetaSilent'. -/
def fnMetaSilentUptoCard : Claim7 := { stood := { row := fnMetaSilentUptoRow, standIns := [], harness := (true, "2fdf3cea78dd62ddf88ee974af444a83c8567a10023f92ad02ba72aece641e1d"), looks := true }, kinds := [], alts := [], laidByText := true, laidKinds := [.sentinel, .sentinel], laidTests := true, laidLooks := .later }
def FnMetaSilentUptoCardSaid : Prop := Claim7.holds Tryz.pinned (.plain (OpenSpec.upto fnMetaSilentSpec)) fnMetaSilentUptoCard

/-- THE SECOND FORM's CARD OF 'laws.FnMetaSearch'. -/
def fnMetaSearchUptoCard : Claim7 := { stood := { row := fnMetaSearchUptoRow, standIns := [], harness := (true, "2fdf3cea78dd62ddf88ee974af444a83c8567a10023f92ad02ba72aece641e1d"), looks := true }, kinds := [], alts := [], laidByText := true, laidKinds := [.sentinel, .sentinel], laidTests := true, laidLooks := .later }
def FnMetaSearchUptoCardSaid : Prop := Claim7.holds Tryz.pinned (.plain (OpenSpec.upto fnMetaSearchSpec)) fnMetaSearchUptoCard

/-- THE SECOND FORM's CARD OF 'laws.FnMetaSeries'. -/
def fnMetaSeriesUptoCard : Claim7 := { stood := { row := fnMetaSeriesUptoRow, standIns := [], harness := (true, "2fdf3cea78dd62ddf88ee974af444a83c8567a10023f92ad02ba72aece641e1d"), looks := true }, kinds := [], alts := [], laidByText := true, laidKinds := [.sentinel, .sentinel], laidTests := true, laidLooks := .later }
def FnMetaSeriesUptoCardSaid : Prop := Claim7.holds Tryz.pinned (.plain (OpenSpec.upto fnMetaSeriesSpec)) fnMetaSeriesUptoCard

/-- THE SECOND FORM's CARD OF 'laws.FnMetaClosed'. -/
def fnMetaClosedUptoCard : Claim7 := { stood := { row := fnMetaClosedUptoRow, standIns := [], harness := (true, "2fdf3cea78dd62ddf88ee974af444a83c8567a10023f92ad02ba72aece641e1d"), looks := true }, kinds := [], alts := [], laidByText := true, laidKinds := [.sentinel, .sentinel], laidTests := true, laidLooks := .later }
def FnMetaClosedUptoCardSaid : Prop := Claim7.holds Tryz.pinned (.plain (OpenSpec.upto fnMetaClosedSpec)) fnMetaClosedUptoCard
end Rows
end Go.Proofs.YtdeidljffgahkaaGreatDoor
