/-
  DERIVED. GIVEN WITH THE SEED: THE CARDS: each row of Qxb6613793aDoorRows.lean that lists a variable, with what it lists TIED to the program's text (the seventh form; the later family's looks); each row that meets fmt, with fmt's text TOLD by the authors' own Lean function (tested against real Go, not proved from fmt's source: count such statements apart). THE CARD IS WHAT COUNTS. Prove the row's statement (the work); the ties are given (Qxb6613793aDoorTie.lean); close each card by the builder's one call (the guide's Derived/Test/ToyasCard.lean, 'card_holds'). Laid BY PROGRAM, IN A SANDBOX (cutbox-door.mjs). By AI agents, Wed Nov 11 2026. No macro, syntax, notation, axiom, sorry.
-/
import Derived.Test.Qxb6613793aDoorRows
import GoSem.ClaimSeven
namespace Go.Proofs.Qxb6613793aDoor
namespace Rows

/-- THE TIED CARD OF 'zzlaws_pkg_record_b1.FnNewReaderHeadReadsAt64KiB'. -/
def fnNewReaderHeadReadsAt64KiBCard : Claim7 := { stood := { row := fnNewReaderHeadReadsAt64KiBRow, standIns := [], harness := (true, "af2db68581740e395c507df274e355b4f37ffd8b4074c32bc3796fb4b9130c99"), looks := true }, kinds := [], alts := [], laidByText := true, laidKinds := [.sentinel, .sentinel, .sentinel, .sentinel], laidTests := true, laidLooks := .later }
def FnNewReaderHeadReadsAt64KiBCardSaid : Prop := Claim7.holds Tryd.pinned (.plain (OpenSpec.ofChange fnNewReaderHeadReadsAt64KiBSpec)) fnNewReaderHeadReadsAt64KiBCard

/-- THE TIED CARD OF 'zzlaws_pkg_record_b1.FnNewReaderAgreesWithAnySize'. -/
def fnNewReaderAgreesWithAnySizeCard : Claim7 := { stood := { row := fnNewReaderAgreesWithAnySizeRow, standIns := [], harness := (true, "af2db68581740e395c507df274e355b4f37ffd8b4074c32bc3796fb4b9130c99"), looks := true }, kinds := [], alts := [], laidByText := true, laidKinds := [.sentinel, .sentinel, .sentinel, .sentinel], laidTests := true, laidLooks := .later }
def FnNewReaderAgreesWithAnySizeCardSaid : Prop := Claim7.holds Tryd.pinned (.plain (OpenSpec.ofChange fnNewReaderAgreesWithAnySizeSpec)) fnNewReaderAgreesWithAnySizeCard

/-- THE TIED CARD OF 'zzlaws_pkg_record_b1.FnNextReadsEveryRecord'. -/
def fnNextReadsEveryRecordCard : Claim7 := { stood := { row := fnNextReadsEveryRecordRow, standIns := [], harness := (true, "af2db68581740e395c507df274e355b4f37ffd8b4074c32bc3796fb4b9130c99"), looks := true }, kinds := [], alts := [], laidByText := true, laidKinds := [.sentinel, .sentinel, .sentinel, .sentinel], laidTests := true, laidLooks := .later }
def FnNextReadsEveryRecordCardSaid : Prop := Claim7.holds Tryd.pinned (.plain (OpenSpec.ofChange fnNextReadsEveryRecordSpec)) fnNextReadsEveryRecordCard

/-- THE TIED CARD OF 'zzlaws_pkg_record_b1.FnNextJoinOfTwoStreams'. -/
def fnNextJoinOfTwoStreamsCard : Claim7 := { stood := { row := fnNextJoinOfTwoStreamsRow, standIns := [], harness := (true, "af2db68581740e395c507df274e355b4f37ffd8b4074c32bc3796fb4b9130c99"), looks := true }, kinds := [], alts := [], laidByText := true, laidKinds := [.sentinel, .sentinel, .sentinel, .sentinel], laidTests := true, laidLooks := .later }
def FnNextJoinOfTwoStreamsCardSaid : Prop := Claim7.holds Tryd.pinned (.plain (OpenSpec.ofChange fnNextJoinOfTwoStreamsSpec)) fnNextJoinOfTwoStreamsCard

/-- THE TIED CARD OF 'zzlaws_pkg_record_b1.FnNextPieceCutsTheRestIntoBufferfuls'. -/
def fnNextPieceCutsTheRestIntoBufferfulsCard : Claim7 := { stood := { row := fnNextPieceCutsTheRestIntoBufferfulsRow, standIns := [], harness := (true, "af2db68581740e395c507df274e355b4f37ffd8b4074c32bc3796fb4b9130c99"), looks := true }, kinds := [], alts := [], laidByText := true, laidKinds := [.sentinel, .sentinel, .sentinel, .sentinel], laidTests := true, laidLooks := .later }
def FnNextPieceCutsTheRestIntoBufferfulsCardSaid : Prop := Claim7.holds Tryd.pinned (.plain (OpenSpec.ofChange fnNextPieceCutsTheRestIntoBufferfulsSpec)) fnNextPieceCutsTheRestIntoBufferfulsCard

/-- THE TIED CARD OF 'zzlaws_pkg_record_b1.FnNextPieceEndsTheLineAtItsLF'. -/
def fnNextPieceEndsTheLineAtItsLFCard : Claim7 := { stood := { row := fnNextPieceEndsTheLineAtItsLFRow, standIns := [], harness := (true, "af2db68581740e395c507df274e355b4f37ffd8b4074c32bc3796fb4b9130c99"), looks := true }, kinds := [], alts := [], laidByText := true, laidKinds := [.sentinel, .sentinel, .sentinel, .sentinel], laidTests := true, laidLooks := .later }
def FnNextPieceEndsTheLineAtItsLFCardSaid : Prop := Claim7.holds Tryd.pinned (.plain (OpenSpec.ofChange fnNextPieceEndsTheLineAtItsLFSpec)) fnNextPieceEndsTheLineAtItsLFCard

/-- THE TIED CARD OF 'zzlaws_pkg_record_b1.FnReadSliceCutsAtLFOrBufferful'. -/
def fnReadSliceCutsAtLFOrBufferfulCard : Claim7 := { stood := { row := fnReadSliceCutsAtLFOrBufferfulRow, standIns := [], harness := (true, "af2db68581740e395c507df274e355b4f37ffd8b4074c32bc3796fb4b9130c99"), looks := true }, kinds := [], alts := [], laidByText := true, laidKinds := [.sentinel, .sentinel, .sentinel], laidTests := true, laidLooks := .later }
def FnReadSliceCutsAtLFOrBufferfulCardSaid : Prop := Claim7.holds Tryd.pinned (.plain (OpenSpec.ofChange fnReadSliceCutsAtLFOrBufferfulSpec)) fnReadSliceCutsAtLFOrBufferfulCard

/-- THE TIED CARD OF 'zzlaws_pkg_record_b1.FnReadSliceCountsWhatNextTook'. -/
def fnReadSliceCountsWhatNextTookCard : Claim7 := { stood := { row := fnReadSliceCountsWhatNextTookRow, standIns := [], harness := (true, "af2db68581740e395c507df274e355b4f37ffd8b4074c32bc3796fb4b9130c99"), looks := true }, kinds := [], alts := [], laidByText := true, laidKinds := [.sentinel, .sentinel, .sentinel, .sentinel], laidTests := true, laidLooks := .later }
def FnReadSliceCountsWhatNextTookCardSaid : Prop := Claim7.holds Tryd.pinned (.plain (OpenSpec.ofChange fnReadSliceCountsWhatNextTookSpec)) fnReadSliceCountsWhatNextTookCard
end Rows
end Go.Proofs.Qxb6613793aDoor
