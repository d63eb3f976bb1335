/-
  NARROWER THAN 'FOR EVERY INPUT', by the rows' own cells (each row's printed sentence says how): FnNewReaderHeadReadsAt64KiB: laid · FnNewReaderAgreesWithAnySize: laid · FnNextReadsEveryRecord: laid · FnNextJoinOfTwoStreams: laid · FnNextPieceCutsTheRestIntoBufferfuls: laid · FnNextPieceEndsTheLineAtItsLF: laid · FnReadSliceCutsAtLFOrBufferful: laid · FnReadSliceCountsWhatNextTook: laid.
  DERIVED. THE GIVEN ROWS OF THIS SEAT. 8 by the template 'for every input the law returns true; each argument reads behind the call as it read before'; 0 by the template 'total and deterministic' (their statements: Qxb6613793aDoorTotals.lean).
  GIVEN WITH THE SEED: the statements are not yours to turn. If you find one false, say at which input.
  Laid BY PROGRAM, IN A SANDBOX (cutbox-rows.mjs): the forced cells as the released guide's own fill.sh prints them over the translation fe2a407b80a7cf3c… (all of the seat's roots in one cut). By AI agents, Wed Nov 11 2026. No macro, syntax, notation, axiom, sorry.
-/
import Derived.Test.Qxb6613793aDoorChecked
import GoSem.Claim
import GoSem.ClaimJoined
import GoSem.ClaimMapViews
import Derived.JoinedTies
import Derived.KernelRfl
namespace Go.Proofs.Qxb6613793aDoor
/- THE CELL 'sum', in the pinned program and in every row, IS THE sha256 OF THE DUMP (.gsa) THAT Qxb6613793aDoorProg.lean LOADS. Nothing in Lean hashes anything: it is a label: what it is worth is what the hold of that sum in a sandbox is worth. -/
noncomputable def Tryd.pinned : Pinned := { name := "qxb6613793adoor", sum := "fe2a407b80a7cf3ca6260380117b5ae9139327157fdab8d0127ff2b945e27c03", checked := Tryd.checked }
namespace Rows
def none {H : Type} : Left H := { results := [], args := [] }

/- WHAT THE LISTED PACKAGE-LEVEL VARIABLES READ AS WHEN THE CALL BEGINS. Each datum BY PROGRAM (the guide's laid-datum.mjs) off the statement by which the dump's own 'gosem.cut.vars' lays the variable. In a bare row this is a premise. The card (Qxb6613793aDoorCards.lean) ties it to the program's text. -/
def laid_io_EOF {H : Type} : DataW H := .iface "*errors.errorString" (.ptr (.agg [.lit (.string [69, 79, 70])]))
def laid_io_ErrNoProgress {H : Type} : DataW H := .iface "*errors.errorString" (.ptr (.agg [.lit (.string [109, 117, 108, 116, 105, 112, 108, 101, 32, 82, 101, 97, 100, 32, 99, 97, 108, 108, 115, 32, 114, 101, 116, 117, 114, 110, 32, 110, 111, 32, 100, 97, 116, 97, 32, 111, 114, 32, 101, 114, 114, 111, 114])]))
def laid_bufio_ErrBufferFull {H : Type} : DataW H := .iface "*errors.errorString" (.ptr (.agg [.lit (.string [98, 117, 102, 105, 111, 58, 32, 98, 117, 102, 102, 101, 114, 32, 102, 117, 108, 108])]))
def laid_bufio_errNegativeRead {H : Type} : DataW H := .iface "*errors.errorString" (.ptr (.agg [.lit (.string [98, 117, 102, 105, 111, 58, 32, 114, 101, 97, 100, 101, 114, 32, 114, 101, 116, 117, 114, 110, 101, 100, 32, 110, 101, 103, 97, 116, 105, 118, 101, 32, 99, 111, 117, 110, 116, 32, 102, 114, 111, 109, 32, 82, 101, 97, 100])]))

/-- 'zzlaws_pkg_record_b1.FnNewReaderHeadReadsAt64KiB': WHATEVER THE INPUT: true; the input reads as it did. -/
def fnNewReaderHeadReadsAt64KiBSpec : ChangeSpec := { name := "fnNewReaderHeadReadsAt64KiB", fn := fun _ => fun
  | [d] => { results := [.lit (.bool true)], args := [d] }
  | _ => none }
def fnNewReaderHeadReadsAt64KiBRow : OpenClaim := { program := "qxb6613793adoor", sum := "fe2a407b80a7cf3ca6260380117b5ae9139327157fdab8d0127ff2b945e27c03", func := "example.com/keyfold/keyfold/zzlaws_pkg_record_b1.FnNewReaderHeadReadsAt64KiB", spec := "fnNewReaderHeadReadsAt64KiB", inPlace := ["internal/bytealg.IndexByte", "internal/reflectlite.TypeOf"], unfollowed := true, recurses := true, named := ["bufio.ErrBufferFull", "io.EOF", "bufio.errNegativeRead", "io.ErrNoProgress"], apart := false, laid := [("io.EOF", laid_io_EOF), ("io.ErrNoProgress", laid_io_ErrNoProgress), ("bufio.ErrBufferFull", laid_bufio_ErrBufferFull), ("bufio.errNegativeRead", laid_bufio_errNegativeRead)] }
def FnNewReaderHeadReadsAt64KiBSaid : Prop := fnNewReaderHeadReadsAt64KiBRow.holds Tryd.pinned (OpenSpec.ofChange fnNewReaderHeadReadsAt64KiBSpec)

/-- ITS FALSE NEIGHBOUR: 'it returns false'. Refute it at one input. -/
def fnNewReaderHeadReadsAt64KiBWrong : ChangeSpec := { name := "fnNewReaderHeadReadsAt64KiB", fn := fun _ => fun
  | [d] => { results := [.lit (.bool false)], args := [d] }
  | _ => none }
def FnNewReaderHeadReadsAt64KiBWrongFalsely : Prop := fnNewReaderHeadReadsAt64KiBRow.holds Tryd.pinned (OpenSpec.ofChange fnNewReaderHeadReadsAt64KiBWrong)

/-- 'zzlaws_pkg_record_b1.FnNewReaderAgreesWithAnySize': WHATEVER THE INPUT: true; the input reads as it did. -/
def fnNewReaderAgreesWithAnySizeSpec : ChangeSpec := { name := "fnNewReaderAgreesWithAnySize", fn := fun _ => fun
  | [d1, d2] => { results := [.lit (.bool true)], args := [d1, d2] }
  | _ => none }
def fnNewReaderAgreesWithAnySizeRow : OpenClaim := { program := "qxb6613793adoor", sum := "fe2a407b80a7cf3ca6260380117b5ae9139327157fdab8d0127ff2b945e27c03", func := "example.com/keyfold/keyfold/zzlaws_pkg_record_b1.FnNewReaderAgreesWithAnySize", spec := "fnNewReaderAgreesWithAnySize", inPlace := ["internal/bytealg.IndexByte", "internal/reflectlite.TypeOf"], unfollowed := true, recurses := true, named := ["bufio.ErrBufferFull", "io.EOF", "bufio.errNegativeRead", "io.ErrNoProgress"], apart := false, laid := [("io.EOF", laid_io_EOF), ("io.ErrNoProgress", laid_io_ErrNoProgress), ("bufio.ErrBufferFull", laid_bufio_ErrBufferFull), ("bufio.errNegativeRead", laid_bufio_errNegativeRead)] }
def FnNewReaderAgreesWithAnySizeSaid : Prop := fnNewReaderAgreesWithAnySizeRow.holds Tryd.pinned (OpenSpec.ofChange fnNewReaderAgreesWithAnySizeSpec)

/-- ITS FALSE NEIGHBOUR: 'it returns false'. Refute it at one input. -/
def fnNewReaderAgreesWithAnySizeWrong : ChangeSpec := { name := "fnNewReaderAgreesWithAnySize", fn := fun _ => fun
  | [d1, d2] => { results := [.lit (.bool false)], args := [d1, d2] }
  | _ => none }
def FnNewReaderAgreesWithAnySizeWrongFalsely : Prop := fnNewReaderAgreesWithAnySizeRow.holds Tryd.pinned (OpenSpec.ofChange fnNewReaderAgreesWithAnySizeWrong)

/-- 'zzlaws_pkg_record_b1.FnNextReadsEveryRecord': WHATEVER THE INPUT: true; the input reads as it did. -/
def fnNextReadsEveryRecordSpec : ChangeSpec := { name := "fnNextReadsEveryRecord", fn := fun _ => fun
  | [d1, d2] => { results := [.lit (.bool true)], args := [d1, d2] }
  | _ => none }
def fnNextReadsEveryRecordRow : OpenClaim := { program := "qxb6613793adoor", sum := "fe2a407b80a7cf3ca6260380117b5ae9139327157fdab8d0127ff2b945e27c03", func := "example.com/keyfold/keyfold/zzlaws_pkg_record_b1.FnNextReadsEveryRecord", spec := "fnNextReadsEveryRecord", inPlace := ["internal/bytealg.IndexByte", "internal/reflectlite.TypeOf"], unfollowed := true, recurses := true, named := ["bufio.ErrBufferFull", "io.EOF", "bufio.errNegativeRead", "io.ErrNoProgress"], apart := false, laid := [("io.EOF", laid_io_EOF), ("io.ErrNoProgress", laid_io_ErrNoProgress), ("bufio.ErrBufferFull", laid_bufio_ErrBufferFull), ("bufio.errNegativeRead", laid_bufio_errNegativeRead)] }
def FnNextReadsEveryRecordSaid : Prop := fnNextReadsEveryRecordRow.holds Tryd.pinned (OpenSpec.ofChange fnNextReadsEveryRecordSpec)

/-- ITS FALSE NEIGHBOUR: 'it returns false'. Refute it at one input. -/
def fnNextReadsEveryRecordWrong : ChangeSpec := { name := "fnNextReadsEveryRecord", fn := fun _ => fun
  | [d1, d2] => { results := [.lit (.bool false)], args := [d1, d2] }
  | _ => none }
def FnNextReadsEveryRecordWrongFalsely : Prop := fnNextReadsEveryRecordRow.holds Tryd.pinned (OpenSpec.ofChange fnNextReadsEveryRecordWrong)

/-- 'zzlaws_pkg_record_b1.FnNextJoinOfTwoStreams': WHATEVER THE INPUT: true; the input reads as it did. -/
def fnNextJoinOfTwoStreamsSpec : ChangeSpec := { name := "fnNextJoinOfTwoStreams", fn := fun _ => fun
  | [d1, d2, d3] => { results := [.lit (.bool true)], args := [d1, d2, d3] }
  | _ => none }
def fnNextJoinOfTwoStreamsRow : OpenClaim := { program := "qxb6613793adoor", sum := "fe2a407b80a7cf3ca6260380117b5ae9139327157fdab8d0127ff2b945e27c03", func := "example.com/keyfold/keyfold/zzlaws_pkg_record_b1.FnNextJoinOfTwoStreams", spec := "fnNextJoinOfTwoStreams", inPlace := ["internal/bytealg.IndexByte", "internal/reflectlite.TypeOf"], unfollowed := true, recurses := true, named := ["bufio.ErrBufferFull", "io.EOF", "bufio.errNegativeRead", "io.ErrNoProgress"], apart := false, laid := [("io.EOF", laid_io_EOF), ("io.ErrNoProgress", laid_io_ErrNoProgress), ("bufio.ErrBufferFull", laid_bufio_ErrBufferFull), ("bufio.errNegativeRead", laid_bufio_errNegativeRead)] }
def FnNextJoinOfTwoStreamsSaid : Prop := fnNextJoinOfTwoStreamsRow.holds Tryd.pinned (OpenSpec.ofChange fnNextJoinOfTwoStreamsSpec)

/-- ITS FALSE NEIGHBOUR: 'it returns false'. Refute it at one input. -/
def fnNextJoinOfTwoStreamsWrong : ChangeSpec := { name := "fnNextJoinOfTwoStreams", fn := fun _ => fun
  | [d1, d2, d3] => { results := [.lit (.bool false)], args := [d1, d2, d3] }
  | _ => none }
def FnNextJoinOfTwoStreamsWrongFalsely : Prop := fnNextJoinOfTwoStreamsRow.holds Tryd.pinned (OpenSpec.ofChange fnNextJoinOfTwoStreamsWrong)

/-- 'zzlaws_pkg_record_b1.FnNextPieceCutsTheRestIntoBufferfuls': WHATEVER THE INPUT: true; the input reads as it did. -/
def fnNextPieceCutsTheRestIntoBufferfulsSpec : ChangeSpec := { name := "fnNextPieceCutsTheRestIntoBufferfuls", fn := fun _ => fun
  | [d1, d2] => { results := [.lit (.bool true)], args := [d1, d2] }
  | _ => none }
def fnNextPieceCutsTheRestIntoBufferfulsRow : OpenClaim := { program := "qxb6613793adoor", sum := "fe2a407b80a7cf3ca6260380117b5ae9139327157fdab8d0127ff2b945e27c03", func := "example.com/keyfold/keyfold/zzlaws_pkg_record_b1.FnNextPieceCutsTheRestIntoBufferfuls", spec := "fnNextPieceCutsTheRestIntoBufferfuls", inPlace := ["internal/bytealg.IndexByte", "internal/reflectlite.TypeOf"], unfollowed := true, recurses := true, named := ["bufio.ErrBufferFull", "io.EOF", "bufio.errNegativeRead", "io.ErrNoProgress"], apart := false, laid := [("io.EOF", laid_io_EOF), ("io.ErrNoProgress", laid_io_ErrNoProgress), ("bufio.ErrBufferFull", laid_bufio_ErrBufferFull), ("bufio.errNegativeRead", laid_bufio_errNegativeRead)] }
def FnNextPieceCutsTheRestIntoBufferfulsSaid : Prop := fnNextPieceCutsTheRestIntoBufferfulsRow.holds Tryd.pinned (OpenSpec.ofChange fnNextPieceCutsTheRestIntoBufferfulsSpec)

/-- ITS FALSE NEIGHBOUR: 'it returns false'. Refute it at one input. -/
def fnNextPieceCutsTheRestIntoBufferfulsWrong : ChangeSpec := { name := "fnNextPieceCutsTheRestIntoBufferfuls", fn := fun _ => fun
  | [d1, d2] => { results := [.lit (.bool false)], args := [d1, d2] }
  | _ => none }
def FnNextPieceCutsTheRestIntoBufferfulsWrongFalsely : Prop := fnNextPieceCutsTheRestIntoBufferfulsRow.holds Tryd.pinned (OpenSpec.ofChange fnNextPieceCutsTheRestIntoBufferfulsWrong)

/-- 'zzlaws_pkg_record_b1.FnNextPieceEndsTheLineAtItsLF': WHATEVER THE INPUT: true; the input reads as it did. -/
def fnNextPieceEndsTheLineAtItsLFSpec : ChangeSpec := { name := "fnNextPieceEndsTheLineAtItsLF", fn := fun _ => fun
  | [d1, d2] => { results := [.lit (.bool true)], args := [d1, d2] }
  | _ => none }
def fnNextPieceEndsTheLineAtItsLFRow : OpenClaim := { program := "qxb6613793adoor", sum := "fe2a407b80a7cf3ca6260380117b5ae9139327157fdab8d0127ff2b945e27c03", func := "example.com/keyfold/keyfold/zzlaws_pkg_record_b1.FnNextPieceEndsTheLineAtItsLF", spec := "fnNextPieceEndsTheLineAtItsLF", inPlace := ["internal/bytealg.IndexByte", "internal/reflectlite.TypeOf"], unfollowed := true, recurses := true, named := ["bufio.ErrBufferFull", "io.EOF", "bufio.errNegativeRead", "io.ErrNoProgress"], apart := false, laid := [("io.EOF", laid_io_EOF), ("io.ErrNoProgress", laid_io_ErrNoProgress), ("bufio.ErrBufferFull", laid_bufio_ErrBufferFull), ("bufio.errNegativeRead", laid_bufio_errNegativeRead)] }
def FnNextPieceEndsTheLineAtItsLFSaid : Prop := fnNextPieceEndsTheLineAtItsLFRow.holds Tryd.pinned (OpenSpec.ofChange fnNextPieceEndsTheLineAtItsLFSpec)

/-- ITS FALSE NEIGHBOUR: 'it returns false'. Refute it at one input. -/
def fnNextPieceEndsTheLineAtItsLFWrong : ChangeSpec := { name := "fnNextPieceEndsTheLineAtItsLF", fn := fun _ => fun
  | [d1, d2] => { results := [.lit (.bool false)], args := [d1, d2] }
  | _ => none }
def FnNextPieceEndsTheLineAtItsLFWrongFalsely : Prop := fnNextPieceEndsTheLineAtItsLFRow.holds Tryd.pinned (OpenSpec.ofChange fnNextPieceEndsTheLineAtItsLFWrong)

/-- 'zzlaws_pkg_record_b1.FnReadSliceCutsAtLFOrBufferful': WHATEVER THE INPUT: true; the input reads as it did. -/
def fnReadSliceCutsAtLFOrBufferfulSpec : ChangeSpec := { name := "fnReadSliceCutsAtLFOrBufferful", fn := fun _ => fun
  | [d1, d2] => { results := [.lit (.bool true)], args := [d1, d2] }
  | _ => none }
def fnReadSliceCutsAtLFOrBufferfulRow : OpenClaim := { program := "qxb6613793adoor", sum := "fe2a407b80a7cf3ca6260380117b5ae9139327157fdab8d0127ff2b945e27c03", func := "example.com/keyfold/keyfold/zzlaws_pkg_record_b1.FnReadSliceCutsAtLFOrBufferful", spec := "fnReadSliceCutsAtLFOrBufferful", inPlace := ["internal/bytealg.IndexByte"], unfollowed := true, recurses := true, named := ["bufio.ErrBufferFull", "bufio.errNegativeRead", "io.ErrNoProgress"], apart := false, laid := [("io.ErrNoProgress", laid_io_ErrNoProgress), ("bufio.ErrBufferFull", laid_bufio_ErrBufferFull), ("bufio.errNegativeRead", laid_bufio_errNegativeRead)] }
def FnReadSliceCutsAtLFOrBufferfulSaid : Prop := fnReadSliceCutsAtLFOrBufferfulRow.holds Tryd.pinned (OpenSpec.ofChange fnReadSliceCutsAtLFOrBufferfulSpec)

/-- ITS FALSE NEIGHBOUR: 'it returns false'. Refute it at one input. -/
def fnReadSliceCutsAtLFOrBufferfulWrong : ChangeSpec := { name := "fnReadSliceCutsAtLFOrBufferful", fn := fun _ => fun
  | [d1, d2] => { results := [.lit (.bool false)], args := [d1, d2] }
  | _ => none }
def FnReadSliceCutsAtLFOrBufferfulWrongFalsely : Prop := fnReadSliceCutsAtLFOrBufferfulRow.holds Tryd.pinned (OpenSpec.ofChange fnReadSliceCutsAtLFOrBufferfulWrong)

/-- 'zzlaws_pkg_record_b1.FnReadSliceCountsWhatNextTook': WHATEVER THE INPUT: true; the input reads as it did. -/
def fnReadSliceCountsWhatNextTookSpec : ChangeSpec := { name := "fnReadSliceCountsWhatNextTook", fn := fun _ => fun
  | [d1, d2] => { results := [.lit (.bool true)], args := [d1, d2] }
  | _ => none }
def fnReadSliceCountsWhatNextTookRow : OpenClaim := { program := "qxb6613793adoor", sum := "fe2a407b80a7cf3ca6260380117b5ae9139327157fdab8d0127ff2b945e27c03", func := "example.com/keyfold/keyfold/zzlaws_pkg_record_b1.FnReadSliceCountsWhatNextTook", spec := "fnReadSliceCountsWhatNextTook", inPlace := ["internal/bytealg.IndexByte", "internal/reflectlite.TypeOf"], unfollowed := true, recurses := true, named := ["bufio.ErrBufferFull", "io.EOF", "bufio.errNegativeRead", "io.ErrNoProgress"], apart := false, laid := [("io.EOF", laid_io_EOF), ("io.ErrNoProgress", laid_io_ErrNoProgress), ("bufio.ErrBufferFull", laid_bufio_ErrBufferFull), ("bufio.errNegativeRead", laid_bufio_errNegativeRead)] }
def FnReadSliceCountsWhatNextTookSaid : Prop := fnReadSliceCountsWhatNextTookRow.holds Tryd.pinned (OpenSpec.ofChange fnReadSliceCountsWhatNextTookSpec)

/-- ITS FALSE NEIGHBOUR: 'it returns false'. Refute it at one input. -/
def fnReadSliceCountsWhatNextTookWrong : ChangeSpec := { name := "fnReadSliceCountsWhatNextTook", fn := fun _ => fun
  | [d1, d2] => { results := [.lit (.bool false)], args := [d1, d2] }
  | _ => none }
def FnReadSliceCountsWhatNextTookWrongFalsely : Prop := fnReadSliceCountsWhatNextTookRow.holds Tryd.pinned (OpenSpec.ofChange fnReadSliceCountsWhatNextTookWrong)

end Rows
end Go.Proofs.Qxb6613793aDoor
