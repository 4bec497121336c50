/-
  No cell of these rows narrows 'for every input' (looked for: loops, veiled, ifaces, maps, wideKeys, modest, calm, conditions, laid).
  DERIVED. THE GIVEN ROWS OF THIS SEAT. 5 by the template 'for every input the law returns true; each argument reads behind the call as it read before'; 0 by the template 'total and deterministic' (their statements: Qxb6605719aTotals.lean).
  GIVEN WITH THE SEED: the statements are not yours to turn. If you find one false, say at which input.
  Laid BY PROGRAM, IN A SANDBOX (cutbox-rows.mjs): the forced cells as the released guide's own fill.sh prints them over the translation d87b78c7dda7c71a… (all of the seat's roots in one cut). By AI agents, Wed Nov 11 2026. No macro, syntax, notation, axiom, sorry.
-/
import Derived.Test.Qxb6605719aChecked
import GoSem.Claim
import GoSem.ClaimJoined
import GoSem.ClaimMapViews
import Derived.JoinedTies
import Derived.KernelRfl
namespace Go.Proofs.Qxb6605719a
/- THE CELL 'sum', in the pinned program and in every row, IS THE sha256 OF THE DUMP (.gsa) THAT Qxb6605719aProg.lean LOADS. Nothing in Lean hashes anything: it is a label: what it is worth is what the hold of that sum in a sandbox is worth. -/
noncomputable def Try.pinned : Pinned := { name := "qxb6605719a", sum := "d87b78c7dda7c71aeb14ea543efb42960221ce8747f9a869b7e2d2c5965733b1", checked := Try.checked }
namespace Rows
def none {H : Type} : Left H := { results := [], args := [] }

/-- 'zzlaws_pkg_media_b1.FnIsFrameIsHuffmanDCTNonDifferentialSOF': WHATEVER THE INPUT: true; the input reads as it did. -/
def fnIsFrameIsHuffmanDCTNonDifferentialSOFSpec : ChangeSpec := { name := "fnIsFrameIsHuffmanDCTNonDifferentialSOF", fn := fun _ => fun
  | [d] => { results := [.lit (.bool true)], args := [d] }
  | _ => none }
def fnIsFrameIsHuffmanDCTNonDifferentialSOFRow : OpenClaim := { program := "qxb6605719a", sum := "d87b78c7dda7c71aeb14ea543efb42960221ce8747f9a869b7e2d2c5965733b1", func := "example.com/cairnstore/cairnstore/zzlaws_pkg_media_b1.FnIsFrameIsHuffmanDCTNonDifferentialSOF", spec := "fnIsFrameIsHuffmanDCTNonDifferentialSOF", apart := false }
def FnIsFrameIsHuffmanDCTNonDifferentialSOFSaid : Prop := fnIsFrameIsHuffmanDCTNonDifferentialSOFRow.holds Try.pinned (OpenSpec.ofChange fnIsFrameIsHuffmanDCTNonDifferentialSOFSpec)

/-- ITS FALSE NEIGHBOUR: 'it returns false'. Refute it at one input. -/
def fnIsFrameIsHuffmanDCTNonDifferentialSOFWrong : ChangeSpec := { name := "fnIsFrameIsHuffmanDCTNonDifferentialSOF", fn := fun _ => fun
  | [d] => { results := [.lit (.bool false)], args := [d] }
  | _ => none }
def FnIsFrameIsHuffmanDCTNonDifferentialSOFWrongFalsely : Prop := fnIsFrameIsHuffmanDCTNonDifferentialSOFRow.holds Try.pinned (OpenSpec.ofChange fnIsFrameIsHuffmanDCTNonDifferentialSOFWrong)

/-- 'zzlaws_pkg_media_b1.FnEndSegmentSettlesTheSegment': WHATEVER THE INPUT: true; the input reads as it did. -/
def fnEndSegmentSettlesTheSegmentSpec : ChangeSpec := { name := "fnEndSegmentSettlesTheSegment", fn := fun _ => fun
  | [d1, d2, d3, d4, d5, d6, d7, d8, d9, d10] => { results := [.lit (.bool true)], args := [d1, d2, d3, d4, d5, d6, d7, d8, d9, d10] }
  | _ => none }
def fnEndSegmentSettlesTheSegmentRow : OpenClaim := { program := "qxb6605719a", sum := "d87b78c7dda7c71aeb14ea543efb42960221ce8747f9a869b7e2d2c5965733b1", func := "example.com/cairnstore/cairnstore/zzlaws_pkg_media_b1.FnEndSegmentSettlesTheSegment", spec := "fnEndSegmentSettlesTheSegment", apart := false }
def FnEndSegmentSettlesTheSegmentSaid : Prop := fnEndSegmentSettlesTheSegmentRow.holds Try.pinned (OpenSpec.ofChange fnEndSegmentSettlesTheSegmentSpec)

/-- ITS FALSE NEIGHBOUR: 'it returns false'. Refute it at one input. -/
def fnEndSegmentSettlesTheSegmentWrong : ChangeSpec := { name := "fnEndSegmentSettlesTheSegment", fn := fun _ => fun
  | [d1, d2, d3, d4, d5, d6, d7, d8, d9, d10] => { results := [.lit (.bool false)], args := [d1, d2, d3, d4, d5, d6, d7, d8, d9, d10] }
  | _ => none }
def FnEndSegmentSettlesTheSegmentWrongFalsely : Prop := fnEndSegmentSettlesTheSegmentRow.holds Try.pinned (OpenSpec.ofChange fnEndSegmentSettlesTheSegmentWrong)

/-- 'zzlaws_pkg_media_b1.FnEndSegmentExifWindowReadsBackBody': WHATEVER THE INPUT: true; the input reads as it did. -/
def fnEndSegmentExifWindowReadsBackBodySpec : ChangeSpec := { name := "fnEndSegmentExifWindowReadsBackBody", fn := fun _ => fun
  | [d1, d2, d3, d4] => { results := [.lit (.bool true)], args := [d1, d2, d3, d4] }
  | _ => none }
def fnEndSegmentExifWindowReadsBackBodyRow : OpenClaim := { program := "qxb6605719a", sum := "d87b78c7dda7c71aeb14ea543efb42960221ce8747f9a869b7e2d2c5965733b1", func := "example.com/cairnstore/cairnstore/zzlaws_pkg_media_b1.FnEndSegmentExifWindowReadsBackBody", spec := "fnEndSegmentExifWindowReadsBackBody", apart := false }
def FnEndSegmentExifWindowReadsBackBodySaid : Prop := fnEndSegmentExifWindowReadsBackBodyRow.holds Try.pinned (OpenSpec.ofChange fnEndSegmentExifWindowReadsBackBodySpec)

/-- ITS FALSE NEIGHBOUR: 'it returns false'. Refute it at one input. -/
def fnEndSegmentExifWindowReadsBackBodyWrong : ChangeSpec := { name := "fnEndSegmentExifWindowReadsBackBody", fn := fun _ => fun
  | [d1, d2, d3, d4] => { results := [.lit (.bool false)], args := [d1, d2, d3, d4] }
  | _ => none }
def FnEndSegmentExifWindowReadsBackBodyWrongFalsely : Prop := fnEndSegmentExifWindowReadsBackBodyRow.holds Try.pinned (OpenSpec.ofChange fnEndSegmentExifWindowReadsBackBodyWrong)

/-- 'zzlaws_pkg_media_b1.FnResetForgetsWhatCameBefore': WHATEVER THE INPUT: true; the input reads as it did. -/
def fnResetForgetsWhatCameBeforeSpec : ChangeSpec := { name := "fnResetForgetsWhatCameBefore", fn := fun _ => fun
  | [d1, d2, d3, d4, d5, d6, d7, d8, d9, d10, d11, d12] => { results := [.lit (.bool true)], args := [d1, d2, d3, d4, d5, d6, d7, d8, d9, d10, d11, d12] }
  | _ => none }
def fnResetForgetsWhatCameBeforeRow : OpenClaim := { program := "qxb6605719a", sum := "d87b78c7dda7c71aeb14ea543efb42960221ce8747f9a869b7e2d2c5965733b1", func := "example.com/cairnstore/cairnstore/zzlaws_pkg_media_b1.FnResetForgetsWhatCameBefore", spec := "fnResetForgetsWhatCameBefore", apart := false }
def FnResetForgetsWhatCameBeforeSaid : Prop := fnResetForgetsWhatCameBeforeRow.holds Try.pinned (OpenSpec.ofChange fnResetForgetsWhatCameBeforeSpec)

/-- ITS FALSE NEIGHBOUR: 'it returns false'. Refute it at one input. -/
def fnResetForgetsWhatCameBeforeWrong : ChangeSpec := { name := "fnResetForgetsWhatCameBefore", fn := fun _ => fun
  | [d1, d2, d3, d4, d5, d6, d7, d8, d9, d10, d11, d12] => { results := [.lit (.bool false)], args := [d1, d2, d3, d4, d5, d6, d7, d8, d9, d10, d11, d12] }
  | _ => none }
def FnResetForgetsWhatCameBeforeWrongFalsely : Prop := fnResetForgetsWhatCameBeforeRow.holds Try.pinned (OpenSpec.ofChange fnResetForgetsWhatCameBeforeWrong)

/-- 'zzlaws_pkg_media_b1.FnTiffEntryReadsBackWrittenDirectory': WHATEVER THE INPUT: true; the input reads as it did. -/
def fnTiffEntryReadsBackWrittenDirectorySpec : ChangeSpec := { name := "fnTiffEntryReadsBackWrittenDirectory", fn := fun _ => fun
  | [d1, d2, d3, d4, d5] => { results := [.lit (.bool true)], args := [d1, d2, d3, d4, d5] }
  | _ => none }
def fnTiffEntryReadsBackWrittenDirectoryRow : OpenClaim := { program := "qxb6605719a", sum := "d87b78c7dda7c71aeb14ea543efb42960221ce8747f9a869b7e2d2c5965733b1", func := "example.com/cairnstore/cairnstore/zzlaws_pkg_media_b1.FnTiffEntryReadsBackWrittenDirectory", spec := "fnTiffEntryReadsBackWrittenDirectory", unfollowed := true, recurses := true, named := ["encoding/binary.BigEndian", "encoding/binary.LittleEndian"], apart := false }
def FnTiffEntryReadsBackWrittenDirectorySaid : Prop := fnTiffEntryReadsBackWrittenDirectoryRow.holds Try.pinned (OpenSpec.ofChange fnTiffEntryReadsBackWrittenDirectorySpec)

/-- ITS FALSE NEIGHBOUR: 'it returns false'. Refute it at one input. -/
def fnTiffEntryReadsBackWrittenDirectoryWrong : ChangeSpec := { name := "fnTiffEntryReadsBackWrittenDirectory", fn := fun _ => fun
  | [d1, d2, d3, d4, d5] => { results := [.lit (.bool false)], args := [d1, d2, d3, d4, d5] }
  | _ => none }
def FnTiffEntryReadsBackWrittenDirectoryWrongFalsely : Prop := fnTiffEntryReadsBackWrittenDirectoryRow.holds Try.pinned (OpenSpec.ofChange fnTiffEntryReadsBackWrittenDirectoryWrong)

end Rows
end Go.Proofs.Qxb6605719a
