/-
  NARROWER THAN 'FOR EVERY INPUT', by the rows' own cells (each row's printed sentence says how): FnHuffAgain: laid · FnHuffTableAny: laid · FnHuffDecodes: laid · FnHuffLong: laid · FnHuffRising: laid · FnHuffSame: laid · FnHuffTable: laid · FnHuffScriptDecodes: laid · FnHuffTransferFine: laid · FnHuffMustFine: laid · FnHuffMustLong: laid.
  DERIVED. THE GIVEN ROWS OF THIS SEAT. 11 by the template 'for every input the law returns true; each argument reads behind the call as it read before'; 0 by the template 'total and deterministic' (their statements: YtlnhldlhmplphaaDoorTotals.lean).
  GIVEN WITH THE SEED: the statements are not yours to turn. If you find one false, say at which input.
  Laid BY PROGRAM, IN A SANDBOX (cutbox-rows.mjs): the forced cells as the released guide's own fill.sh prints them over the translation e6df4186764a201e… (all of the seat's roots in one cut). By AI agents, Wed Nov 11 2026. No macro, syntax, notation, axiom, sorry.
-/
import Derived.Test.YtlnhldlhmplphaaDoorChecked
import GoSem.Claim
import GoSem.ClaimJoined
import GoSem.ClaimMapViews
import Derived.JoinedTies
import Derived.KernelRfl
namespace Go.Proofs.YtlnhldlhmplphaaDoor
/- THE CELL 'sum', in the pinned program and in every row, IS THE sha256 OF THE DUMP (.gsa) THAT YtlnhldlhmplphaaDoorProg.lean LOADS. Nothing in Lean hashes anything: it is a label: what it is worth is what the hold of that sum in a sandbox is worth. -/
noncomputable def Tryd.pinned : Pinned := { name := "ytlnhldlhmplphaadoor", sum := "e6df4186764a201ec5d967d9c3c570459c6b45f4c12491600a2d6311913f564d", checked := Tryd.checked }
namespace Rows
def none {H : Type} : Left H := { results := [], args := [] }

/- WHAT THE LISTED PACKAGE-LEVEL VARIABLES READ AS WHEN THE CALL BEGINS. Each datum BY PROGRAM (the guide's laid-datum.mjs) off the statement by which the dump's own 'gosem.cut.vars' lays the variable. In a bare row this is a premise. The card (YtlnhldlhmplphaaDoorCards.lean) ties it to the program's text. -/
def laid_io_ErrUnexpectedEOF {H : Type} : DataW H := .iface "*errors.errorString" (.ptr (.agg [.lit (.string [117, 110, 101, 120, 112, 101, 99, 116, 101, 100, 32, 69, 79, 70])]))
def laid_pub_pemmican_pub_compress_fse_bitMask16 {H : Type} : DataW H := .agg [.lit (.int .u16 0), .lit (.int .u16 1), .lit (.int .u16 3), .lit (.int .u16 7), .lit (.int .u16 15), .lit (.int .u16 31), .lit (.int .u16 63), .lit (.int .u16 127), .lit (.int .u16 255), .lit (.int .u16 511), .lit (.int .u16 1023), .lit (.int .u16 2047), .lit (.int .u16 4095), .lit (.int .u16 8191), .lit (.int .u16 16383), .lit (.int .u16 32767), .lit (.int .u16 65535), .lit (.int .u16 65535), .lit (.int .u16 65535), .lit (.int .u16 65535), .lit (.int .u16 65535), .lit (.int .u16 65535), .lit (.int .u16 65535), .lit (.int .u16 65535), .lit (.int .u16 65535), .lit (.int .u16 65535), .lit (.int .u16 0), .lit (.int .u16 0), .lit (.int .u16 0), .lit (.int .u16 0), .lit (.int .u16 0), .lit (.int .u16 0)]
def laid_pub_pemmican_pub_compress_fse_rtbTable {H : Type} : DataW H := .agg [.lit (.int .u32 0), .lit (.int .u32 473195), .lit (.int .u32 504333), .lit (.int .u32 520860), .lit (.int .u32 550000), .lit (.int .u32 700000), .lit (.int .u32 750000), .lit (.int .u32 830000)]
def laid_pub_pemmican_pub_compress_fse_ErrIncompressible {H : Type} : DataW H := .iface "*errors.errorString" (.ptr (.agg [.lit (.string [105, 110, 112, 117, 116, 32, 105, 115, 32, 110, 111, 116, 32, 99, 111, 109, 112, 114, 101, 115, 115, 105, 98, 108, 101])]))
def laid_pub_pemmican_pub_compress_fse_ErrUseRLE {H : Type} : DataW H := .iface "*errors.errorString" (.ptr (.agg [.lit (.string [105, 110, 112, 117, 116, 32, 105, 115, 32, 115, 105, 110, 103, 108, 101, 32, 118, 97, 108, 117, 101, 32, 114, 101, 112, 101, 97, 116, 101, 100])]))
def laid_pub_pemmican_pub_compress_huff0_ErrIncompressible {H : Type} : DataW H := .iface "*errors.errorString" (.ptr (.agg [.lit (.string [105, 110, 112, 117, 116, 32, 105, 115, 32, 110, 111, 116, 32, 99, 111, 109, 112, 114, 101, 115, 115, 105, 98, 108, 101])]))
def laid_pub_pemmican_pub_compress_huff0_ErrTooBig {H : Type} : DataW H := .iface "*errors.errorString" (.ptr (.agg [.lit (.string [105, 110, 112, 117, 116, 32, 116, 111, 111, 32, 98, 105, 103])]))
def laid_pub_pemmican_pub_compress_huff0_ErrUseRLE {H : Type} : DataW H := .iface "*errors.errorString" (.ptr (.agg [.lit (.string [105, 110, 112, 117, 116, 32, 105, 115, 32, 115, 105, 110, 103, 108, 101, 32, 118, 97, 108, 117, 101, 32, 114, 101, 112, 101, 97, 116, 101, 100])]))

/-- 'laws.FnHuffAgain': WHATEVER THE INPUT: true; the input reads as it did. -/
def fnHuffAgainSpec : ChangeSpec := { name := "fnHuffAgain", fn := fun _ => fun
  | [d] => { results := [.lit (.bool true)], args := [d] }
  | _ => none }
def fnHuffAgainRow : OpenClaim := { program := "ytlnhldlhmplphaadoor", sum := "e6df4186764a201ec5d967d9c3c570459c6b45f4c12491600a2d6311913f564d", func := "pub-pemmican/laws.FnHuffAgain", spec := "fnHuffAgain", named := ["pub-pemmican/pub/compress/huff0.ErrTooBig", "encoding/binary.LittleEndian", "io.ErrUnexpectedEOF", "pub-pemmican/pub/compress/huff0.ErrIncompressible", "pub-pemmican/pub/compress/fse.ErrIncompressible", "pub-pemmican/pub/compress/fse.ErrUseRLE", "pub-pemmican/pub/compress/fse.rtbTable", "pub-pemmican/pub/compress/fse.bitMask16"], apart := false, laid := [("io.ErrUnexpectedEOF", laid_io_ErrUnexpectedEOF), ("pub-pemmican/pub/compress/fse.bitMask16", laid_pub_pemmican_pub_compress_fse_bitMask16), ("pub-pemmican/pub/compress/fse.rtbTable", laid_pub_pemmican_pub_compress_fse_rtbTable), ("pub-pemmican/pub/compress/fse.ErrIncompressible", laid_pub_pemmican_pub_compress_fse_ErrIncompressible), ("pub-pemmican/pub/compress/fse.ErrUseRLE", laid_pub_pemmican_pub_compress_fse_ErrUseRLE), ("pub-pemmican/pub/compress/huff0.ErrIncompressible", laid_pub_pemmican_pub_compress_huff0_ErrIncompressible), ("pub-pemmican/pub/compress/huff0.ErrTooBig", laid_pub_pemmican_pub_compress_huff0_ErrTooBig)] }
def FnHuffAgainSaid : Prop := fnHuffAgainRow.holds Tryd.pinned (OpenSpec.ofChange fnHuffAgainSpec)

/-- ITS FALSE NEIGHBOUR: 'it returns false'. Refute it at one input. -/
def fnHuffAgainWrong : ChangeSpec := { name := "fnHuffAgain", fn := fun _ => fun
  | [d] => { results := [.lit (.bool false)], args := [d] }
  | _ => none }
def FnHuffAgainWrongFalsely : Prop := fnHuffAgainRow.holds Tryd.pinned (OpenSpec.ofChange fnHuffAgainWrong)

/-- 'laws.FnHuffTableAny': WHATEVER THE INPUT: true; the input reads as it did. -/
def fnHuffTableAnySpec : ChangeSpec := { name := "fnHuffTableAny", fn := fun _ => fun
  | [d1, d2, d3] => { results := [.lit (.bool true)], args := [d1, d2, d3] }
  | _ => none }
def fnHuffTableAnyRow : OpenClaim := { program := "ytlnhldlhmplphaadoor", sum := "e6df4186764a201ec5d967d9c3c570459c6b45f4c12491600a2d6311913f564d", func := "pub-pemmican/laws.FnHuffTableAny", spec := "fnHuffTableAny", named := ["pub-pemmican/pub/compress/huff0.ErrTooBig", "encoding/binary.LittleEndian", "io.ErrUnexpectedEOF", "pub-pemmican/pub/compress/huff0.ErrIncompressible", "pub-pemmican/pub/compress/fse.ErrIncompressible", "pub-pemmican/pub/compress/fse.ErrUseRLE", "pub-pemmican/pub/compress/fse.rtbTable", "pub-pemmican/pub/compress/fse.bitMask16"], apart := false, laid := [("io.ErrUnexpectedEOF", laid_io_ErrUnexpectedEOF), ("pub-pemmican/pub/compress/fse.bitMask16", laid_pub_pemmican_pub_compress_fse_bitMask16), ("pub-pemmican/pub/compress/fse.rtbTable", laid_pub_pemmican_pub_compress_fse_rtbTable), ("pub-pemmican/pub/compress/fse.ErrIncompressible", laid_pub_pemmican_pub_compress_fse_ErrIncompressible), ("pub-pemmican/pub/compress/fse.ErrUseRLE", laid_pub_pemmican_pub_compress_fse_ErrUseRLE), ("pub-pemmican/pub/compress/huff0.ErrIncompressible", laid_pub_pemmican_pub_compress_huff0_ErrIncompressible), ("pub-pemmican/pub/compress/huff0.ErrTooBig", laid_pub_pemmican_pub_compress_huff0_ErrTooBig)] }
def FnHuffTableAnySaid : Prop := fnHuffTableAnyRow.holds Tryd.pinned (OpenSpec.ofChange fnHuffTableAnySpec)

/-- ITS FALSE NEIGHBOUR: 'it returns false'. Refute it at one input. -/
def fnHuffTableAnyWrong : ChangeSpec := { name := "fnHuffTableAny", fn := fun _ => fun
  | [d1, d2, d3] => { results := [.lit (.bool false)], args := [d1, d2, d3] }
  | _ => none }
def FnHuffTableAnyWrongFalsely : Prop := fnHuffTableAnyRow.holds Tryd.pinned (OpenSpec.ofChange fnHuffTableAnyWrong)

/-- 'laws.FnHuffDecodes': WHATEVER THE INPUT: true; the input reads as it did. -/
def fnHuffDecodesSpec : ChangeSpec := { name := "fnHuffDecodes", fn := fun _ => fun
  | [d1, d2, d3] => { results := [.lit (.bool true)], args := [d1, d2, d3] }
  | _ => none }
def fnHuffDecodesRow : OpenClaim := { program := "ytlnhldlhmplphaadoor", sum := "e6df4186764a201ec5d967d9c3c570459c6b45f4c12491600a2d6311913f564d", func := "pub-pemmican/laws.FnHuffDecodes", spec := "fnHuffDecodes", unfollowed := true, recurses := true, named := ["pub-pemmican/pub/compress/huff0.ErrTooBig", "pub-pemmican/pub/compress/huff0.ErrIncompressible", "encoding/binary.LittleEndian", "pub-pemmican/pub/compress/huff0.ErrUseRLE", "pub-pemmican/pub/compress/fse.ErrIncompressible", "pub-pemmican/pub/compress/fse.ErrUseRLE", "pub-pemmican/pub/compress/fse.rtbTable", "pub-pemmican/pub/compress/fse.bitMask16"], apart := false, laid := [("pub-pemmican/pub/compress/fse.bitMask16", laid_pub_pemmican_pub_compress_fse_bitMask16), ("pub-pemmican/pub/compress/fse.rtbTable", laid_pub_pemmican_pub_compress_fse_rtbTable), ("pub-pemmican/pub/compress/fse.ErrIncompressible", laid_pub_pemmican_pub_compress_fse_ErrIncompressible), ("pub-pemmican/pub/compress/fse.ErrUseRLE", laid_pub_pemmican_pub_compress_fse_ErrUseRLE), ("pub-pemmican/pub/compress/huff0.ErrIncompressible", laid_pub_pemmican_pub_compress_huff0_ErrIncompressible), ("pub-pemmican/pub/compress/huff0.ErrUseRLE", laid_pub_pemmican_pub_compress_huff0_ErrUseRLE), ("pub-pemmican/pub/compress/huff0.ErrTooBig", laid_pub_pemmican_pub_compress_huff0_ErrTooBig)] }
def FnHuffDecodesSaid : Prop := fnHuffDecodesRow.holds Tryd.pinned (OpenSpec.ofChange fnHuffDecodesSpec)

/-- ITS FALSE NEIGHBOUR: 'it returns false'. Refute it at one input. -/
def fnHuffDecodesWrong : ChangeSpec := { name := "fnHuffDecodes", fn := fun _ => fun
  | [d1, d2, d3] => { results := [.lit (.bool false)], args := [d1, d2, d3] }
  | _ => none }
def FnHuffDecodesWrongFalsely : Prop := fnHuffDecodesRow.holds Tryd.pinned (OpenSpec.ofChange fnHuffDecodesWrong)

/-- 'laws.FnHuffLong': WHATEVER THE INPUT: true; the input reads as it did. -/
def fnHuffLongSpec : ChangeSpec := { name := "fnHuffLong", fn := fun _ => fun
  | [d1, d2] => { results := [.lit (.bool true)], args := [d1, d2] }
  | _ => none }
def fnHuffLongRow : OpenClaim := { program := "ytlnhldlhmplphaadoor", sum := "e6df4186764a201ec5d967d9c3c570459c6b45f4c12491600a2d6311913f564d", func := "pub-pemmican/laws.FnHuffLong", spec := "fnHuffLong", unfollowed := true, recurses := true, named := ["pub-pemmican/pub/compress/huff0.ErrTooBig", "pub-pemmican/pub/compress/huff0.ErrIncompressible", "encoding/binary.LittleEndian", "pub-pemmican/pub/compress/huff0.ErrUseRLE", "pub-pemmican/pub/compress/fse.ErrIncompressible", "pub-pemmican/pub/compress/fse.ErrUseRLE", "pub-pemmican/pub/compress/fse.rtbTable", "pub-pemmican/pub/compress/fse.bitMask16"], apart := false, laid := [("pub-pemmican/pub/compress/fse.bitMask16", laid_pub_pemmican_pub_compress_fse_bitMask16), ("pub-pemmican/pub/compress/fse.rtbTable", laid_pub_pemmican_pub_compress_fse_rtbTable), ("pub-pemmican/pub/compress/fse.ErrIncompressible", laid_pub_pemmican_pub_compress_fse_ErrIncompressible), ("pub-pemmican/pub/compress/fse.ErrUseRLE", laid_pub_pemmican_pub_compress_fse_ErrUseRLE), ("pub-pemmican/pub/compress/huff0.ErrIncompressible", laid_pub_pemmican_pub_compress_huff0_ErrIncompressible), ("pub-pemmican/pub/compress/huff0.ErrUseRLE", laid_pub_pemmican_pub_compress_huff0_ErrUseRLE), ("pub-pemmican/pub/compress/huff0.ErrTooBig", laid_pub_pemmican_pub_compress_huff0_ErrTooBig)] }
def FnHuffLongSaid : Prop := fnHuffLongRow.holds Tryd.pinned (OpenSpec.ofChange fnHuffLongSpec)

/-- ITS FALSE NEIGHBOUR: 'it returns false'. Refute it at one input. -/
def fnHuffLongWrong : ChangeSpec := { name := "fnHuffLong", fn := fun _ => fun
  | [d1, d2] => { results := [.lit (.bool false)], args := [d1, d2] }
  | _ => none }
def FnHuffLongWrongFalsely : Prop := fnHuffLongRow.holds Tryd.pinned (OpenSpec.ofChange fnHuffLongWrong)

/-- 'laws.FnHuffRising': WHATEVER THE INPUT: true; the input reads as it did. -/
def fnHuffRisingSpec : ChangeSpec := { name := "fnHuffRising", fn := fun _ => fun
  | [d1, d2] => { results := [.lit (.bool true)], args := [d1, d2] }
  | _ => none }
def fnHuffRisingRow : OpenClaim := { program := "ytlnhldlhmplphaadoor", sum := "e6df4186764a201ec5d967d9c3c570459c6b45f4c12491600a2d6311913f564d", func := "pub-pemmican/laws.FnHuffRising", spec := "fnHuffRising", unfollowed := true, recurses := true, named := ["pub-pemmican/pub/compress/huff0.ErrTooBig", "pub-pemmican/pub/compress/huff0.ErrIncompressible", "encoding/binary.LittleEndian", "pub-pemmican/pub/compress/huff0.ErrUseRLE", "pub-pemmican/pub/compress/fse.ErrIncompressible", "pub-pemmican/pub/compress/fse.ErrUseRLE", "pub-pemmican/pub/compress/fse.rtbTable", "pub-pemmican/pub/compress/fse.bitMask16"], apart := false, laid := [("pub-pemmican/pub/compress/fse.bitMask16", laid_pub_pemmican_pub_compress_fse_bitMask16), ("pub-pemmican/pub/compress/fse.rtbTable", laid_pub_pemmican_pub_compress_fse_rtbTable), ("pub-pemmican/pub/compress/fse.ErrIncompressible", laid_pub_pemmican_pub_compress_fse_ErrIncompressible), ("pub-pemmican/pub/compress/fse.ErrUseRLE", laid_pub_pemmican_pub_compress_fse_ErrUseRLE), ("pub-pemmican/pub/compress/huff0.ErrIncompressible", laid_pub_pemmican_pub_compress_huff0_ErrIncompressible), ("pub-pemmican/pub/compress/huff0.ErrUseRLE", laid_pub_pemmican_pub_compress_huff0_ErrUseRLE), ("pub-pemmican/pub/compress/huff0.ErrTooBig", laid_pub_pemmican_pub_compress_huff0_ErrTooBig)] }
def FnHuffRisingSaid : Prop := fnHuffRisingRow.holds Tryd.pinned (OpenSpec.ofChange fnHuffRisingSpec)

/-- ITS FALSE NEIGHBOUR: 'it returns false'. Refute it at one input. -/
def fnHuffRisingWrong : ChangeSpec := { name := "fnHuffRising", fn := fun _ => fun
  | [d1, d2] => { results := [.lit (.bool false)], args := [d1, d2] }
  | _ => none }
def FnHuffRisingWrongFalsely : Prop := fnHuffRisingRow.holds Tryd.pinned (OpenSpec.ofChange fnHuffRisingWrong)

/-- 'laws.FnHuffSame': WHATEVER THE INPUT: true; the input reads as it did. -/
def fnHuffSameSpec : ChangeSpec := { name := "fnHuffSame", fn := fun _ => fun
  | [d1, d2] => { results := [.lit (.bool true)], args := [d1, d2] }
  | _ => none }
def fnHuffSameRow : OpenClaim := { program := "ytlnhldlhmplphaadoor", sum := "e6df4186764a201ec5d967d9c3c570459c6b45f4c12491600a2d6311913f564d", func := "pub-pemmican/laws.FnHuffSame", spec := "fnHuffSame", unfollowed := true, recurses := true, named := ["pub-pemmican/pub/compress/huff0.ErrTooBig", "pub-pemmican/pub/compress/huff0.ErrIncompressible", "encoding/binary.LittleEndian", "pub-pemmican/pub/compress/huff0.ErrUseRLE", "pub-pemmican/pub/compress/fse.ErrIncompressible", "pub-pemmican/pub/compress/fse.ErrUseRLE", "pub-pemmican/pub/compress/fse.rtbTable", "pub-pemmican/pub/compress/fse.bitMask16"], apart := false, laid := [("pub-pemmican/pub/compress/fse.bitMask16", laid_pub_pemmican_pub_compress_fse_bitMask16), ("pub-pemmican/pub/compress/fse.rtbTable", laid_pub_pemmican_pub_compress_fse_rtbTable), ("pub-pemmican/pub/compress/fse.ErrIncompressible", laid_pub_pemmican_pub_compress_fse_ErrIncompressible), ("pub-pemmican/pub/compress/fse.ErrUseRLE", laid_pub_pemmican_pub_compress_fse_ErrUseRLE), ("pub-pemmican/pub/compress/huff0.ErrIncompressible", laid_pub_pemmican_pub_compress_huff0_ErrIncompressible), ("pub-pemmican/pub/compress/huff0.ErrUseRLE", laid_pub_pemmican_pub_compress_huff0_ErrUseRLE), ("pub-pemmican/pub/compress/huff0.ErrTooBig", laid_pub_pemmican_pub_compress_huff0_ErrTooBig)] }
def FnHuffSameSaid : Prop := fnHuffSameRow.holds Tryd.pinned (OpenSpec.ofChange fnHuffSameSpec)

/-- ITS FALSE NEIGHBOUR: 'it returns false'. Refute it at one input. -/
def fnHuffSameWrong : ChangeSpec := { name := "fnHuffSame", fn := fun _ => fun
  | [d1, d2] => { results := [.lit (.bool false)], args := [d1, d2] }
  | _ => none }
def FnHuffSameWrongFalsely : Prop := fnHuffSameRow.holds Tryd.pinned (OpenSpec.ofChange fnHuffSameWrong)

/-- 'laws.FnHuffTable': WHATEVER THE INPUT: true; the input reads as it did. -/
def fnHuffTableSpec : ChangeSpec := { name := "fnHuffTable", fn := fun _ => fun
  | [d1, d2] => { results := [.lit (.bool true)], args := [d1, d2] }
  | _ => none }
def fnHuffTableRow : OpenClaim := { program := "ytlnhldlhmplphaadoor", sum := "e6df4186764a201ec5d967d9c3c570459c6b45f4c12491600a2d6311913f564d", func := "pub-pemmican/laws.FnHuffTable", spec := "fnHuffTable", unfollowed := true, recurses := true, named := ["pub-pemmican/pub/compress/huff0.ErrTooBig", "pub-pemmican/pub/compress/huff0.ErrIncompressible", "encoding/binary.LittleEndian", "pub-pemmican/pub/compress/huff0.ErrUseRLE", "pub-pemmican/pub/compress/fse.ErrIncompressible", "pub-pemmican/pub/compress/fse.ErrUseRLE", "pub-pemmican/pub/compress/fse.rtbTable", "pub-pemmican/pub/compress/fse.bitMask16"], apart := false, laid := [("pub-pemmican/pub/compress/fse.bitMask16", laid_pub_pemmican_pub_compress_fse_bitMask16), ("pub-pemmican/pub/compress/fse.rtbTable", laid_pub_pemmican_pub_compress_fse_rtbTable), ("pub-pemmican/pub/compress/fse.ErrIncompressible", laid_pub_pemmican_pub_compress_fse_ErrIncompressible), ("pub-pemmican/pub/compress/fse.ErrUseRLE", laid_pub_pemmican_pub_compress_fse_ErrUseRLE), ("pub-pemmican/pub/compress/huff0.ErrIncompressible", laid_pub_pemmican_pub_compress_huff0_ErrIncompressible), ("pub-pemmican/pub/compress/huff0.ErrUseRLE", laid_pub_pemmican_pub_compress_huff0_ErrUseRLE), ("pub-pemmican/pub/compress/huff0.ErrTooBig", laid_pub_pemmican_pub_compress_huff0_ErrTooBig)] }
def FnHuffTableSaid : Prop := fnHuffTableRow.holds Tryd.pinned (OpenSpec.ofChange fnHuffTableSpec)

/-- ITS FALSE NEIGHBOUR: 'it returns false'. Refute it at one input. -/
def fnHuffTableWrong : ChangeSpec := { name := "fnHuffTable", fn := fun _ => fun
  | [d1, d2] => { results := [.lit (.bool false)], args := [d1, d2] }
  | _ => none }
def FnHuffTableWrongFalsely : Prop := fnHuffTableRow.holds Tryd.pinned (OpenSpec.ofChange fnHuffTableWrong)

/-- 'laws.FnHuffScriptDecodes': WHATEVER THE INPUT: true; the input reads as it did. -/
def fnHuffScriptDecodesSpec : ChangeSpec := { name := "fnHuffScriptDecodes", fn := fun _ => fun
  | [d1, d2, d3] => { results := [.lit (.bool true)], args := [d1, d2, d3] }
  | _ => none }
def fnHuffScriptDecodesRow : OpenClaim := { program := "ytlnhldlhmplphaadoor", sum := "e6df4186764a201ec5d967d9c3c570459c6b45f4c12491600a2d6311913f564d", func := "pub-pemmican/laws.FnHuffScriptDecodes", spec := "fnHuffScriptDecodes", unfollowed := true, recurses := true, named := ["pub-pemmican/pub/compress/huff0.ErrTooBig", "pub-pemmican/pub/compress/huff0.ErrIncompressible", "encoding/binary.LittleEndian", "pub-pemmican/pub/compress/huff0.ErrUseRLE", "pub-pemmican/pub/compress/fse.ErrIncompressible", "pub-pemmican/pub/compress/fse.ErrUseRLE", "pub-pemmican/pub/compress/fse.rtbTable", "pub-pemmican/pub/compress/fse.bitMask16"], apart := false, laid := [("pub-pemmican/pub/compress/fse.bitMask16", laid_pub_pemmican_pub_compress_fse_bitMask16), ("pub-pemmican/pub/compress/fse.rtbTable", laid_pub_pemmican_pub_compress_fse_rtbTable), ("pub-pemmican/pub/compress/fse.ErrIncompressible", laid_pub_pemmican_pub_compress_fse_ErrIncompressible), ("pub-pemmican/pub/compress/fse.ErrUseRLE", laid_pub_pemmican_pub_compress_fse_ErrUseRLE), ("pub-pemmican/pub/compress/huff0.ErrIncompressible", laid_pub_pemmican_pub_compress_huff0_ErrIncompressible), ("pub-pemmican/pub/compress/huff0.ErrUseRLE", laid_pub_pemmican_pub_compress_huff0_ErrUseRLE), ("pub-pemmican/pub/compress/huff0.ErrTooBig", laid_pub_pemmican_pub_compress_huff0_ErrTooBig)] }
def FnHuffScriptDecodesSaid : Prop := fnHuffScriptDecodesRow.holds Tryd.pinned (OpenSpec.ofChange fnHuffScriptDecodesSpec)

/-- ITS FALSE NEIGHBOUR: 'it returns false'. Refute it at one input. -/
def fnHuffScriptDecodesWrong : ChangeSpec := { name := "fnHuffScriptDecodes", fn := fun _ => fun
  | [d1, d2, d3] => { results := [.lit (.bool false)], args := [d1, d2, d3] }
  | _ => none }
def FnHuffScriptDecodesWrongFalsely : Prop := fnHuffScriptDecodesRow.holds Tryd.pinned (OpenSpec.ofChange fnHuffScriptDecodesWrong)

/-- 'laws.FnHuffTransferFine': WHATEVER THE INPUT: true; the input reads as it did. -/
def fnHuffTransferFineSpec : ChangeSpec := { name := "fnHuffTransferFine", fn := fun _ => fun
  | [d1, d2] => { results := [.lit (.bool true)], args := [d1, d2] }
  | _ => none }
def fnHuffTransferFineRow : OpenClaim := { program := "ytlnhldlhmplphaadoor", sum := "e6df4186764a201ec5d967d9c3c570459c6b45f4c12491600a2d6311913f564d", func := "pub-pemmican/laws.FnHuffTransferFine", spec := "fnHuffTransferFine", unfollowed := true, recurses := true, named := ["pub-pemmican/pub/compress/huff0.ErrTooBig", "pub-pemmican/pub/compress/huff0.ErrIncompressible", "encoding/binary.LittleEndian", "pub-pemmican/pub/compress/huff0.ErrUseRLE", "pub-pemmican/pub/compress/fse.ErrIncompressible", "pub-pemmican/pub/compress/fse.ErrUseRLE", "pub-pemmican/pub/compress/fse.rtbTable", "pub-pemmican/pub/compress/fse.bitMask16"], apart := false, laid := [("pub-pemmican/pub/compress/fse.bitMask16", laid_pub_pemmican_pub_compress_fse_bitMask16), ("pub-pemmican/pub/compress/fse.rtbTable", laid_pub_pemmican_pub_compress_fse_rtbTable), ("pub-pemmican/pub/compress/fse.ErrIncompressible", laid_pub_pemmican_pub_compress_fse_ErrIncompressible), ("pub-pemmican/pub/compress/fse.ErrUseRLE", laid_pub_pemmican_pub_compress_fse_ErrUseRLE), ("pub-pemmican/pub/compress/huff0.ErrIncompressible", laid_pub_pemmican_pub_compress_huff0_ErrIncompressible), ("pub-pemmican/pub/compress/huff0.ErrUseRLE", laid_pub_pemmican_pub_compress_huff0_ErrUseRLE), ("pub-pemmican/pub/compress/huff0.ErrTooBig", laid_pub_pemmican_pub_compress_huff0_ErrTooBig)] }
def FnHuffTransferFineSaid : Prop := fnHuffTransferFineRow.holds Tryd.pinned (OpenSpec.ofChange fnHuffTransferFineSpec)

/-- ITS FALSE NEIGHBOUR: 'it returns false'. Refute it at one input. -/
def fnHuffTransferFineWrong : ChangeSpec := { name := "fnHuffTransferFine", fn := fun _ => fun
  | [d1, d2] => { results := [.lit (.bool false)], args := [d1, d2] }
  | _ => none }
def FnHuffTransferFineWrongFalsely : Prop := fnHuffTransferFineRow.holds Tryd.pinned (OpenSpec.ofChange fnHuffTransferFineWrong)

/-- 'laws.FnHuffMustFine': WHATEVER THE INPUT: true; the input reads as it did. -/
def fnHuffMustFineSpec : ChangeSpec := { name := "fnHuffMustFine", fn := fun _ => fun
  | [d1, d2] => { results := [.lit (.bool true)], args := [d1, d2] }
  | _ => none }
def fnHuffMustFineRow : OpenClaim := { program := "ytlnhldlhmplphaadoor", sum := "e6df4186764a201ec5d967d9c3c570459c6b45f4c12491600a2d6311913f564d", func := "pub-pemmican/laws.FnHuffMustFine", spec := "fnHuffMustFine", unfollowed := true, recurses := true, named := ["pub-pemmican/pub/compress/huff0.ErrUseRLE", "pub-pemmican/pub/compress/huff0.ErrTooBig", "pub-pemmican/pub/compress/huff0.ErrIncompressible", "pub-pemmican/pub/compress/fse.ErrIncompressible", "pub-pemmican/pub/compress/fse.ErrUseRLE", "pub-pemmican/pub/compress/fse.rtbTable", "pub-pemmican/pub/compress/fse.bitMask16", "encoding/binary.LittleEndian"], apart := false, laid := [("pub-pemmican/pub/compress/fse.bitMask16", laid_pub_pemmican_pub_compress_fse_bitMask16), ("pub-pemmican/pub/compress/fse.rtbTable", laid_pub_pemmican_pub_compress_fse_rtbTable), ("pub-pemmican/pub/compress/fse.ErrIncompressible", laid_pub_pemmican_pub_compress_fse_ErrIncompressible), ("pub-pemmican/pub/compress/fse.ErrUseRLE", laid_pub_pemmican_pub_compress_fse_ErrUseRLE), ("pub-pemmican/pub/compress/huff0.ErrIncompressible", laid_pub_pemmican_pub_compress_huff0_ErrIncompressible), ("pub-pemmican/pub/compress/huff0.ErrUseRLE", laid_pub_pemmican_pub_compress_huff0_ErrUseRLE), ("pub-pemmican/pub/compress/huff0.ErrTooBig", laid_pub_pemmican_pub_compress_huff0_ErrTooBig)] }
def FnHuffMustFineSaid : Prop := fnHuffMustFineRow.holds Tryd.pinned (OpenSpec.ofChange fnHuffMustFineSpec)

/-- ITS FALSE NEIGHBOUR: 'it returns false'. Refute it at one input. -/
def fnHuffMustFineWrong : ChangeSpec := { name := "fnHuffMustFine", fn := fun _ => fun
  | [d1, d2] => { results := [.lit (.bool false)], args := [d1, d2] }
  | _ => none }
def FnHuffMustFineWrongFalsely : Prop := fnHuffMustFineRow.holds Tryd.pinned (OpenSpec.ofChange fnHuffMustFineWrong)

/-- 'laws.FnHuffMustLong': WHATEVER THE INPUT: true; the input reads as it did. -/
def fnHuffMustLongSpec : ChangeSpec := { name := "fnHuffMustLong", fn := fun _ => fun
  | [d] => { results := [.lit (.bool true)], args := [d] }
  | _ => none }
def fnHuffMustLongRow : OpenClaim := { program := "ytlnhldlhmplphaadoor", sum := "e6df4186764a201ec5d967d9c3c570459c6b45f4c12491600a2d6311913f564d", func := "pub-pemmican/laws.FnHuffMustLong", spec := "fnHuffMustLong", unfollowed := true, recurses := true, named := ["pub-pemmican/pub/compress/huff0.ErrUseRLE", "pub-pemmican/pub/compress/huff0.ErrTooBig", "pub-pemmican/pub/compress/huff0.ErrIncompressible", "pub-pemmican/pub/compress/fse.ErrIncompressible", "pub-pemmican/pub/compress/fse.ErrUseRLE", "pub-pemmican/pub/compress/fse.rtbTable", "pub-pemmican/pub/compress/fse.bitMask16", "encoding/binary.LittleEndian"], apart := false, laid := [("pub-pemmican/pub/compress/fse.bitMask16", laid_pub_pemmican_pub_compress_fse_bitMask16), ("pub-pemmican/pub/compress/fse.rtbTable", laid_pub_pemmican_pub_compress_fse_rtbTable), ("pub-pemmican/pub/compress/fse.ErrIncompressible", laid_pub_pemmican_pub_compress_fse_ErrIncompressible), ("pub-pemmican/pub/compress/fse.ErrUseRLE", laid_pub_pemmican_pub_compress_fse_ErrUseRLE), ("pub-pemmican/pub/compress/huff0.ErrIncompressible", laid_pub_pemmican_pub_compress_huff0_ErrIncompressible), ("pub-pemmican/pub/compress/huff0.ErrUseRLE", laid_pub_pemmican_pub_compress_huff0_ErrUseRLE), ("pub-pemmican/pub/compress/huff0.ErrTooBig", laid_pub_pemmican_pub_compress_huff0_ErrTooBig)] }
def FnHuffMustLongSaid : Prop := fnHuffMustLongRow.holds Tryd.pinned (OpenSpec.ofChange fnHuffMustLongSpec)

/-- ITS FALSE NEIGHBOUR: 'it returns false'. Refute it at one input. -/
def fnHuffMustLongWrong : ChangeSpec := { name := "fnHuffMustLong", fn := fun _ => fun
  | [d] => { results := [.lit (.bool false)], args := [d] }
  | _ => none }
def FnHuffMustLongWrongFalsely : Prop := fnHuffMustLongRow.holds Tryd.pinned (OpenSpec.ofChange fnHuffMustLongWrong)

/- THE SECOND FORM. 'bulk': how many values and letters a reading holds, each counted each time it is reached (what is shared counts as often as it is met; a slice's spare places count too). A statement '..UptoSaid' is the law's where the arguments, and the package variables that the reading takes, are together of bulk at most 1048576: NARROWER than '..Said'. Prove '..Said' where nothing that the law and all that it calls make is longer than what came in: it says more and counts as full. Else prove '..UptoSaid'. A law counts once. -/
mutual
def uptoBulk {H : Type} : DataW H → Nat
  | .lit (.string bytes) => bytes.length + 1
  | .lit _ => 1
  | .nil => 1
  | .ptr d => uptoBulk d + 1
  | .slice elems spare => uptoBulkAll elems + uptoBulkAll spare + 1
  | .agg parts => uptoBulkAll parts + 1
  | .iface _ d => uptoBulk d + 1
  | .map entries => uptoBulkEntries entries + 1
  | .held _ => 1
def uptoBulkAll {H : Type} : List (DataW H) → Nat
  | [] => 0
  | d :: r => uptoBulk d + uptoBulkAll r
def uptoBulkEntries {H : Type} : List (Lit × DataW H) → Nat
  | [] => 0
  | x :: r => uptoBulkEntry x + uptoBulkEntries r
def uptoBulkEntry {H : Type} : Lit × DataW H → Nat
  | (.string bytes, d) => bytes.length + uptoBulk d + 1
  | (_, d) => uptoBulk d + 1
 end
def uptoSmall : (H : Type) → List (DataW H) → Bool := fun _ ds => decide (uptoBulkAll ds ≤ 1048576)
def OpenSpec.upto (s : _root_.Go.ChangeSpec) : _root_.Go.OpenSpec := { _root_.Go.OpenSpec.ofChange s with cond := some uptoSmall }

/-- 'laws.FnHuffAgain', WHERE WHAT IT READS IS OF BULK AT MOST 1048576: true; the input reads as it did. -/
def fnHuffAgainUptoRow : OpenClaim := { program := "ytlnhldlhmplphaadoor", sum := "e6df4186764a201ec5d967d9c3c570459c6b45f4c12491600a2d6311913f564d", func := "pub-pemmican/laws.FnHuffAgain", spec := "fnHuffAgain", named := ["pub-pemmican/pub/compress/huff0.ErrTooBig", "encoding/binary.LittleEndian", "io.ErrUnexpectedEOF", "pub-pemmican/pub/compress/huff0.ErrIncompressible", "pub-pemmican/pub/compress/fse.ErrIncompressible", "pub-pemmican/pub/compress/fse.ErrUseRLE", "pub-pemmican/pub/compress/fse.rtbTable", "pub-pemmican/pub/compress/fse.bitMask16"], apart := false, laid := [("io.ErrUnexpectedEOF", laid_io_ErrUnexpectedEOF), ("pub-pemmican/pub/compress/fse.bitMask16", laid_pub_pemmican_pub_compress_fse_bitMask16), ("pub-pemmican/pub/compress/fse.rtbTable", laid_pub_pemmican_pub_compress_fse_rtbTable), ("pub-pemmican/pub/compress/fse.ErrIncompressible", laid_pub_pemmican_pub_compress_fse_ErrIncompressible), ("pub-pemmican/pub/compress/fse.ErrUseRLE", laid_pub_pemmican_pub_compress_fse_ErrUseRLE), ("pub-pemmican/pub/compress/huff0.ErrIncompressible", laid_pub_pemmican_pub_compress_huff0_ErrIncompressible), ("pub-pemmican/pub/compress/huff0.ErrTooBig", laid_pub_pemmican_pub_compress_huff0_ErrTooBig)], narrowed := true }
def FnHuffAgainUptoSaid : Prop := fnHuffAgainUptoRow.holds Tryd.pinned (OpenSpec.upto fnHuffAgainSpec)

/-- 'laws.FnHuffTableAny', WHERE WHAT IT READS IS OF BULK AT MOST 1048576: true; the input reads as it did. -/
def fnHuffTableAnyUptoRow : OpenClaim := { program := "ytlnhldlhmplphaadoor", sum := "e6df4186764a201ec5d967d9c3c570459c6b45f4c12491600a2d6311913f564d", func := "pub-pemmican/laws.FnHuffTableAny", spec := "fnHuffTableAny", named := ["pub-pemmican/pub/compress/huff0.ErrTooBig", "encoding/binary.LittleEndian", "io.ErrUnexpectedEOF", "pub-pemmican/pub/compress/huff0.ErrIncompressible", "pub-pemmican/pub/compress/fse.ErrIncompressible", "pub-pemmican/pub/compress/fse.ErrUseRLE", "pub-pemmican/pub/compress/fse.rtbTable", "pub-pemmican/pub/compress/fse.bitMask16"], apart := false, laid := [("io.ErrUnexpectedEOF", laid_io_ErrUnexpectedEOF), ("pub-pemmican/pub/compress/fse.bitMask16", laid_pub_pemmican_pub_compress_fse_bitMask16), ("pub-pemmican/pub/compress/fse.rtbTable", laid_pub_pemmican_pub_compress_fse_rtbTable), ("pub-pemmican/pub/compress/fse.ErrIncompressible", laid_pub_pemmican_pub_compress_fse_ErrIncompressible), ("pub-pemmican/pub/compress/fse.ErrUseRLE", laid_pub_pemmican_pub_compress_fse_ErrUseRLE), ("pub-pemmican/pub/compress/huff0.ErrIncompressible", laid_pub_pemmican_pub_compress_huff0_ErrIncompressible), ("pub-pemmican/pub/compress/huff0.ErrTooBig", laid_pub_pemmican_pub_compress_huff0_ErrTooBig)], narrowed := true }
def FnHuffTableAnyUptoSaid : Prop := fnHuffTableAnyUptoRow.holds Tryd.pinned (OpenSpec.upto fnHuffTableAnySpec)

/-- 'laws.FnHuffDecodes', WHERE WHAT IT READS IS OF BULK AT MOST 1048576: true; the input reads as it did. -/
def fnHuffDecodesUptoRow : OpenClaim := { program := "ytlnhldlhmplphaadoor", sum := "e6df4186764a201ec5d967d9c3c570459c6b45f4c12491600a2d6311913f564d", func := "pub-pemmican/laws.FnHuffDecodes", spec := "fnHuffDecodes", unfollowed := true, recurses := true, named := ["pub-pemmican/pub/compress/huff0.ErrTooBig", "pub-pemmican/pub/compress/huff0.ErrIncompressible", "encoding/binary.LittleEndian", "pub-pemmican/pub/compress/huff0.ErrUseRLE", "pub-pemmican/pub/compress/fse.ErrIncompressible", "pub-pemmican/pub/compress/fse.ErrUseRLE", "pub-pemmican/pub/compress/fse.rtbTable", "pub-pemmican/pub/compress/fse.bitMask16"], apart := false, laid := [("pub-pemmican/pub/compress/fse.bitMask16", laid_pub_pemmican_pub_compress_fse_bitMask16), ("pub-pemmican/pub/compress/fse.rtbTable", laid_pub_pemmican_pub_compress_fse_rtbTable), ("pub-pemmican/pub/compress/fse.ErrIncompressible", laid_pub_pemmican_pub_compress_fse_ErrIncompressible), ("pub-pemmican/pub/compress/fse.ErrUseRLE", laid_pub_pemmican_pub_compress_fse_ErrUseRLE), ("pub-pemmican/pub/compress/huff0.ErrIncompressible", laid_pub_pemmican_pub_compress_huff0_ErrIncompressible), ("pub-pemmican/pub/compress/huff0.ErrUseRLE", laid_pub_pemmican_pub_compress_huff0_ErrUseRLE), ("pub-pemmican/pub/compress/huff0.ErrTooBig", laid_pub_pemmican_pub_compress_huff0_ErrTooBig)], narrowed := true }
def FnHuffDecodesUptoSaid : Prop := fnHuffDecodesUptoRow.holds Tryd.pinned (OpenSpec.upto fnHuffDecodesSpec)

/-- 'laws.FnHuffLong', WHERE WHAT IT READS IS OF BULK AT MOST 1048576: true; the input reads as it did. -/
def fnHuffLongUptoRow : OpenClaim := { program := "ytlnhldlhmplphaadoor", sum := "e6df4186764a201ec5d967d9c3c570459c6b45f4c12491600a2d6311913f564d", func := "pub-pemmican/laws.FnHuffLong", spec := "fnHuffLong", unfollowed := true, recurses := true, named := ["pub-pemmican/pub/compress/huff0.ErrTooBig", "pub-pemmican/pub/compress/huff0.ErrIncompressible", "encoding/binary.LittleEndian", "pub-pemmican/pub/compress/huff0.ErrUseRLE", "pub-pemmican/pub/compress/fse.ErrIncompressible", "pub-pemmican/pub/compress/fse.ErrUseRLE", "pub-pemmican/pub/compress/fse.rtbTable", "pub-pemmican/pub/compress/fse.bitMask16"], apart := false, laid := [("pub-pemmican/pub/compress/fse.bitMask16", laid_pub_pemmican_pub_compress_fse_bitMask16), ("pub-pemmican/pub/compress/fse.rtbTable", laid_pub_pemmican_pub_compress_fse_rtbTable), ("pub-pemmican/pub/compress/fse.ErrIncompressible", laid_pub_pemmican_pub_compress_fse_ErrIncompressible), ("pub-pemmican/pub/compress/fse.ErrUseRLE", laid_pub_pemmican_pub_compress_fse_ErrUseRLE), ("pub-pemmican/pub/compress/huff0.ErrIncompressible", laid_pub_pemmican_pub_compress_huff0_ErrIncompressible), ("pub-pemmican/pub/compress/huff0.ErrUseRLE", laid_pub_pemmican_pub_compress_huff0_ErrUseRLE), ("pub-pemmican/pub/compress/huff0.ErrTooBig", laid_pub_pemmican_pub_compress_huff0_ErrTooBig)], narrowed := true }
def FnHuffLongUptoSaid : Prop := fnHuffLongUptoRow.holds Tryd.pinned (OpenSpec.upto fnHuffLongSpec)

/-- 'laws.FnHuffRising', WHERE WHAT IT READS IS OF BULK AT MOST 1048576: true; the input reads as it did. -/
def fnHuffRisingUptoRow : OpenClaim := { program := "ytlnhldlhmplphaadoor", sum := "e6df4186764a201ec5d967d9c3c570459c6b45f4c12491600a2d6311913f564d", func := "pub-pemmican/laws.FnHuffRising", spec := "fnHuffRising", unfollowed := true, recurses := true, named := ["pub-pemmican/pub/compress/huff0.ErrTooBig", "pub-pemmican/pub/compress/huff0.ErrIncompressible", "encoding/binary.LittleEndian", "pub-pemmican/pub/compress/huff0.ErrUseRLE", "pub-pemmican/pub/compress/fse.ErrIncompressible", "pub-pemmican/pub/compress/fse.ErrUseRLE", "pub-pemmican/pub/compress/fse.rtbTable", "pub-pemmican/pub/compress/fse.bitMask16"], apart := false, laid := [("pub-pemmican/pub/compress/fse.bitMask16", laid_pub_pemmican_pub_compress_fse_bitMask16), ("pub-pemmican/pub/compress/fse.rtbTable", laid_pub_pemmican_pub_compress_fse_rtbTable), ("pub-pemmican/pub/compress/fse.ErrIncompressible", laid_pub_pemmican_pub_compress_fse_ErrIncompressible), ("pub-pemmican/pub/compress/fse.ErrUseRLE", laid_pub_pemmican_pub_compress_fse_ErrUseRLE), ("pub-pemmican/pub/compress/huff0.ErrIncompressible", laid_pub_pemmican_pub_compress_huff0_ErrIncompressible), ("pub-pemmican/pub/compress/huff0.ErrUseRLE", laid_pub_pemmican_pub_compress_huff0_ErrUseRLE), ("pub-pemmican/pub/compress/huff0.ErrTooBig", laid_pub_pemmican_pub_compress_huff0_ErrTooBig)], narrowed := true }
def FnHuffRisingUptoSaid : Prop := fnHuffRisingUptoRow.holds Tryd.pinned (OpenSpec.upto fnHuffRisingSpec)

/-- 'laws.FnHuffSame', WHERE WHAT IT READS IS OF BULK AT MOST 1048576: true; the input reads as it did. -/
def fnHuffSameUptoRow : OpenClaim := { program := "ytlnhldlhmplphaadoor", sum := "e6df4186764a201ec5d967d9c3c570459c6b45f4c12491600a2d6311913f564d", func := "pub-pemmican/laws.FnHuffSame", spec := "fnHuffSame", unfollowed := true, recurses := true, named := ["pub-pemmican/pub/compress/huff0.ErrTooBig", "pub-pemmican/pub/compress/huff0.ErrIncompressible", "encoding/binary.LittleEndian", "pub-pemmican/pub/compress/huff0.ErrUseRLE", "pub-pemmican/pub/compress/fse.ErrIncompressible", "pub-pemmican/pub/compress/fse.ErrUseRLE", "pub-pemmican/pub/compress/fse.rtbTable", "pub-pemmican/pub/compress/fse.bitMask16"], apart := false, laid := [("pub-pemmican/pub/compress/fse.bitMask16", laid_pub_pemmican_pub_compress_fse_bitMask16), ("pub-pemmican/pub/compress/fse.rtbTable", laid_pub_pemmican_pub_compress_fse_rtbTable), ("pub-pemmican/pub/compress/fse.ErrIncompressible", laid_pub_pemmican_pub_compress_fse_ErrIncompressible), ("pub-pemmican/pub/compress/fse.ErrUseRLE", laid_pub_pemmican_pub_compress_fse_ErrUseRLE), ("pub-pemmican/pub/compress/huff0.ErrIncompressible", laid_pub_pemmican_pub_compress_huff0_ErrIncompressible), ("pub-pemmican/pub/compress/huff0.ErrUseRLE", laid_pub_pemmican_pub_compress_huff0_ErrUseRLE), ("pub-pemmican/pub/compress/huff0.ErrTooBig", laid_pub_pemmican_pub_compress_huff0_ErrTooBig)], narrowed := true }
def FnHuffSameUptoSaid : Prop := fnHuffSameUptoRow.holds Tryd.pinned (OpenSpec.upto fnHuffSameSpec)

/-- 'laws.FnHuffTable', WHERE WHAT IT READS IS OF BULK AT MOST 1048576: true; the input reads as it did. -/
def fnHuffTableUptoRow : OpenClaim := { program := "ytlnhldlhmplphaadoor", sum := "e6df4186764a201ec5d967d9c3c570459c6b45f4c12491600a2d6311913f564d", func := "pub-pemmican/laws.FnHuffTable", spec := "fnHuffTable", unfollowed := true, recurses := true, named := ["pub-pemmican/pub/compress/huff0.ErrTooBig", "pub-pemmican/pub/compress/huff0.ErrIncompressible", "encoding/binary.LittleEndian", "pub-pemmican/pub/compress/huff0.ErrUseRLE", "pub-pemmican/pub/compress/fse.ErrIncompressible", "pub-pemmican/pub/compress/fse.ErrUseRLE", "pub-pemmican/pub/compress/fse.rtbTable", "pub-pemmican/pub/compress/fse.bitMask16"], apart := false, laid := [("pub-pemmican/pub/compress/fse.bitMask16", laid_pub_pemmican_pub_compress_fse_bitMask16), ("pub-pemmican/pub/compress/fse.rtbTable", laid_pub_pemmican_pub_compress_fse_rtbTable), ("pub-pemmican/pub/compress/fse.ErrIncompressible", laid_pub_pemmican_pub_compress_fse_ErrIncompressible), ("pub-pemmican/pub/compress/fse.ErrUseRLE", laid_pub_pemmican_pub_compress_fse_ErrUseRLE), ("pub-pemmican/pub/compress/huff0.ErrIncompressible", laid_pub_pemmican_pub_compress_huff0_ErrIncompressible), ("pub-pemmican/pub/compress/huff0.ErrUseRLE", laid_pub_pemmican_pub_compress_huff0_ErrUseRLE), ("pub-pemmican/pub/compress/huff0.ErrTooBig", laid_pub_pemmican_pub_compress_huff0_ErrTooBig)], narrowed := true }
def FnHuffTableUptoSaid : Prop := fnHuffTableUptoRow.holds Tryd.pinned (OpenSpec.upto fnHuffTableSpec)

/-- 'laws.FnHuffScriptDecodes', WHERE WHAT IT READS IS OF BULK AT MOST 1048576: true; the input reads as it did. -/
def fnHuffScriptDecodesUptoRow : OpenClaim := { program := "ytlnhldlhmplphaadoor", sum := "e6df4186764a201ec5d967d9c3c570459c6b45f4c12491600a2d6311913f564d", func := "pub-pemmican/laws.FnHuffScriptDecodes", spec := "fnHuffScriptDecodes", unfollowed := true, recurses := true, named := ["pub-pemmican/pub/compress/huff0.ErrTooBig", "pub-pemmican/pub/compress/huff0.ErrIncompressible", "encoding/binary.LittleEndian", "pub-pemmican/pub/compress/huff0.ErrUseRLE", "pub-pemmican/pub/compress/fse.ErrIncompressible", "pub-pemmican/pub/compress/fse.ErrUseRLE", "pub-pemmican/pub/compress/fse.rtbTable", "pub-pemmican/pub/compress/fse.bitMask16"], apart := false, laid := [("pub-pemmican/pub/compress/fse.bitMask16", laid_pub_pemmican_pub_compress_fse_bitMask16), ("pub-pemmican/pub/compress/fse.rtbTable", laid_pub_pemmican_pub_compress_fse_rtbTable), ("pub-pemmican/pub/compress/fse.ErrIncompressible", laid_pub_pemmican_pub_compress_fse_ErrIncompressible), ("pub-pemmican/pub/compress/fse.ErrUseRLE", laid_pub_pemmican_pub_compress_fse_ErrUseRLE), ("pub-pemmican/pub/compress/huff0.ErrIncompressible", laid_pub_pemmican_pub_compress_huff0_ErrIncompressible), ("pub-pemmican/pub/compress/huff0.ErrUseRLE", laid_pub_pemmican_pub_compress_huff0_ErrUseRLE), ("pub-pemmican/pub/compress/huff0.ErrTooBig", laid_pub_pemmican_pub_compress_huff0_ErrTooBig)], narrowed := true }
def FnHuffScriptDecodesUptoSaid : Prop := fnHuffScriptDecodesUptoRow.holds Tryd.pinned (OpenSpec.upto fnHuffScriptDecodesSpec)

/-- 'laws.FnHuffTransferFine', WHERE WHAT IT READS IS OF BULK AT MOST 1048576: true; the input reads as it did. -/
def fnHuffTransferFineUptoRow : OpenClaim := { program := "ytlnhldlhmplphaadoor", sum := "e6df4186764a201ec5d967d9c3c570459c6b45f4c12491600a2d6311913f564d", func := "pub-pemmican/laws.FnHuffTransferFine", spec := "fnHuffTransferFine", unfollowed := true, recurses := true, named := ["pub-pemmican/pub/compress/huff0.ErrTooBig", "pub-pemmican/pub/compress/huff0.ErrIncompressible", "encoding/binary.LittleEndian", "pub-pemmican/pub/compress/huff0.ErrUseRLE", "pub-pemmican/pub/compress/fse.ErrIncompressible", "pub-pemmican/pub/compress/fse.ErrUseRLE", "pub-pemmican/pub/compress/fse.rtbTable", "pub-pemmican/pub/compress/fse.bitMask16"], apart := false, laid := [("pub-pemmican/pub/compress/fse.bitMask16", laid_pub_pemmican_pub_compress_fse_bitMask16), ("pub-pemmican/pub/compress/fse.rtbTable", laid_pub_pemmican_pub_compress_fse_rtbTable), ("pub-pemmican/pub/compress/fse.ErrIncompressible", laid_pub_pemmican_pub_compress_fse_ErrIncompressible), ("pub-pemmican/pub/compress/fse.ErrUseRLE", laid_pub_pemmican_pub_compress_fse_ErrUseRLE), ("pub-pemmican/pub/compress/huff0.ErrIncompressible", laid_pub_pemmican_pub_compress_huff0_ErrIncompressible), ("pub-pemmican/pub/compress/huff0.ErrUseRLE", laid_pub_pemmican_pub_compress_huff0_ErrUseRLE), ("pub-pemmican/pub/compress/huff0.ErrTooBig", laid_pub_pemmican_pub_compress_huff0_ErrTooBig)], narrowed := true }
def FnHuffTransferFineUptoSaid : Prop := fnHuffTransferFineUptoRow.holds Tryd.pinned (OpenSpec.upto fnHuffTransferFineSpec)

/-- 'laws.FnHuffMustFine', WHERE WHAT IT READS IS OF BULK AT MOST 1048576: true; the input reads as it did. -/
def fnHuffMustFineUptoRow : OpenClaim := { program := "ytlnhldlhmplphaadoor", sum := "e6df4186764a201ec5d967d9c3c570459c6b45f4c12491600a2d6311913f564d", func := "pub-pemmican/laws.FnHuffMustFine", spec := "fnHuffMustFine", unfollowed := true, recurses := true, named := ["pub-pemmican/pub/compress/huff0.ErrUseRLE", "pub-pemmican/pub/compress/huff0.ErrTooBig", "pub-pemmican/pub/compress/huff0.ErrIncompressible", "pub-pemmican/pub/compress/fse.ErrIncompressible", "pub-pemmican/pub/compress/fse.ErrUseRLE", "pub-pemmican/pub/compress/fse.rtbTable", "pub-pemmican/pub/compress/fse.bitMask16", "encoding/binary.LittleEndian"], apart := false, laid := [("pub-pemmican/pub/compress/fse.bitMask16", laid_pub_pemmican_pub_compress_fse_bitMask16), ("pub-pemmican/pub/compress/fse.rtbTable", laid_pub_pemmican_pub_compress_fse_rtbTable), ("pub-pemmican/pub/compress/fse.ErrIncompressible", laid_pub_pemmican_pub_compress_fse_ErrIncompressible), ("pub-pemmican/pub/compress/fse.ErrUseRLE", laid_pub_pemmican_pub_compress_fse_ErrUseRLE), ("pub-pemmican/pub/compress/huff0.ErrIncompressible", laid_pub_pemmican_pub_compress_huff0_ErrIncompressible), ("pub-pemmican/pub/compress/huff0.ErrUseRLE", laid_pub_pemmican_pub_compress_huff0_ErrUseRLE), ("pub-pemmican/pub/compress/huff0.ErrTooBig", laid_pub_pemmican_pub_compress_huff0_ErrTooBig)], narrowed := true }
def FnHuffMustFineUptoSaid : Prop := fnHuffMustFineUptoRow.holds Tryd.pinned (OpenSpec.upto fnHuffMustFineSpec)

/-- 'laws.FnHuffMustLong', WHERE WHAT IT READS IS OF BULK AT MOST 1048576: true; the input reads as it did. -/
def fnHuffMustLongUptoRow : OpenClaim := { program := "ytlnhldlhmplphaadoor", sum := "e6df4186764a201ec5d967d9c3c570459c6b45f4c12491600a2d6311913f564d", func := "pub-pemmican/laws.FnHuffMustLong", spec := "fnHuffMustLong", unfollowed := true, recurses := true, named := ["pub-pemmican/pub/compress/huff0.ErrUseRLE", "pub-pemmican/pub/compress/huff0.ErrTooBig", "pub-pemmican/pub/compress/huff0.ErrIncompressible", "pub-pemmican/pub/compress/fse.ErrIncompressible", "pub-pemmican/pub/compress/fse.ErrUseRLE", "pub-pemmican/pub/compress/fse.rtbTable", "pub-pemmican/pub/compress/fse.bitMask16", "encoding/binary.LittleEndian"], apart := false, laid := [("pub-pemmican/pub/compress/fse.bitMask16", laid_pub_pemmican_pub_compress_fse_bitMask16), ("pub-pemmican/pub/compress/fse.rtbTable", laid_pub_pemmican_pub_compress_fse_rtbTable), ("pub-pemmican/pub/compress/fse.ErrIncompressible", laid_pub_pemmican_pub_compress_fse_ErrIncompressible), ("pub-pemmican/pub/compress/fse.ErrUseRLE", laid_pub_pemmican_pub_compress_fse_ErrUseRLE), ("pub-pemmican/pub/compress/huff0.ErrIncompressible", laid_pub_pemmican_pub_compress_huff0_ErrIncompressible), ("pub-pemmican/pub/compress/huff0.ErrUseRLE", laid_pub_pemmican_pub_compress_huff0_ErrUseRLE), ("pub-pemmican/pub/compress/huff0.ErrTooBig", laid_pub_pemmican_pub_compress_huff0_ErrTooBig)], narrowed := true }
def FnHuffMustLongUptoSaid : Prop := fnHuffMustLongUptoRow.holds Tryd.pinned (OpenSpec.upto fnHuffMustLongSpec)

end Rows
end Go.Proofs.YtlnhldlhmplphaaDoor
