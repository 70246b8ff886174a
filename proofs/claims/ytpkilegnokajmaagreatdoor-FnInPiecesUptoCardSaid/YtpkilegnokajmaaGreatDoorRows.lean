/-
  NARROWER THAN 'FOR EVERY INPUT', by the rows' own cells (each row's printed sentence says how): FnScript: laid · FnInPieces: laid.
  DERIVED. THE GIVEN ROWS OF THIS SEAT. 2 by the template 'for every input the law returns true; each argument reads behind the call as it read before'; 0 by the template 'total and deterministic' (their statements: YtpkilegnokajmaaGreatDoorTotals.lean).
  GIVEN WITH THE SEED: the statements are not yours to turn. If you find one false, say at which input.
  Laid BY PROGRAM, IN A SANDBOX (cutbox-rows.mjs): the forced cells as the released guide's own fill.sh prints them over the translation e06bcd7d27d88da7… (all of the seat's roots in one cut). By AI agents, Wed Nov 11 2026. No macro, syntax, notation, axiom, sorry.
-/
import Derived.Test.YtpkilegnokajmaaGreatDoorChecked
import GoSem.Claim
import GoSem.ClaimJoined
import GoSem.ClaimMapViews
import Derived.JoinedTies
import Derived.KernelRfl
namespace Go.Proofs.YtpkilegnokajmaaGreatDoor
/- THE CELL 'sum', in the pinned program and in every row, IS THE sha256 OF THE DUMP (.gsa) THAT YtpkilegnokajmaaGreatDoorProg.lean LOADS. Nothing in Lean hashes anything: it is a label: what it is worth is what the hold of that sum in a sandbox is worth. -/
noncomputable def Tryz.pinned : Pinned := { name := "ytpkilegnokajmaagreatdoor", sum := "e06bcd7d27d88da75968e483c3269f3d8299800329709732c29ea349a48b162a", checked := Tryz.checked }
namespace Rows
def none {H : Type} : Left H := { results := [], args := [] }

/- WHAT THE LISTED PACKAGE-LEVEL VARIABLES READ AS WHEN THE CALL BEGINS. Each datum BY PROGRAM (the guide's laid-datum.mjs) off the statement by which the dump's own 'gosem.cut.vars' lays the variable. In a bare row this is a premise. The card (YtpkilegnokajmaaGreatDoorCards.lean) ties it to the program's text. -/
def laid_math_bits_deBruijn32tab {H : Type} : DataW H := .agg [.lit (.int .u8 0), .lit (.int .u8 1), .lit (.int .u8 28), .lit (.int .u8 2), .lit (.int .u8 29), .lit (.int .u8 14), .lit (.int .u8 24), .lit (.int .u8 3), .lit (.int .u8 30), .lit (.int .u8 22), .lit (.int .u8 20), .lit (.int .u8 15), .lit (.int .u8 25), .lit (.int .u8 17), .lit (.int .u8 4), .lit (.int .u8 8), .lit (.int .u8 31), .lit (.int .u8 27), .lit (.int .u8 13), .lit (.int .u8 23), .lit (.int .u8 21), .lit (.int .u8 19), .lit (.int .u8 16), .lit (.int .u8 7), .lit (.int .u8 26), .lit (.int .u8 12), .lit (.int .u8 18), .lit (.int .u8 6), .lit (.int .u8 11), .lit (.int .u8 5), .lit (.int .u8 10), .lit (.int .u8 9)]
def laid_math_bits_deBruijn64tab {H : Type} : DataW H := .agg [.lit (.int .u8 0), .lit (.int .u8 1), .lit (.int .u8 56), .lit (.int .u8 2), .lit (.int .u8 57), .lit (.int .u8 49), .lit (.int .u8 28), .lit (.int .u8 3), .lit (.int .u8 61), .lit (.int .u8 58), .lit (.int .u8 42), .lit (.int .u8 50), .lit (.int .u8 38), .lit (.int .u8 29), .lit (.int .u8 17), .lit (.int .u8 4), .lit (.int .u8 62), .lit (.int .u8 47), .lit (.int .u8 59), .lit (.int .u8 36), .lit (.int .u8 45), .lit (.int .u8 43), .lit (.int .u8 51), .lit (.int .u8 22), .lit (.int .u8 53), .lit (.int .u8 39), .lit (.int .u8 33), .lit (.int .u8 30), .lit (.int .u8 24), .lit (.int .u8 18), .lit (.int .u8 12), .lit (.int .u8 5), .lit (.int .u8 63), .lit (.int .u8 55), .lit (.int .u8 48), .lit (.int .u8 27), .lit (.int .u8 60), .lit (.int .u8 41), .lit (.int .u8 37), .lit (.int .u8 16), .lit (.int .u8 46), .lit (.int .u8 35), .lit (.int .u8 44), .lit (.int .u8 21), .lit (.int .u8 52), .lit (.int .u8 32), .lit (.int .u8 23), .lit (.int .u8 11), .lit (.int .u8 54), .lit (.int .u8 26), .lit (.int .u8 40), .lit (.int .u8 15), .lit (.int .u8 34), .lit (.int .u8 20), .lit (.int .u8 31), .lit (.int .u8 10), .lit (.int .u8 25), .lit (.int .u8 14), .lit (.int .u8 19), .lit (.int .u8 9), .lit (.int .u8 13), .lit (.int .u8 8), .lit (.int .u8 7), .lit (.int .u8 6)]
def laid_internal_strconv_uint64pow10 {H : Type} : DataW H := .agg [.lit (.int .u64 1), .lit (.int .u64 10), .lit (.int .u64 100), .lit (.int .u64 1000), .lit (.int .u64 10000), .lit (.int .u64 100000), .lit (.int .u64 1000000), .lit (.int .u64 10000000), .lit (.int .u64 100000000), .lit (.int .u64 1000000000), .lit (.int .u64 10000000000), .lit (.int .u64 100000000000), .lit (.int .u64 1000000000000), .lit (.int .u64 10000000000000), .lit (.int .u64 100000000000000), .lit (.int .u64 1000000000000000), .lit (.int .u64 10000000000000000), .lit (.int .u64 100000000000000000), .lit (.int .u64 1000000000000000000), .lit (.int .u64 10000000000000000000)]
def laid_io_EOF {H : Type} : DataW H := .iface "*errors.errorString" (.ptr (.agg [.lit (.string [69, 79, 70])]))
def laid_io_ErrUnexpectedEOF {H : Type} : DataW H := .iface "*errors.errorString" (.ptr (.agg [.lit (.string [117, 110, 101, 120, 112, 101, 99, 116, 101, 100, 32, 69, 79, 70])]))
def laid_tapearchives_pub_gotar_ErrHeader {H : Type} : DataW H := .iface "*errors.errorString" (.ptr (.agg [.lit (.string [97, 114, 99, 104, 105, 118, 101, 47, 116, 97, 114, 58, 32, 105, 110, 118, 97, 108, 105, 100, 32, 116, 97, 114, 32, 104, 101, 97, 100, 101, 114])]))
def laid_tapearchives_pub_gotar_ErrWriteTooLong {H : Type} : DataW H := .iface "*errors.errorString" (.ptr (.agg [.lit (.string [97, 114, 99, 104, 105, 118, 101, 47, 116, 97, 114, 58, 32, 119, 114, 105, 116, 101, 32, 116, 111, 111, 32, 108, 111, 110, 103])]))
def laid_tapearchives_pub_gotar_ErrFieldTooLong {H : Type} : DataW H := .iface "*errors.errorString" (.ptr (.agg [.lit (.string [97, 114, 99, 104, 105, 118, 101, 47, 116, 97, 114, 58, 32, 104, 101, 97, 100, 101, 114, 32, 102, 105, 101, 108, 100, 32, 116, 111, 111, 32, 108, 111, 110, 103])]))
def laid_tapearchives_pub_gotar_ErrWriteAfterClose {H : Type} : DataW H := .iface "*errors.errorString" (.ptr (.agg [.lit (.string [97, 114, 99, 104, 105, 118, 101, 47, 116, 97, 114, 58, 32, 119, 114, 105, 116, 101, 32, 97, 102, 116, 101, 114, 32, 99, 108, 111, 115, 101])]))
def laid_tapearchives_pub_gotar_ErrInsecurePath {H : Type} : DataW H := .iface "*errors.errorString" (.ptr (.agg [.lit (.string [97, 114, 99, 104, 105, 118, 101, 47, 116, 97, 114, 58, 32, 105, 110, 115, 101, 99, 117, 114, 101, 32, 102, 105, 108, 101, 32, 112, 97, 116, 104])]))
def laid_tapearchives_pub_gotar_basicKeys {H : Type} : DataW H := .map [(.string [97, 116, 105, 109, 101], .lit (.bool true)), (.string [99, 116, 105, 109, 101], .lit (.bool true)), (.string [103, 105, 100], .lit (.bool true)), (.string [103, 110, 97, 109, 101], .lit (.bool true)), (.string [108, 105, 110, 107, 112, 97, 116, 104], .lit (.bool true)), (.string [109, 116, 105, 109, 101], .lit (.bool true)), (.string [112, 97, 116, 104], .lit (.bool true)), (.string [115, 105, 122, 101], .lit (.bool true)), (.string [117, 105, 100], .lit (.bool true)), (.string [117, 110, 97, 109, 101], .lit (.bool true))]

/-- 'laws.FnScript': WHATEVER THE INPUT: true; the input reads as it did. -/
def fnScriptSpec : ChangeSpec := { name := "fnScript", fn := fun _ => fun
  | [d] => { results := [.lit (.bool true)], args := [d] }
  | _ => none }
def fnScriptRow : OpenClaim := { program := "ytpkilegnokajmaagreatdoor", sum := "e06bcd7d27d88da75968e483c3269f3d8299800329709732c29ea349a48b162a", func := "tapearchives/laws.FnScript", spec := "fnScript", inPlace := ["internal/abi.NoEscape", "internal/bytealg.MakeNoZero"], unfollowed := true, recurses := true, named := ["tapearchives/pub/gotar.basicKeys", "internal/strconv.uint64pow10", "math/bits.deBruijn32tab", "math/bits.deBruijn64tab", "tapearchives/pub/gotar.ErrFieldTooLong", "tapearchives/pub/gotar.ErrHeader", "tapearchives/pub/gotar.ErrWriteTooLong", "tapearchives/pub/gotar.ErrWriteAfterClose", "io.EOF", "io.ErrUnexpectedEOF", "tapearchives/pub/gotar.ErrInsecurePath"], apart := false, laid := [("math/bits.deBruijn32tab", laid_math_bits_deBruijn32tab), ("math/bits.deBruijn64tab", laid_math_bits_deBruijn64tab), ("internal/strconv.uint64pow10", laid_internal_strconv_uint64pow10), ("io.EOF", laid_io_EOF), ("io.ErrUnexpectedEOF", laid_io_ErrUnexpectedEOF), ("tapearchives/pub/gotar.ErrHeader", laid_tapearchives_pub_gotar_ErrHeader), ("tapearchives/pub/gotar.ErrWriteTooLong", laid_tapearchives_pub_gotar_ErrWriteTooLong), ("tapearchives/pub/gotar.ErrFieldTooLong", laid_tapearchives_pub_gotar_ErrFieldTooLong), ("tapearchives/pub/gotar.ErrWriteAfterClose", laid_tapearchives_pub_gotar_ErrWriteAfterClose), ("tapearchives/pub/gotar.ErrInsecurePath", laid_tapearchives_pub_gotar_ErrInsecurePath), ("tapearchives/pub/gotar.basicKeys", laid_tapearchives_pub_gotar_basicKeys)] }
def FnScriptSaid : Prop := fnScriptRow.holds Tryz.pinned (OpenSpec.ofChange fnScriptSpec)

/-- ITS FALSE NEIGHBOUR: 'it returns false'. Refute it at one input. -/
def fnScriptWrong : ChangeSpec := { name := "fnScript", fn := fun _ => fun
  | [d] => { results := [.lit (.bool false)], args := [d] }
  | _ => none }
def FnScriptWrongFalsely : Prop := fnScriptRow.holds Tryz.pinned (OpenSpec.ofChange fnScriptWrong)

/-- 'laws.FnInPieces': WHATEVER THE INPUT: true; the input reads as it did. -/
def fnInPiecesSpec : ChangeSpec := { name := "fnInPieces", fn := fun _ => fun
  | [d1, d2, d3] => { results := [.lit (.bool true)], args := [d1, d2, d3] }
  | _ => none }
def fnInPiecesRow : OpenClaim := { program := "ytpkilegnokajmaagreatdoor", sum := "e06bcd7d27d88da75968e483c3269f3d8299800329709732c29ea349a48b162a", func := "tapearchives/laws.FnInPieces", spec := "fnInPieces", inPlace := ["internal/abi.NoEscape", "internal/bytealg.MakeNoZero"], unfollowed := true, recurses := true, named := ["tapearchives/pub/gotar.basicKeys", "internal/strconv.uint64pow10", "math/bits.deBruijn32tab", "math/bits.deBruijn64tab", "tapearchives/pub/gotar.ErrFieldTooLong", "tapearchives/pub/gotar.ErrHeader", "tapearchives/pub/gotar.ErrWriteTooLong", "tapearchives/pub/gotar.ErrWriteAfterClose", "io.EOF", "io.ErrUnexpectedEOF", "tapearchives/pub/gotar.ErrInsecurePath"], apart := false, laid := [("math/bits.deBruijn32tab", laid_math_bits_deBruijn32tab), ("math/bits.deBruijn64tab", laid_math_bits_deBruijn64tab), ("internal/strconv.uint64pow10", laid_internal_strconv_uint64pow10), ("io.EOF", laid_io_EOF), ("io.ErrUnexpectedEOF", laid_io_ErrUnexpectedEOF), ("tapearchives/pub/gotar.ErrHeader", laid_tapearchives_pub_gotar_ErrHeader), ("tapearchives/pub/gotar.ErrWriteTooLong", laid_tapearchives_pub_gotar_ErrWriteTooLong), ("tapearchives/pub/gotar.ErrFieldTooLong", laid_tapearchives_pub_gotar_ErrFieldTooLong), ("tapearchives/pub/gotar.ErrWriteAfterClose", laid_tapearchives_pub_gotar_ErrWriteAfterClose), ("tapearchives/pub/gotar.ErrInsecurePath", laid_tapearchives_pub_gotar_ErrInsecurePath), ("tapearchives/pub/gotar.basicKeys", laid_tapearchives_pub_gotar_basicKeys)] }
def FnInPiecesSaid : Prop := fnInPiecesRow.holds Tryz.pinned (OpenSpec.ofChange fnInPiecesSpec)

/-- ITS FALSE NEIGHBOUR: 'it returns false'. Refute it at one input. -/
def fnInPiecesWrong : ChangeSpec := { name := "fnInPieces", fn := fun _ => fun
  | [d1, d2, d3] => { results := [.lit (.bool false)], args := [d1, d2, d3] }
  | _ => none }
def FnInPiecesWrongFalsely : Prop := fnInPiecesRow.holds Tryz.pinned (OpenSpec.ofChange fnInPiecesWrong)

/- THE SECOND FORM. 'bulk': how many values and letters a reading holds, each counted each time it is reached (what is shared counts as often as it is met; a slice's spare places count too). A statement '..UptoSaid' is the law's where the arguments, and the package variables that the reading takes, are together of bulk at most 1048576: NARROWER than '..Said'. Prove '..Said' where nothing that the law and all that it calls make is longer than what came in: it says more and counts as full. Else prove '..UptoSaid'. A law counts once. -/
mutual
def uptoBulk {H : Type} : DataW H → Nat
  | .lit (.string bytes) => bytes.length + 1
  | .lit _ => 1
  | .nil => 1
  | .ptr d => uptoBulk d + 1
  | .slice elems spare => uptoBulkAll elems + uptoBulkAll spare + 1
  | .agg parts => uptoBulkAll parts + 1
  | .iface _ d => uptoBulk d + 1
  | .map entries => uptoBulkEntries entries + 1
  | .held _ => 1
def uptoBulkAll {H : Type} : List (DataW H) → Nat
  | [] => 0
  | d :: r => uptoBulk d + uptoBulkAll r
def uptoBulkEntries {H : Type} : List (Lit × DataW H) → Nat
  | [] => 0
  | x :: r => uptoBulkEntry x + uptoBulkEntries r
def uptoBulkEntry {H : Type} : Lit × DataW H → Nat
  | (.string bytes, d) => bytes.length + uptoBulk d + 1
  | (_, d) => uptoBulk d + 1
 end
def uptoSmall : (H : Type) → List (DataW H) → Bool := fun _ ds => decide (uptoBulkAll ds ≤ 1048576)
def OpenSpec.upto (s : _root_.Go.ChangeSpec) : _root_.Go.OpenSpec := { _root_.Go.OpenSpec.ofChange s with cond := some uptoSmall }

/-- 'laws.FnScript', WHERE WHAT IT READS IS OF BULK AT MOST 1048576: true; the input reads as it did. -/
def fnScriptUptoRow : OpenClaim := { program := "ytpkilegnokajmaagreatdoor", sum := "e06bcd7d27d88da75968e483c3269f3d8299800329709732c29ea349a48b162a", func := "tapearchives/laws.FnScript", spec := "fnScript", inPlace := ["internal/abi.NoEscape", "internal/bytealg.MakeNoZero"], unfollowed := true, recurses := true, named := ["tapearchives/pub/gotar.basicKeys", "internal/strconv.uint64pow10", "math/bits.deBruijn32tab", "math/bits.deBruijn64tab", "tapearchives/pub/gotar.ErrFieldTooLong", "tapearchives/pub/gotar.ErrHeader", "tapearchives/pub/gotar.ErrWriteTooLong", "tapearchives/pub/gotar.ErrWriteAfterClose", "io.EOF", "io.ErrUnexpectedEOF", "tapearchives/pub/gotar.ErrInsecurePath"], apart := false, laid := [("math/bits.deBruijn32tab", laid_math_bits_deBruijn32tab), ("math/bits.deBruijn64tab", laid_math_bits_deBruijn64tab), ("internal/strconv.uint64pow10", laid_internal_strconv_uint64pow10), ("io.EOF", laid_io_EOF), ("io.ErrUnexpectedEOF", laid_io_ErrUnexpectedEOF), ("tapearchives/pub/gotar.ErrHeader", laid_tapearchives_pub_gotar_ErrHeader), ("tapearchives/pub/gotar.ErrWriteTooLong", laid_tapearchives_pub_gotar_ErrWriteTooLong), ("tapearchives/pub/gotar.ErrFieldTooLong", laid_tapearchives_pub_gotar_ErrFieldTooLong), ("tapearchives/pub/gotar.ErrWriteAfterClose", laid_tapearchives_pub_gotar_ErrWriteAfterClose), ("tapearchives/pub/gotar.ErrInsecurePath", laid_tapearchives_pub_gotar_ErrInsecurePath), ("tapearchives/pub/gotar.basicKeys", laid_tapearchives_pub_gotar_basicKeys)], narrowed := true }
def FnScriptUptoSaid : Prop := fnScriptUptoRow.holds Tryz.pinned (OpenSpec.upto fnScriptSpec)

/-- 'laws.FnInPieces', WHERE WHAT IT READS IS OF BULK AT MOST 1048576: true; the input reads as it did. -/
def fnInPiecesUptoRow : OpenClaim := { program := "ytpkilegnokajmaagreatdoor", sum := "e06bcd7d27d88da75968e483c3269f3d8299800329709732c29ea349a48b162a", func := "tapearchives/laws.FnInPieces", spec := "fnInPieces", inPlace := ["internal/abi.NoEscape", "internal/bytealg.MakeNoZero"], unfollowed := true, recurses := true, named := ["tapearchives/pub/gotar.basicKeys", "internal/strconv.uint64pow10", "math/bits.deBruijn32tab", "math/bits.deBruijn64tab", "tapearchives/pub/gotar.ErrFieldTooLong", "tapearchives/pub/gotar.ErrHeader", "tapearchives/pub/gotar.ErrWriteTooLong", "tapearchives/pub/gotar.ErrWriteAfterClose", "io.EOF", "io.ErrUnexpectedEOF", "tapearchives/pub/gotar.ErrInsecurePath"], apart := false, laid := [("math/bits.deBruijn32tab", laid_math_bits_deBruijn32tab), ("math/bits.deBruijn64tab", laid_math_bits_deBruijn64tab), ("internal/strconv.uint64pow10", laid_internal_strconv_uint64pow10), ("io.EOF", laid_io_EOF), ("io.ErrUnexpectedEOF", laid_io_ErrUnexpectedEOF), ("tapearchives/pub/gotar.ErrHeader", laid_tapearchives_pub_gotar_ErrHeader), ("tapearchives/pub/gotar.ErrWriteTooLong", laid_tapearchives_pub_gotar_ErrWriteTooLong), ("tapearchives/pub/gotar.ErrFieldTooLong", laid_tapearchives_pub_gotar_ErrFieldTooLong), ("tapearchives/pub/gotar.ErrWriteAfterClose", laid_tapearchives_pub_gotar_ErrWriteAfterClose), ("tapearchives/pub/gotar.ErrInsecurePath", laid_tapearchives_pub_gotar_ErrInsecurePath), ("tapearchives/pub/gotar.basicKeys", laid_tapearchives_pub_gotar_basicKeys)], narrowed := true }
def FnInPiecesUptoSaid : Prop := fnInPiecesUptoRow.holds Tryz.pinned (OpenSpec.upto fnInPiecesSpec)

end Rows
end Go.Proofs.YtpkilegnokajmaaGreatDoor
