/-
  NARROWER THAN 'FOR EVERY INPUT', by the rows' own cells (each row's printed sentence says how): FnHexText: ifaces, maps, laid.
  DERIVED. THE GIVEN ROWS OF THIS SEAT. 1 by the template 'for every input the law returns true; each argument reads behind the call as it read before'; 0 by the template 'total and deterministic' (their statements: YtgemkjickljedaaGreatDoorTotals.lean).
  GIVEN WITH THE SEED: the statements are not yours to turn. If you find one false, say at which input.
  Laid BY PROGRAM, IN A SANDBOX (cutbox-rows.mjs): the forced cells as the released guide's own fill.sh prints them over the translation 3e498bee5ed2be72… (all of the seat's roots in one cut). By AI agents, Wed Nov 11 2026. No macro, syntax, notation, axiom, sorry.
-/
import Derived.Test.YtgemkjickljedaaGreatDoorChecked
import GoSem.PinnedTables
import GoSem.Claim
import GoSem.ClaimJoined
import GoSem.ClaimMapViews
import Derived.JoinedTies
import Derived.KernelRfl
namespace Go.Proofs.YtgemkjickljedaaGreatDoor
/- THE CELL 'sum', in the pinned program and in every row, IS THE sha256 OF THE DUMP (.gsa) THAT YtgemkjickljedaaGreatDoorProg.lean LOADS. Nothing in Lean hashes anything: it is a label: what it is worth is what the hold of that sum in a sandbox is worth. -/
noncomputable def Tryz.pinned : Pinned := { name := "ytgemkjickljedaagreatdoor", sum := "3e498bee5ed2be72e660f5d7f0fb824fc16e36c460cc5eb57dc1a4cfbe040031", checked := Tryz.checked }
namespace Rows
def none {H : Type} : Left H := { results := [], args := [] }

/- WHAT THE LISTED PACKAGE-LEVEL VARIABLES READ AS WHEN THE CALL BEGINS. Each datum BY PROGRAM (the guide's laid-datum.mjs) off the statement by which the dump's own 'gosem.cut.vars' lays the variable. In a bare row this is a premise. The card (YtgemkjickljedaaGreatDoorCards.lean) ties it to the program's text. -/
def laid_math_bits_deBruijn32tab {H : Type} : DataW H := .agg [.lit (.int .u8 0), .lit (.int .u8 1), .lit (.int .u8 28), .lit (.int .u8 2), .lit (.int .u8 29), .lit (.int .u8 14), .lit (.int .u8 24), .lit (.int .u8 3), .lit (.int .u8 30), .lit (.int .u8 22), .lit (.int .u8 20), .lit (.int .u8 15), .lit (.int .u8 25), .lit (.int .u8 17), .lit (.int .u8 4), .lit (.int .u8 8), .lit (.int .u8 31), .lit (.int .u8 27), .lit (.int .u8 13), .lit (.int .u8 23), .lit (.int .u8 21), .lit (.int .u8 19), .lit (.int .u8 16), .lit (.int .u8 7), .lit (.int .u8 26), .lit (.int .u8 12), .lit (.int .u8 18), .lit (.int .u8 6), .lit (.int .u8 11), .lit (.int .u8 5), .lit (.int .u8 10), .lit (.int .u8 9)]
def laid_math_bits_deBruijn64tab {H : Type} : DataW H := .agg [.lit (.int .u8 0), .lit (.int .u8 1), .lit (.int .u8 56), .lit (.int .u8 2), .lit (.int .u8 57), .lit (.int .u8 49), .lit (.int .u8 28), .lit (.int .u8 3), .lit (.int .u8 61), .lit (.int .u8 58), .lit (.int .u8 42), .lit (.int .u8 50), .lit (.int .u8 38), .lit (.int .u8 29), .lit (.int .u8 17), .lit (.int .u8 4), .lit (.int .u8 62), .lit (.int .u8 47), .lit (.int .u8 59), .lit (.int .u8 36), .lit (.int .u8 45), .lit (.int .u8 43), .lit (.int .u8 51), .lit (.int .u8 22), .lit (.int .u8 53), .lit (.int .u8 39), .lit (.int .u8 33), .lit (.int .u8 30), .lit (.int .u8 24), .lit (.int .u8 18), .lit (.int .u8 12), .lit (.int .u8 5), .lit (.int .u8 63), .lit (.int .u8 55), .lit (.int .u8 48), .lit (.int .u8 27), .lit (.int .u8 60), .lit (.int .u8 41), .lit (.int .u8 37), .lit (.int .u8 16), .lit (.int .u8 46), .lit (.int .u8 35), .lit (.int .u8 44), .lit (.int .u8 21), .lit (.int .u8 52), .lit (.int .u8 32), .lit (.int .u8 23), .lit (.int .u8 11), .lit (.int .u8 54), .lit (.int .u8 26), .lit (.int .u8 40), .lit (.int .u8 15), .lit (.int .u8 34), .lit (.int .u8 20), .lit (.int .u8 31), .lit (.int .u8 10), .lit (.int .u8 25), .lit (.int .u8 14), .lit (.int .u8 19), .lit (.int .u8 9), .lit (.int .u8 13), .lit (.int .u8 8), .lit (.int .u8 7), .lit (.int .u8 6)]
def laid_internal_strconv_uint64pow10 {H : Type} : DataW H := .agg [.lit (.int .u64 1), .lit (.int .u64 10), .lit (.int .u64 100), .lit (.int .u64 1000), .lit (.int .u64 10000), .lit (.int .u64 100000), .lit (.int .u64 1000000), .lit (.int .u64 10000000), .lit (.int .u64 100000000), .lit (.int .u64 1000000000), .lit (.int .u64 10000000000), .lit (.int .u64 100000000000), .lit (.int .u64 1000000000000), .lit (.int .u64 10000000000000), .lit (.int .u64 100000000000000), .lit (.int .u64 1000000000000000), .lit (.int .u64 10000000000000000), .lit (.int .u64 100000000000000000), .lit (.int .u64 1000000000000000000), .lit (.int .u64 10000000000000000000)]
def laid_unicode_utf8_acceptRanges {H : Type} : DataW H := .agg [.agg [.lit (.int .u8 128), .lit (.int .u8 191)], .agg [.lit (.int .u8 160), .lit (.int .u8 191)], .agg [.lit (.int .u8 128), .lit (.int .u8 159)], .agg [.lit (.int .u8 144), .lit (.int .u8 191)], .agg [.lit (.int .u8 128), .lit (.int .u8 143)], .agg [.lit (.int .u8 0), .lit (.int .u8 0)], .agg [.lit (.int .u8 0), .lit (.int .u8 0)], .agg [.lit (.int .u8 0), .lit (.int .u8 0)], .agg [.lit (.int .u8 0), .lit (.int .u8 0)], .agg [.lit (.int .u8 0), .lit (.int .u8 0)], .agg [.lit (.int .u8 0), .lit (.int .u8 0)], .agg [.lit (.int .u8 0), .lit (.int .u8 0)], .agg [.lit (.int .u8 0), .lit (.int .u8 0)], .agg [.lit (.int .u8 0), .lit (.int .u8 0)], .agg [.lit (.int .u8 0), .lit (.int .u8 0)], .agg [.lit (.int .u8 0), .lit (.int .u8 0)]]
def laid_strconv_ErrRange {H : Type} : DataW H := .iface "*errors.errorString" (.ptr (.agg [.lit (.string [118, 97, 108, 117, 101, 32, 111, 117, 116, 32, 111, 102, 32, 114, 97, 110, 103, 101])]))
def laid_strconv_ErrSyntax {H : Type} : DataW H := .iface "*errors.errorString" (.ptr (.agg [.lit (.string [105, 110, 118, 97, 108, 105, 100, 32, 115, 121, 110, 116, 97, 120])]))
def laid_bytes_ErrTooLarge {H : Type} : DataW H := .iface "*errors.errorString" (.ptr (.agg [.lit (.string [98, 121, 116, 101, 115, 46, 66, 117, 102, 102, 101, 114, 58, 32, 116, 111, 111, 32, 108, 97, 114, 103, 101])]))
def laid_encoding_hex_ErrLength {H : Type} : DataW H := .iface "*errors.errorString" (.ptr (.agg [.lit (.string [101, 110, 99, 111, 100, 105, 110, 103, 47, 104, 101, 120, 58, 32, 111, 100, 100, 32, 108, 101, 110, 103, 116, 104, 32, 104, 101, 120, 32, 115, 116, 114, 105, 110, 103])]))
def laid_given_example_pub_foolscap_pub_pdfcpu_pkg_pdfcpu_types_pdfDocEncoding {H : Type} : DataW H := .map [(.int .u8 24, .lit (.int .i32 728)), (.int .u8 25, .lit (.int .i32 711)), (.int .u8 26, .lit (.int .i32 710)), (.int .u8 27, .lit (.int .i32 729)), (.int .u8 28, .lit (.int .i32 733)), (.int .u8 29, .lit (.int .i32 731)), (.int .u8 30, .lit (.int .i32 730)), (.int .u8 31, .lit (.int .i32 732)), (.int .u8 128, .lit (.int .i32 8226)), (.int .u8 129, .lit (.int .i32 8224)), (.int .u8 130, .lit (.int .i32 8225)), (.int .u8 131, .lit (.int .i32 8230)), (.int .u8 132, .lit (.int .i32 8212)), (.int .u8 133, .lit (.int .i32 8211)), (.int .u8 134, .lit (.int .i32 402)), (.int .u8 135, .lit (.int .i32 8260)), (.int .u8 136, .lit (.int .i32 8249)), (.int .u8 137, .lit (.int .i32 8250)), (.int .u8 138, .lit (.int .i32 8722)), (.int .u8 139, .lit (.int .i32 8240)), (.int .u8 140, .lit (.int .i32 8222)), (.int .u8 141, .lit (.int .i32 8220)), (.int .u8 142, .lit (.int .i32 8221)), (.int .u8 143, .lit (.int .i32 8216)), (.int .u8 144, .lit (.int .i32 8217)), (.int .u8 145, .lit (.int .i32 8218)), (.int .u8 146, .lit (.int .i32 8482)), (.int .u8 147, .lit (.int .i32 64257)), (.int .u8 148, .lit (.int .i32 64258)), (.int .u8 149, .lit (.int .i32 321)), (.int .u8 150, .lit (.int .i32 338)), (.int .u8 151, .lit (.int .i32 352)), (.int .u8 152, .lit (.int .i32 376)), (.int .u8 153, .lit (.int .i32 381)), (.int .u8 154, .lit (.int .i32 305)), (.int .u8 155, .lit (.int .i32 322)), (.int .u8 156, .lit (.int .i32 339)), (.int .u8 157, .lit (.int .i32 353)), (.int .u8 158, .lit (.int .i32 382)), (.int .u8 160, .lit (.int .i32 8364))]
def laid_given_example_pub_foolscap_pub_pdfcpu_pkg_pdfcpu_types_ErrInvalidUTF16BE {H : Type} : DataW H := .iface "*errors.errorString" (.ptr (.agg [.lit (.string [105, 110, 118, 97, 108, 105, 100, 32, 85, 84, 70, 45, 49, 54, 66, 69, 32, 100, 101, 116, 101, 99, 116, 101, 100])]))
/-- One of Go's own tables, pinned by name: the form's constant. -/
def laid_unicode_utf8_first : DataW Unit := Go.Pinned.utf8First

/-- 'laws.FnHexText': WHATEVER THE INPUT: true; the input reads as it did. -/
def fnHexTextSpec : ChangeSpec := { name := "fnHexText", vars := ["given.example/pub-foolscap/pub/pdfcpu/pkg/pdfcpu/types.ErrInvalidUTF16BE", "given.example/pub-foolscap/pub/pdfcpu/pkg/pdfcpu/types.pdfDocEncoding"], fn := fun _ => fun
  | [d, g1, g2] => { results := [.lit (.bool true)], args := [d], vars := [g1, g2] }
  | _ => none }
def fnHexTextRow : OpenClaim := { program := "ytgemkjickljedaagreatdoor", sum := "3e498bee5ed2be72e660f5d7f0fb824fc16e36c460cc5eb57dc1a4cfbe040031", func := "given.example/pub-foolscap/laws.FnHexText", spec := "fnHexText", unfollowed := true, recurses := true, named := ["given.example/pub-foolscap/pub/pdfcpu/pkg/pdfcpu/types.ErrInvalidUTF16BE", "unicode/utf8.first", "unicode/utf8.acceptRanges", "encoding/hex.ErrLength", "strconv.ErrSyntax", "strconv.ErrRange", "internal/strconv.uint64pow10", "math/bits.deBruijn32tab", "math/bits.deBruijn64tab", "bytes.ErrTooLarge", "given.example/pub-foolscap/pub/pdfcpu/pkg/pdfcpu/types.pdfDocEncoding"], maps := true, ifaces := true, apart := false, laid := [("math/bits.deBruijn32tab", laid_math_bits_deBruijn32tab), ("math/bits.deBruijn64tab", laid_math_bits_deBruijn64tab), ("internal/strconv.uint64pow10", laid_internal_strconv_uint64pow10), ("unicode/utf8.acceptRanges", laid_unicode_utf8_acceptRanges), ("strconv.ErrRange", laid_strconv_ErrRange), ("strconv.ErrSyntax", laid_strconv_ErrSyntax), ("bytes.ErrTooLarge", laid_bytes_ErrTooLarge), ("encoding/hex.ErrLength", laid_encoding_hex_ErrLength), ("given.example/pub-foolscap/pub/pdfcpu/pkg/pdfcpu/types.pdfDocEncoding", laid_given_example_pub_foolscap_pub_pdfcpu_pkg_pdfcpu_types_pdfDocEncoding), ("given.example/pub-foolscap/pub/pdfcpu/pkg/pdfcpu/types.ErrInvalidUTF16BE", laid_given_example_pub_foolscap_pub_pdfcpu_pkg_pdfcpu_types_ErrInvalidUTF16BE), ("unicode/utf8.first", laid_unicode_utf8_first)] }
def FnHexTextSaid : Prop := fnHexTextRow.holds Tryz.pinned (OpenSpec.ofChange fnHexTextSpec)

/-- ITS FALSE NEIGHBOUR: 'it returns false'. Refute it at one input. -/
def fnHexTextWrong : ChangeSpec := { name := "fnHexText", vars := ["given.example/pub-foolscap/pub/pdfcpu/pkg/pdfcpu/types.ErrInvalidUTF16BE", "given.example/pub-foolscap/pub/pdfcpu/pkg/pdfcpu/types.pdfDocEncoding"], fn := fun _ => fun
  | [d, g1, g2] => { results := [.lit (.bool false)], args := [d], vars := [g1, g2] }
  | _ => none }
def FnHexTextWrongFalsely : Prop := fnHexTextRow.holds Tryz.pinned (OpenSpec.ofChange fnHexTextWrong)

/- THE SECOND FORM. 'bulk': how many values and letters a reading holds, each counted each time it is reached (what is shared counts as often as it is met; a slice's spare places count too). A statement '..UptoSaid' is the law's where the arguments, and the package variables that the reading takes, are together of bulk at most 1048576: NARROWER than '..Said'. Prove '..Said' where nothing that the law and all that it calls make is longer than what came in: it says more and counts as full. Else prove '..UptoSaid'. A law counts once. -/
mutual
def uptoBulk {H : Type} : DataW H → Nat
  | .lit (.string bytes) => bytes.length + 1
  | .lit _ => 1
  | .nil => 1
  | .ptr d => uptoBulk d + 1
  | .slice elems spare => uptoBulkAll elems + uptoBulkAll spare + 1
  | .agg parts => uptoBulkAll parts + 1
  | .iface _ d => uptoBulk d + 1
  | .map entries => uptoBulkEntries entries + 1
  | .held _ => 1
def uptoBulkAll {H : Type} : List (DataW H) → Nat
  | [] => 0
  | d :: r => uptoBulk d + uptoBulkAll r
def uptoBulkEntries {H : Type} : List (Lit × DataW H) → Nat
  | [] => 0
  | x :: r => uptoBulkEntry x + uptoBulkEntries r
def uptoBulkEntry {H : Type} : Lit × DataW H → Nat
  | (.string bytes, d) => bytes.length + uptoBulk d + 1
  | (_, d) => uptoBulk d + 1
 end
def uptoSmall : (H : Type) → List (DataW H) → Bool := fun _ ds => decide (uptoBulkAll ds ≤ 1048576)
def OpenSpec.upto (s : _root_.Go.ChangeSpec) : _root_.Go.OpenSpec := { _root_.Go.OpenSpec.ofChange s with cond := some uptoSmall }

/-- 'laws.FnHexText', WHERE WHAT IT READS IS OF BULK AT MOST 1048576: true; the input reads as it did. -/
def fnHexTextUptoRow : OpenClaim := { program := "ytgemkjickljedaagreatdoor", sum := "3e498bee5ed2be72e660f5d7f0fb824fc16e36c460cc5eb57dc1a4cfbe040031", func := "given.example/pub-foolscap/laws.FnHexText", spec := "fnHexText", unfollowed := true, recurses := true, named := ["given.example/pub-foolscap/pub/pdfcpu/pkg/pdfcpu/types.ErrInvalidUTF16BE", "unicode/utf8.first", "unicode/utf8.acceptRanges", "encoding/hex.ErrLength", "strconv.ErrSyntax", "strconv.ErrRange", "internal/strconv.uint64pow10", "math/bits.deBruijn32tab", "math/bits.deBruijn64tab", "bytes.ErrTooLarge", "given.example/pub-foolscap/pub/pdfcpu/pkg/pdfcpu/types.pdfDocEncoding"], maps := true, ifaces := true, apart := false, laid := [("math/bits.deBruijn32tab", laid_math_bits_deBruijn32tab), ("math/bits.deBruijn64tab", laid_math_bits_deBruijn64tab), ("internal/strconv.uint64pow10", laid_internal_strconv_uint64pow10), ("unicode/utf8.acceptRanges", laid_unicode_utf8_acceptRanges), ("strconv.ErrRange", laid_strconv_ErrRange), ("strconv.ErrSyntax", laid_strconv_ErrSyntax), ("bytes.ErrTooLarge", laid_bytes_ErrTooLarge), ("encoding/hex.ErrLength", laid_encoding_hex_ErrLength), ("given.example/pub-foolscap/pub/pdfcpu/pkg/pdfcpu/types.pdfDocEncoding", laid_given_example_pub_foolscap_pub_pdfcpu_pkg_pdfcpu_types_pdfDocEncoding), ("given.example/pub-foolscap/pub/pdfcpu/pkg/pdfcpu/types.ErrInvalidUTF16BE", laid_given_example_pub_foolscap_pub_pdfcpu_pkg_pdfcpu_types_ErrInvalidUTF16BE), ("unicode/utf8.first", laid_unicode_utf8_first)], narrowed := true }
def FnHexTextUptoSaid : Prop := fnHexTextUptoRow.holds Tryz.pinned (OpenSpec.upto fnHexTextSpec)

end Rows
end Go.Proofs.YtgemkjickljedaaGreatDoor
