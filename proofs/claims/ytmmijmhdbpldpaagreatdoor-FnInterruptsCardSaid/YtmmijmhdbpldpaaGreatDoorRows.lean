/-
  NARROWER THAN 'FOR EVERY INPUT', by the rows' own cells (each row's printed sentence says how): FnAuto: laid · FnBalanced: laid · FnReference: laid · FnCounted: laid · FnKept: laid · FnInterrupts: laid.
  DERIVED. THE GIVEN ROWS OF THIS SEAT. 6 by the template 'for every input the law returns true; each argument reads behind the call as it read before'; 0 by the template 'total and deterministic' (their statements: YtmmijmhdbpldpaaGreatDoorTotals.lean).
  GIVEN WITH THE SEED: the statements are not yours to turn. If you find one false, say at which input.
  Laid BY PROGRAM, IN A SANDBOX (cutbox-rows.mjs): the forced cells as the released guide's own fill.sh prints them over the translation 6286ed37b1f232bd… (all of the seat's roots in one cut). By AI agents, Wed Nov 11 2026. No macro, syntax, notation, axiom, sorry.
-/
import Derived.Test.YtmmijmhdbpldpaaGreatDoorChecked
import GoSem.PinnedTables
import GoSem.Claim
import GoSem.ClaimJoined
import GoSem.ClaimMapViews
import Derived.JoinedTies
import Derived.KernelRfl
namespace Go.Proofs.YtmmijmhdbpldpaaGreatDoor
/- THE CELL 'sum', in the pinned program and in every row, IS THE sha256 OF THE DUMP (.gsa) THAT YtmmijmhdbpldpaaGreatDoorProg.lean LOADS. Nothing in Lean hashes anything: it is a label: what it is worth is what the hold of that sum in a sandbox is worth. -/
noncomputable def Tryz.pinned : Pinned := { name := "ytmmijmhdbpldpaagreatdoor", sum := "6286ed37b1f232bd53043e9caede802b6cb9e08ad7f48fa8e8fa51bf4f0ba7da", checked := Tryz.checked }
namespace Rows
def none {H : Type} : Left H := { results := [], args := [] }

/- WHAT THE LISTED PACKAGE-LEVEL VARIABLES READ AS WHEN THE CALL BEGINS. Each datum BY PROGRAM (the guide's laid-datum.mjs) off the statement by which the dump's own 'gosem.cut.vars' lays the variable. In a bare row this is a premise. The card (YtmmijmhdbpldpaaGreatDoorCards.lean) ties it to the program's text. -/
def laid_math_bits_deBruijn32tab {H : Type} : DataW H := .agg [.lit (.int .u8 0), .lit (.int .u8 1), .lit (.int .u8 28), .lit (.int .u8 2), .lit (.int .u8 29), .lit (.int .u8 14), .lit (.int .u8 24), .lit (.int .u8 3), .lit (.int .u8 30), .lit (.int .u8 22), .lit (.int .u8 20), .lit (.int .u8 15), .lit (.int .u8 25), .lit (.int .u8 17), .lit (.int .u8 4), .lit (.int .u8 8), .lit (.int .u8 31), .lit (.int .u8 27), .lit (.int .u8 13), .lit (.int .u8 23), .lit (.int .u8 21), .lit (.int .u8 19), .lit (.int .u8 16), .lit (.int .u8 7), .lit (.int .u8 26), .lit (.int .u8 12), .lit (.int .u8 18), .lit (.int .u8 6), .lit (.int .u8 11), .lit (.int .u8 5), .lit (.int .u8 10), .lit (.int .u8 9)]
def laid_math_bits_deBruijn64tab {H : Type} : DataW H := .agg [.lit (.int .u8 0), .lit (.int .u8 1), .lit (.int .u8 56), .lit (.int .u8 2), .lit (.int .u8 57), .lit (.int .u8 49), .lit (.int .u8 28), .lit (.int .u8 3), .lit (.int .u8 61), .lit (.int .u8 58), .lit (.int .u8 42), .lit (.int .u8 50), .lit (.int .u8 38), .lit (.int .u8 29), .lit (.int .u8 17), .lit (.int .u8 4), .lit (.int .u8 62), .lit (.int .u8 47), .lit (.int .u8 59), .lit (.int .u8 36), .lit (.int .u8 45), .lit (.int .u8 43), .lit (.int .u8 51), .lit (.int .u8 22), .lit (.int .u8 53), .lit (.int .u8 39), .lit (.int .u8 33), .lit (.int .u8 30), .lit (.int .u8 24), .lit (.int .u8 18), .lit (.int .u8 12), .lit (.int .u8 5), .lit (.int .u8 63), .lit (.int .u8 55), .lit (.int .u8 48), .lit (.int .u8 27), .lit (.int .u8 60), .lit (.int .u8 41), .lit (.int .u8 37), .lit (.int .u8 16), .lit (.int .u8 46), .lit (.int .u8 35), .lit (.int .u8 44), .lit (.int .u8 21), .lit (.int .u8 52), .lit (.int .u8 32), .lit (.int .u8 23), .lit (.int .u8 11), .lit (.int .u8 54), .lit (.int .u8 26), .lit (.int .u8 40), .lit (.int .u8 15), .lit (.int .u8 34), .lit (.int .u8 20), .lit (.int .u8 31), .lit (.int .u8 10), .lit (.int .u8 25), .lit (.int .u8 14), .lit (.int .u8 19), .lit (.int .u8 9), .lit (.int .u8 13), .lit (.int .u8 8), .lit (.int .u8 7), .lit (.int .u8 6)]
def laid_internal_strconv_uint64pow10 {H : Type} : DataW H := .agg [.lit (.int .u64 1), .lit (.int .u64 10), .lit (.int .u64 100), .lit (.int .u64 1000), .lit (.int .u64 10000), .lit (.int .u64 100000), .lit (.int .u64 1000000), .lit (.int .u64 10000000), .lit (.int .u64 100000000), .lit (.int .u64 1000000000), .lit (.int .u64 10000000000), .lit (.int .u64 100000000000), .lit (.int .u64 1000000000000), .lit (.int .u64 10000000000000), .lit (.int .u64 100000000000000), .lit (.int .u64 1000000000000000), .lit (.int .u64 10000000000000000), .lit (.int .u64 100000000000000000), .lit (.int .u64 1000000000000000000), .lit (.int .u64 10000000000000000000)]
def laid_unicode_utf8_acceptRanges {H : Type} : DataW H := .agg [.agg [.lit (.int .u8 128), .lit (.int .u8 191)], .agg [.lit (.int .u8 160), .lit (.int .u8 191)], .agg [.lit (.int .u8 128), .lit (.int .u8 159)], .agg [.lit (.int .u8 144), .lit (.int .u8 191)], .agg [.lit (.int .u8 128), .lit (.int .u8 143)], .agg [.lit (.int .u8 0), .lit (.int .u8 0)], .agg [.lit (.int .u8 0), .lit (.int .u8 0)], .agg [.lit (.int .u8 0), .lit (.int .u8 0)], .agg [.lit (.int .u8 0), .lit (.int .u8 0)], .agg [.lit (.int .u8 0), .lit (.int .u8 0)], .agg [.lit (.int .u8 0), .lit (.int .u8 0)], .agg [.lit (.int .u8 0), .lit (.int .u8 0)], .agg [.lit (.int .u8 0), .lit (.int .u8 0)], .agg [.lit (.int .u8 0), .lit (.int .u8 0)], .agg [.lit (.int .u8 0), .lit (.int .u8 0)], .agg [.lit (.int .u8 0), .lit (.int .u8 0)]]
def laid_strconv_ErrRange {H : Type} : DataW H := .iface "*errors.errorString" (.ptr (.agg [.lit (.string [118, 97, 108, 117, 101, 32, 111, 117, 116, 32, 111, 102, 32, 114, 97, 110, 103, 101])]))
def laid_strconv_ErrSyntax {H : Type} : DataW H := .iface "*errors.errorString" (.ptr (.agg [.lit (.string [105, 110, 118, 97, 108, 105, 100, 32, 115, 121, 110, 116, 97, 120])]))
def laid_pub_paratext_pub_rscmarkdown_htmlEntities {H : Type} : DataW H := .agg [.agg [.lit (.string [38, 97, 109, 112, 59]), .lit (.string [38])], .agg [.lit (.string [38, 97, 112, 111, 115, 59]), .lit (.string [39])], .agg [.lit (.string [38, 99, 111, 112, 121, 59]), .lit (.string [194, 169])], .agg [.lit (.string [38, 102, 114, 97, 99, 51, 52, 59]), .lit (.string [194, 190])], .agg [.lit (.string [38, 103, 116, 59]), .lit (.string [62])], .agg [.lit (.string [38, 104, 101, 108, 108, 105, 112, 59]), .lit (.string [226, 128, 166])], .agg [.lit (.string [38, 108, 116, 59]), .lit (.string [60])], .agg [.lit (.string [38, 109, 100, 97, 115, 104, 59]), .lit (.string [226, 128, 148])], .agg [.lit (.string [38, 110, 98, 115, 112, 59]), .lit (.string [194, 160])], .agg [.lit (.string [38, 110, 100, 97, 115, 104, 59]), .lit (.string [226, 128, 147])], .agg [.lit (.string [38, 113, 117, 111, 116, 59]), .lit (.string [34])], .agg [.lit (.string [38, 114, 101, 103, 59]), .lit (.string [194, 174])]]
/-- One of Go's own tables, pinned by name: the form's constant. -/
def laid_unicode_utf8_first : DataW Unit := Go.Pinned.utf8First

/-- 'laws.FnAuto': WHATEVER THE INPUT: true; the input reads as it did. -/
def fnAutoSpec : ChangeSpec := { name := "fnAuto", fn := fun _ => fun
  | [d1, d2, d3, d4, d5, d6] => { results := [.lit (.bool true)], args := [d1, d2, d3, d4, d5, d6] }
  | _ => none }
def fnAutoRow : OpenClaim := { program := "ytmmijmhdbpldpaagreatdoor", sum := "6286ed37b1f232bd53043e9caede802b6cb9e08ad7f48fa8e8fa51bf4f0ba7da", func := "pub-paratext/laws.FnAuto", spec := "fnAuto", inPlace := ["internal/bytealg.IndexByteString", "internal/abi.NoEscape", "internal/bytealg.MakeNoZero"], unfollowed := true, recurses := true, named := ["unicode/utf8.first", "unicode/utf8.acceptRanges", "pub-paratext/pub/rscmarkdown.htmlEntities", "strconv.ErrSyntax", "strconv.ErrRange", "internal/strconv.uint64pow10", "math/bits.deBruijn32tab", "math/bits.deBruijn64tab"], apart := false, laid := [("math/bits.deBruijn32tab", laid_math_bits_deBruijn32tab), ("math/bits.deBruijn64tab", laid_math_bits_deBruijn64tab), ("internal/strconv.uint64pow10", laid_internal_strconv_uint64pow10), ("unicode/utf8.acceptRanges", laid_unicode_utf8_acceptRanges), ("strconv.ErrRange", laid_strconv_ErrRange), ("strconv.ErrSyntax", laid_strconv_ErrSyntax), ("pub-paratext/pub/rscmarkdown.htmlEntities", laid_pub_paratext_pub_rscmarkdown_htmlEntities), ("unicode/utf8.first", laid_unicode_utf8_first)] }
def FnAutoSaid : Prop := fnAutoRow.holds Tryz.pinned (OpenSpec.ofChange fnAutoSpec)

/-- ITS FALSE NEIGHBOUR: 'it returns false'. Refute it at one input. -/
def fnAutoWrong : ChangeSpec := { name := "fnAuto", fn := fun _ => fun
  | [d1, d2, d3, d4, d5, d6] => { results := [.lit (.bool false)], args := [d1, d2, d3, d4, d5, d6] }
  | _ => none }
def FnAutoWrongFalsely : Prop := fnAutoRow.holds Tryz.pinned (OpenSpec.ofChange fnAutoWrong)

/-- 'laws.FnBalanced': WHATEVER THE INPUT: true; the input reads as it did. -/
def fnBalancedSpec : ChangeSpec := { name := "fnBalanced", fn := fun _ => fun
  | [d1, d2, d3, d4] => { results := [.lit (.bool true)], args := [d1, d2, d3, d4] }
  | _ => none }
def fnBalancedRow : OpenClaim := { program := "ytmmijmhdbpldpaagreatdoor", sum := "6286ed37b1f232bd53043e9caede802b6cb9e08ad7f48fa8e8fa51bf4f0ba7da", func := "pub-paratext/laws.FnBalanced", spec := "fnBalanced", inPlace := ["internal/bytealg.IndexByteString", "internal/abi.NoEscape", "internal/bytealg.MakeNoZero"], unfollowed := true, recurses := true, named := ["unicode/utf8.first", "unicode/utf8.acceptRanges", "pub-paratext/pub/rscmarkdown.htmlEntities", "strconv.ErrSyntax", "strconv.ErrRange", "internal/strconv.uint64pow10", "math/bits.deBruijn32tab", "math/bits.deBruijn64tab"], apart := false, laid := [("math/bits.deBruijn32tab", laid_math_bits_deBruijn32tab), ("math/bits.deBruijn64tab", laid_math_bits_deBruijn64tab), ("internal/strconv.uint64pow10", laid_internal_strconv_uint64pow10), ("unicode/utf8.acceptRanges", laid_unicode_utf8_acceptRanges), ("strconv.ErrRange", laid_strconv_ErrRange), ("strconv.ErrSyntax", laid_strconv_ErrSyntax), ("pub-paratext/pub/rscmarkdown.htmlEntities", laid_pub_paratext_pub_rscmarkdown_htmlEntities), ("unicode/utf8.first", laid_unicode_utf8_first)] }
def FnBalancedSaid : Prop := fnBalancedRow.holds Tryz.pinned (OpenSpec.ofChange fnBalancedSpec)

/-- ITS FALSE NEIGHBOUR: 'it returns false'. Refute it at one input. -/
def fnBalancedWrong : ChangeSpec := { name := "fnBalanced", fn := fun _ => fun
  | [d1, d2, d3, d4] => { results := [.lit (.bool false)], args := [d1, d2, d3, d4] }
  | _ => none }
def FnBalancedWrongFalsely : Prop := fnBalancedRow.holds Tryz.pinned (OpenSpec.ofChange fnBalancedWrong)

/-- 'laws.FnReference': WHATEVER THE INPUT: true; the input reads as it did. -/
def fnReferenceSpec : ChangeSpec := { name := "fnReference", fn := fun _ => fun
  | [d1, d2, d3] => { results := [.lit (.bool true)], args := [d1, d2, d3] }
  | _ => none }
def fnReferenceRow : OpenClaim := { program := "ytmmijmhdbpldpaagreatdoor", sum := "6286ed37b1f232bd53043e9caede802b6cb9e08ad7f48fa8e8fa51bf4f0ba7da", func := "pub-paratext/laws.FnReference", spec := "fnReference", inPlace := ["internal/bytealg.IndexByteString", "internal/abi.NoEscape", "internal/bytealg.MakeNoZero"], unfollowed := true, recurses := true, named := ["unicode/utf8.first", "unicode/utf8.acceptRanges", "pub-paratext/pub/rscmarkdown.htmlEntities", "strconv.ErrSyntax", "strconv.ErrRange", "internal/strconv.uint64pow10", "math/bits.deBruijn32tab", "math/bits.deBruijn64tab"], apart := false, laid := [("math/bits.deBruijn32tab", laid_math_bits_deBruijn32tab), ("math/bits.deBruijn64tab", laid_math_bits_deBruijn64tab), ("internal/strconv.uint64pow10", laid_internal_strconv_uint64pow10), ("unicode/utf8.acceptRanges", laid_unicode_utf8_acceptRanges), ("strconv.ErrRange", laid_strconv_ErrRange), ("strconv.ErrSyntax", laid_strconv_ErrSyntax), ("pub-paratext/pub/rscmarkdown.htmlEntities", laid_pub_paratext_pub_rscmarkdown_htmlEntities), ("unicode/utf8.first", laid_unicode_utf8_first)] }
def FnReferenceSaid : Prop := fnReferenceRow.holds Tryz.pinned (OpenSpec.ofChange fnReferenceSpec)

/-- ITS FALSE NEIGHBOUR: 'it returns false'. Refute it at one input. -/
def fnReferenceWrong : ChangeSpec := { name := "fnReference", fn := fun _ => fun
  | [d1, d2, d3] => { results := [.lit (.bool false)], args := [d1, d2, d3] }
  | _ => none }
def FnReferenceWrongFalsely : Prop := fnReferenceRow.holds Tryz.pinned (OpenSpec.ofChange fnReferenceWrong)

/-- 'laws.FnCounted': WHATEVER THE INPUT: true; the input reads as it did. -/
def fnCountedSpec : ChangeSpec := { name := "fnCounted", fn := fun _ => fun
  | [d1, d2, d3] => { results := [.lit (.bool true)], args := [d1, d2, d3] }
  | _ => none }
def fnCountedRow : OpenClaim := { program := "ytmmijmhdbpldpaagreatdoor", sum := "6286ed37b1f232bd53043e9caede802b6cb9e08ad7f48fa8e8fa51bf4f0ba7da", func := "pub-paratext/laws.FnCounted", spec := "fnCounted", inPlace := ["internal/bytealg.IndexByteString", "internal/abi.NoEscape", "internal/bytealg.MakeNoZero"], unfollowed := true, recurses := true, named := ["unicode/utf8.first", "unicode/utf8.acceptRanges", "pub-paratext/pub/rscmarkdown.htmlEntities", "strconv.ErrSyntax", "strconv.ErrRange", "internal/strconv.uint64pow10", "math/bits.deBruijn32tab", "math/bits.deBruijn64tab"], apart := false, laid := [("math/bits.deBruijn32tab", laid_math_bits_deBruijn32tab), ("math/bits.deBruijn64tab", laid_math_bits_deBruijn64tab), ("internal/strconv.uint64pow10", laid_internal_strconv_uint64pow10), ("unicode/utf8.acceptRanges", laid_unicode_utf8_acceptRanges), ("strconv.ErrRange", laid_strconv_ErrRange), ("strconv.ErrSyntax", laid_strconv_ErrSyntax), ("pub-paratext/pub/rscmarkdown.htmlEntities", laid_pub_paratext_pub_rscmarkdown_htmlEntities), ("unicode/utf8.first", laid_unicode_utf8_first)] }
def FnCountedSaid : Prop := fnCountedRow.holds Tryz.pinned (OpenSpec.ofChange fnCountedSpec)

/-- ITS FALSE NEIGHBOUR: 'it returns false'. Refute it at one input. -/
def fnCountedWrong : ChangeSpec := { name := "fnCounted", fn := fun _ => fun
  | [d1, d2, d3] => { results := [.lit (.bool false)], args := [d1, d2, d3] }
  | _ => none }
def FnCountedWrongFalsely : Prop := fnCountedRow.holds Tryz.pinned (OpenSpec.ofChange fnCountedWrong)

/-- 'laws.FnKept': WHATEVER THE INPUT: true; the input reads as it did. -/
def fnKeptSpec : ChangeSpec := { name := "fnKept", fn := fun _ => fun
  | [d1, d2] => { results := [.lit (.bool true)], args := [d1, d2] }
  | _ => none }
def fnKeptRow : OpenClaim := { program := "ytmmijmhdbpldpaagreatdoor", sum := "6286ed37b1f232bd53043e9caede802b6cb9e08ad7f48fa8e8fa51bf4f0ba7da", func := "pub-paratext/laws.FnKept", spec := "fnKept", inPlace := ["internal/bytealg.IndexByteString", "internal/abi.NoEscape", "internal/bytealg.MakeNoZero"], unfollowed := true, recurses := true, named := ["unicode/utf8.first", "unicode/utf8.acceptRanges", "pub-paratext/pub/rscmarkdown.htmlEntities", "strconv.ErrSyntax", "strconv.ErrRange", "internal/strconv.uint64pow10", "math/bits.deBruijn32tab", "math/bits.deBruijn64tab"], apart := false, laid := [("math/bits.deBruijn32tab", laid_math_bits_deBruijn32tab), ("math/bits.deBruijn64tab", laid_math_bits_deBruijn64tab), ("internal/strconv.uint64pow10", laid_internal_strconv_uint64pow10), ("unicode/utf8.acceptRanges", laid_unicode_utf8_acceptRanges), ("strconv.ErrRange", laid_strconv_ErrRange), ("strconv.ErrSyntax", laid_strconv_ErrSyntax), ("pub-paratext/pub/rscmarkdown.htmlEntities", laid_pub_paratext_pub_rscmarkdown_htmlEntities), ("unicode/utf8.first", laid_unicode_utf8_first)] }
def FnKeptSaid : Prop := fnKeptRow.holds Tryz.pinned (OpenSpec.ofChange fnKeptSpec)

/-- ITS FALSE NEIGHBOUR: 'it returns false'. Refute it at one input. -/
def fnKeptWrong : ChangeSpec := { name := "fnKept", fn := fun _ => fun
  | [d1, d2] => { results := [.lit (.bool false)], args := [d1, d2] }
  | _ => none }
def FnKeptWrongFalsely : Prop := fnKeptRow.holds Tryz.pinned (OpenSpec.ofChange fnKeptWrong)

/-- 'laws.FnInterrupts': WHATEVER THE INPUT: true; the input reads as it did. -/
def fnInterruptsSpec : ChangeSpec := { name := "fnInterrupts", fn := fun _ => fun
  | [d1, d2] => { results := [.lit (.bool true)], args := [d1, d2] }
  | _ => none }
def fnInterruptsRow : OpenClaim := { program := "ytmmijmhdbpldpaagreatdoor", sum := "6286ed37b1f232bd53043e9caede802b6cb9e08ad7f48fa8e8fa51bf4f0ba7da", func := "pub-paratext/laws.FnInterrupts", spec := "fnInterrupts", inPlace := ["internal/bytealg.IndexByteString", "internal/abi.NoEscape", "internal/bytealg.MakeNoZero"], unfollowed := true, recurses := true, named := ["unicode/utf8.first", "unicode/utf8.acceptRanges", "pub-paratext/pub/rscmarkdown.htmlEntities", "strconv.ErrSyntax", "strconv.ErrRange", "internal/strconv.uint64pow10", "math/bits.deBruijn32tab", "math/bits.deBruijn64tab"], apart := false, laid := [("math/bits.deBruijn32tab", laid_math_bits_deBruijn32tab), ("math/bits.deBruijn64tab", laid_math_bits_deBruijn64tab), ("internal/strconv.uint64pow10", laid_internal_strconv_uint64pow10), ("unicode/utf8.acceptRanges", laid_unicode_utf8_acceptRanges), ("strconv.ErrRange", laid_strconv_ErrRange), ("strconv.ErrSyntax", laid_strconv_ErrSyntax), ("pub-paratext/pub/rscmarkdown.htmlEntities", laid_pub_paratext_pub_rscmarkdown_htmlEntities), ("unicode/utf8.first", laid_unicode_utf8_first)] }
def FnInterruptsSaid : Prop := fnInterruptsRow.holds Tryz.pinned (OpenSpec.ofChange fnInterruptsSpec)

/-- ITS FALSE NEIGHBOUR: 'it returns false'. Refute it at one input. -/
def fnInterruptsWrong : ChangeSpec := { name := "fnInterrupts", fn := fun _ => fun
  | [d1, d2] => { results := [.lit (.bool false)], args := [d1, d2] }
  | _ => none }
def FnInterruptsWrongFalsely : Prop := fnInterruptsRow.holds Tryz.pinned (OpenSpec.ofChange fnInterruptsWrong)

/- THE SECOND FORM. 'bulk': how many values and letters a reading holds, each counted each time it is reached (what is shared counts as often as it is met; a slice's spare places count too). A statement '..UptoSaid' is the law's where the arguments, and the package variables that the reading takes, are together of bulk at most 1048576: NARROWER than '..Said'. Prove '..Said' where nothing that the law and all that it calls make is longer than what came in: it says more and counts as full. Else prove '..UptoSaid'. A law counts once. -/
mutual
def uptoBulk {H : Type} : DataW H → Nat
  | .lit (.string bytes) => bytes.length + 1
  | .lit _ => 1
  | .nil => 1
  | .ptr d => uptoBulk d + 1
  | .slice elems spare => uptoBulkAll elems + uptoBulkAll spare + 1
  | .agg parts => uptoBulkAll parts + 1
  | .iface _ d => uptoBulk d + 1
  | .map entries => uptoBulkEntries entries + 1
  | .held _ => 1
def uptoBulkAll {H : Type} : List (DataW H) → Nat
  | [] => 0
  | d :: r => uptoBulk d + uptoBulkAll r
def uptoBulkEntries {H : Type} : List (Lit × DataW H) → Nat
  | [] => 0
  | x :: r => uptoBulkEntry x + uptoBulkEntries r
def uptoBulkEntry {H : Type} : Lit × DataW H → Nat
  | (.string bytes, d) => bytes.length + uptoBulk d + 1
  | (_, d) => uptoBulk d + 1
 end
def uptoSmall : (H : Type) → List (DataW H) → Bool := fun _ ds => decide (uptoBulkAll ds ≤ 1048576)
def OpenSpec.upto (s : _root_.Go.ChangeSpec) : _root_.Go.OpenSpec := { _root_.Go.OpenSpec.ofChange s with cond := some uptoSmall }

/-- 'laws.FnAuto', WHERE WHAT IT READS IS OF BULK AT MOST 1048576: true; the input reads as it did. -/
def fnAutoUptoRow : OpenClaim := { program := "ytmmijmhdbpldpaagreatdoor", sum := "6286ed37b1f232bd53043e9caede802b6cb9e08ad7f48fa8e8fa51bf4f0ba7da", func := "pub-paratext/laws.FnAuto", spec := "fnAuto", inPlace := ["internal/bytealg.IndexByteString", "internal/abi.NoEscape", "internal/bytealg.MakeNoZero"], unfollowed := true, recurses := true, named := ["unicode/utf8.first", "unicode/utf8.acceptRanges", "pub-paratext/pub/rscmarkdown.htmlEntities", "strconv.ErrSyntax", "strconv.ErrRange", "internal/strconv.uint64pow10", "math/bits.deBruijn32tab", "math/bits.deBruijn64tab"], apart := false, laid := [("math/bits.deBruijn32tab", laid_math_bits_deBruijn32tab), ("math/bits.deBruijn64tab", laid_math_bits_deBruijn64tab), ("internal/strconv.uint64pow10", laid_internal_strconv_uint64pow10), ("unicode/utf8.acceptRanges", laid_unicode_utf8_acceptRanges), ("strconv.ErrRange", laid_strconv_ErrRange), ("strconv.ErrSyntax", laid_strconv_ErrSyntax), ("pub-paratext/pub/rscmarkdown.htmlEntities", laid_pub_paratext_pub_rscmarkdown_htmlEntities), ("unicode/utf8.first", laid_unicode_utf8_first)], narrowed := true }
def FnAutoUptoSaid : Prop := fnAutoUptoRow.holds Tryz.pinned (OpenSpec.upto fnAutoSpec)

/-- 'laws.FnBalanced', WHERE WHAT IT READS IS OF BULK AT MOST 1048576: true; the input reads as it did. -/
def fnBalancedUptoRow : OpenClaim := { program := "ytmmijmhdbpldpaagreatdoor", sum := "6286ed37b1f232bd53043e9caede802b6cb9e08ad7f48fa8e8fa51bf4f0ba7da", func := "pub-paratext/laws.FnBalanced", spec := "fnBalanced", inPlace := ["internal/bytealg.IndexByteString", "internal/abi.NoEscape", "internal/bytealg.MakeNoZero"], unfollowed := true, recurses := true, named := ["unicode/utf8.first", "unicode/utf8.acceptRanges", "pub-paratext/pub/rscmarkdown.htmlEntities", "strconv.ErrSyntax", "strconv.ErrRange", "internal/strconv.uint64pow10", "math/bits.deBruijn32tab", "math/bits.deBruijn64tab"], apart := false, laid := [("math/bits.deBruijn32tab", laid_math_bits_deBruijn32tab), ("math/bits.deBruijn64tab", laid_math_bits_deBruijn64tab), ("internal/strconv.uint64pow10", laid_internal_strconv_uint64pow10), ("unicode/utf8.acceptRanges", laid_unicode_utf8_acceptRanges), ("strconv.ErrRange", laid_strconv_ErrRange), ("strconv.ErrSyntax", laid_strconv_ErrSyntax), ("pub-paratext/pub/rscmarkdown.htmlEntities", laid_pub_paratext_pub_rscmarkdown_htmlEntities), ("unicode/utf8.first", laid_unicode_utf8_first)], narrowed := true }
def FnBalancedUptoSaid : Prop := fnBalancedUptoRow.holds Tryz.pinned (OpenSpec.upto fnBalancedSpec)

/-- 'laws.FnReference', WHERE WHAT IT READS IS OF BULK AT MOST 1048576: true; the input reads as it did. -/
def fnReferenceUptoRow : OpenClaim := { program := "ytmmijmhdbpldpaagreatdoor", sum := "6286ed37b1f232bd53043e9caede802b6cb9e08ad7f48fa8e8fa51bf4f0ba7da", func := "pub-paratext/laws.FnReference", spec := "fnReference", inPlace := ["internal/bytealg.IndexByteString", "internal/abi.NoEscape", "internal/bytealg.MakeNoZero"], unfollowed := true, recurses := true, named := ["unicode/utf8.first", "unicode/utf8.acceptRanges", "pub-paratext/pub/rscmarkdown.htmlEntities", "strconv.ErrSyntax", "strconv.ErrRange", "internal/strconv.uint64pow10", "math/bits.deBruijn32tab", "math/bits.deBruijn64tab"], apart := false, laid := [("math/bits.deBruijn32tab", laid_math_bits_deBruijn32tab), ("math/bits.deBruijn64tab", laid_math_bits_deBruijn64tab), ("internal/strconv.uint64pow10", laid_internal_strconv_uint64pow10), ("unicode/utf8.acceptRanges", laid_unicode_utf8_acceptRanges), ("strconv.ErrRange", laid_strconv_ErrRange), ("strconv.ErrSyntax", laid_strconv_ErrSyntax), ("pub-paratext/pub/rscmarkdown.htmlEntities", laid_pub_paratext_pub_rscmarkdown_htmlEntities), ("unicode/utf8.first", laid_unicode_utf8_first)], narrowed := true }
def FnReferenceUptoSaid : Prop := fnReferenceUptoRow.holds Tryz.pinned (OpenSpec.upto fnReferenceSpec)

/-- 'laws.FnCounted', WHERE WHAT IT READS IS OF BULK AT MOST 1048576: true; the input reads as it did. -/
def fnCountedUptoRow : OpenClaim := { program := "ytmmijmhdbpldpaagreatdoor", sum := "6286ed37b1f232bd53043e9caede802b6cb9e08ad7f48fa8e8fa51bf4f0ba7da", func := "pub-paratext/laws.FnCounted", spec := "fnCounted", inPlace := ["internal/bytealg.IndexByteString", "internal/abi.NoEscape", "internal/bytealg.MakeNoZero"], unfollowed := true, recurses := true, named := ["unicode/utf8.first", "unicode/utf8.acceptRanges", "pub-paratext/pub/rscmarkdown.htmlEntities", "strconv.ErrSyntax", "strconv.ErrRange", "internal/strconv.uint64pow10", "math/bits.deBruijn32tab", "math/bits.deBruijn64tab"], apart := false, laid := [("math/bits.deBruijn32tab", laid_math_bits_deBruijn32tab), ("math/bits.deBruijn64tab", laid_math_bits_deBruijn64tab), ("internal/strconv.uint64pow10", laid_internal_strconv_uint64pow10), ("unicode/utf8.acceptRanges", laid_unicode_utf8_acceptRanges), ("strconv.ErrRange", laid_strconv_ErrRange), ("strconv.ErrSyntax", laid_strconv_ErrSyntax), ("pub-paratext/pub/rscmarkdown.htmlEntities", laid_pub_paratext_pub_rscmarkdown_htmlEntities), ("unicode/utf8.first", laid_unicode_utf8_first)], narrowed := true }
def FnCountedUptoSaid : Prop := fnCountedUptoRow.holds Tryz.pinned (OpenSpec.upto fnCountedSpec)

/-- 'laws.FnKept', WHERE WHAT IT READS IS OF BULK AT MOST 1048576: true; the input reads as it did. -/
def fnKeptUptoRow : OpenClaim := { program := "ytmmijmhdbpldpaagreatdoor", sum := "6286ed37b1f232bd53043e9caede802b6cb9e08ad7f48fa8e8fa51bf4f0ba7da", func := "pub-paratext/laws.FnKept", spec := "fnKept", inPlace := ["internal/bytealg.IndexByteString", "internal/abi.NoEscape", "internal/bytealg.MakeNoZero"], unfollowed := true, recurses := true, named := ["unicode/utf8.first", "unicode/utf8.acceptRanges", "pub-paratext/pub/rscmarkdown.htmlEntities", "strconv.ErrSyntax", "strconv.ErrRange", "internal/strconv.uint64pow10", "math/bits.deBruijn32tab", "math/bits.deBruijn64tab"], apart := false, laid := [("math/bits.deBruijn32tab", laid_math_bits_deBruijn32tab), ("math/bits.deBruijn64tab", laid_math_bits_deBruijn64tab), ("internal/strconv.uint64pow10", laid_internal_strconv_uint64pow10), ("unicode/utf8.acceptRanges", laid_unicode_utf8_acceptRanges), ("strconv.ErrRange", laid_strconv_ErrRange), ("strconv.ErrSyntax", laid_strconv_ErrSyntax), ("pub-paratext/pub/rscmarkdown.htmlEntities", laid_pub_paratext_pub_rscmarkdown_htmlEntities), ("unicode/utf8.first", laid_unicode_utf8_first)], narrowed := true }
def FnKeptUptoSaid : Prop := fnKeptUptoRow.holds Tryz.pinned (OpenSpec.upto fnKeptSpec)

/-- 'laws.FnInterrupts', WHERE WHAT IT READS IS OF BULK AT MOST 1048576: true; the input reads as it did. -/
def fnInterruptsUptoRow : OpenClaim := { program := "ytmmijmhdbpldpaagreatdoor", sum := "6286ed37b1f232bd53043e9caede802b6cb9e08ad7f48fa8e8fa51bf4f0ba7da", func := "pub-paratext/laws.FnInterrupts", spec := "fnInterrupts", inPlace := ["internal/bytealg.IndexByteString", "internal/abi.NoEscape", "internal/bytealg.MakeNoZero"], unfollowed := true, recurses := true, named := ["unicode/utf8.first", "unicode/utf8.acceptRanges", "pub-paratext/pub/rscmarkdown.htmlEntities", "strconv.ErrSyntax", "strconv.ErrRange", "internal/strconv.uint64pow10", "math/bits.deBruijn32tab", "math/bits.deBruijn64tab"], apart := false, laid := [("math/bits.deBruijn32tab", laid_math_bits_deBruijn32tab), ("math/bits.deBruijn64tab", laid_math_bits_deBruijn64tab), ("internal/strconv.uint64pow10", laid_internal_strconv_uint64pow10), ("unicode/utf8.acceptRanges", laid_unicode_utf8_acceptRanges), ("strconv.ErrRange", laid_strconv_ErrRange), ("strconv.ErrSyntax", laid_strconv_ErrSyntax), ("pub-paratext/pub/rscmarkdown.htmlEntities", laid_pub_paratext_pub_rscmarkdown_htmlEntities), ("unicode/utf8.first", laid_unicode_utf8_first)], narrowed := true }
def FnInterruptsUptoSaid : Prop := fnInterruptsUptoRow.holds Tryz.pinned (OpenSpec.upto fnInterruptsSpec)

end Rows
end Go.Proofs.YtmmijmhdbpldpaaGreatDoor
