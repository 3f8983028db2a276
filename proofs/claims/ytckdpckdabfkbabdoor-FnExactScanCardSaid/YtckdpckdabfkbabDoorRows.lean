/-
  NARROWER THAN 'FOR EVERY INPUT', by the rows' own cells (each row's printed sentence says how): FnExactMorphRead: laid · FnMorphCut: laid · FnSentencesSkip: laid · FnScanMore: laid · FnExactScan: laid.
  DERIVED. THE GIVEN ROWS OF THIS SEAT. 5 by the template 'for every input the law returns true; each argument reads behind the call as it read before'; 0 by the template 'total and deterministic' (their statements: YtckdpckdabfkbabDoorTotals.lean).
  GIVEN WITH THE SEED: the statements are not yours to turn. If you find one false, say at which input.
  Laid BY PROGRAM, IN A SANDBOX (cutbox-rows.mjs): the forced cells as the released guide's own fill.sh prints them over the translation 7f43560c9eea7ec8… (all of the seat's roots in one cut). By AI agents, Wed Nov 11 2026. No macro, syntax, notation, axiom, sorry.
-/
import Derived.Test.YtckdpckdabfkbabDoorChecked
import GoSem.PinnedTables
import GoSem.Claim
import GoSem.ClaimJoined
import GoSem.ClaimMapViews
import Derived.JoinedTies
import Derived.KernelRfl
namespace Go.Proofs.YtckdpckdabfkbabDoor
/- THE CELL 'sum', in the pinned program and in every row, IS THE sha256 OF THE DUMP (.gsa) THAT YtckdpckdabfkbabDoorProg.lean LOADS. Nothing in Lean hashes anything: it is a label: what it is worth is what the hold of that sum in a sandbox is worth. -/
noncomputable def Tryd.pinned : Pinned := { name := "ytckdpckdabfkbabdoor", sum := "7f43560c9eea7ec8faf3efc3d071bcf41c8795d9468939b4ce9d43c981103031", checked := Tryd.checked }
namespace Rows
def none {H : Type} : Left H := { results := [], args := [] }

/- WHAT THE LISTED PACKAGE-LEVEL VARIABLES READ AS WHEN THE CALL BEGINS. Each datum BY PROGRAM (the guide's laid-datum.mjs) off the statement by which the dump's own 'gosem.cut.vars' lays the variable. In a bare row this is a premise. The card (YtckdpckdabfkbabDoorCards.lean) ties it to the program's text. -/
def laid_io_ErrShortBuffer {H : Type} : DataW H := .iface "*errors.errorString" (.ptr (.agg [.lit (.string [115, 104, 111, 114, 116, 32, 98, 117, 102, 102, 101, 114])]))
def laid_io_EOF {H : Type} : DataW H := .iface "*errors.errorString" (.ptr (.agg [.lit (.string [69, 79, 70])]))
def laid_io_ErrUnexpectedEOF {H : Type} : DataW H := .iface "*errors.errorString" (.ptr (.agg [.lit (.string [117, 110, 101, 120, 112, 101, 99, 116, 101, 100, 32, 69, 79, 70])]))
def laid_unicode_utf8_acceptRanges {H : Type} : DataW H := .agg [.agg [.lit (.int .u8 128), .lit (.int .u8 191)], .agg [.lit (.int .u8 160), .lit (.int .u8 191)], .agg [.lit (.int .u8 128), .lit (.int .u8 159)], .agg [.lit (.int .u8 144), .lit (.int .u8 191)], .agg [.lit (.int .u8 128), .lit (.int .u8 143)], .agg [.lit (.int .u8 0), .lit (.int .u8 0)], .agg [.lit (.int .u8 0), .lit (.int .u8 0)], .agg [.lit (.int .u8 0), .lit (.int .u8 0)], .agg [.lit (.int .u8 0), .lit (.int .u8 0)], .agg [.lit (.int .u8 0), .lit (.int .u8 0)], .agg [.lit (.int .u8 0), .lit (.int .u8 0)], .agg [.lit (.int .u8 0), .lit (.int .u8 0)], .agg [.lit (.int .u8 0), .lit (.int .u8 0)], .agg [.lit (.int .u8 0), .lit (.int .u8 0)], .agg [.lit (.int .u8 0), .lit (.int .u8 0)], .agg [.lit (.int .u8 0), .lit (.int .u8 0)]]
def laid_unicode_White_Space {H : Type} : DataW H := .ptr (.agg [.slice [.agg [.lit (.int .u16 9), .lit (.int .u16 13), .lit (.int .u16 1)], .agg [.lit (.int .u16 32), .lit (.int .u16 133), .lit (.int .u16 101)], .agg [.lit (.int .u16 160), .lit (.int .u16 5760), .lit (.int .u16 5600)], .agg [.lit (.int .u16 8192), .lit (.int .u16 8202), .lit (.int .u16 1)], .agg [.lit (.int .u16 8232), .lit (.int .u16 8233), .lit (.int .u16 1)], .agg [.lit (.int .u16 8239), .lit (.int .u16 8287), .lit (.int .u16 48)], .agg [.lit (.int .u16 12288), .lit (.int .u16 12288), .lit (.int .u16 1)]] [], .nil, .lit (.int .i64 2)])
/-- One of Go's own tables, pinned by name: the form's constant. -/
def laid_unicode_utf8_first : DataW Unit := Go.Pinned.utf8First

/-- 'laws.FnExactMorphRead': WHATEVER THE INPUT: true; the input reads as it did. -/
def fnExactMorphReadSpec : ChangeSpec := { name := "fnExactMorphRead", fn := fun _ => fun
  | [d] => { results := [.lit (.bool true)], args := [d] }
  | _ => none }
def fnExactMorphReadRow : OpenClaim := { program := "ytckdpckdabfkbabdoor", sum := "7f43560c9eea7ec8faf3efc3d071bcf41c8795d9468939b4ce9d43c981103031", func := "pub-kaeriten/laws.FnExactMorphRead", spec := "fnExactMorphRead", unfollowed := true, recurses := true, named := ["io.ErrShortBuffer", "io.EOF", "io.ErrUnexpectedEOF"], apart := false, laid := [("io.ErrShortBuffer", laid_io_ErrShortBuffer), ("io.EOF", laid_io_EOF), ("io.ErrUnexpectedEOF", laid_io_ErrUnexpectedEOF)] }
def FnExactMorphReadSaid : Prop := fnExactMorphReadRow.holds Tryd.pinned (OpenSpec.ofChange fnExactMorphReadSpec)

/-- ITS FALSE NEIGHBOUR: 'it returns false'. Refute it at one input. -/
def fnExactMorphReadWrong : ChangeSpec := { name := "fnExactMorphRead", fn := fun _ => fun
  | [d] => { results := [.lit (.bool false)], args := [d] }
  | _ => none }
def FnExactMorphReadWrongFalsely : Prop := fnExactMorphReadRow.holds Tryd.pinned (OpenSpec.ofChange fnExactMorphReadWrong)

/-- 'laws.FnMorphCut': WHATEVER THE INPUT: true; the input reads as it did. -/
def fnMorphCutSpec : ChangeSpec := { name := "fnMorphCut", fn := fun _ => fun
  | [d1, d2] => { results := [.lit (.bool true)], args := [d1, d2] }
  | _ => none }
def fnMorphCutRow : OpenClaim := { program := "ytckdpckdabfkbabdoor", sum := "7f43560c9eea7ec8faf3efc3d071bcf41c8795d9468939b4ce9d43c981103031", func := "pub-kaeriten/laws.FnMorphCut", spec := "fnMorphCut", unfollowed := true, recurses := true, named := ["io.ErrShortBuffer", "io.EOF", "io.ErrUnexpectedEOF"], apart := false, laid := [("io.ErrShortBuffer", laid_io_ErrShortBuffer), ("io.EOF", laid_io_EOF), ("io.ErrUnexpectedEOF", laid_io_ErrUnexpectedEOF)] }
def FnMorphCutSaid : Prop := fnMorphCutRow.holds Tryd.pinned (OpenSpec.ofChange fnMorphCutSpec)

/-- ITS FALSE NEIGHBOUR: 'it returns false'. Refute it at one input. -/
def fnMorphCutWrong : ChangeSpec := { name := "fnMorphCut", fn := fun _ => fun
  | [d1, d2] => { results := [.lit (.bool false)], args := [d1, d2] }
  | _ => none }
def FnMorphCutWrongFalsely : Prop := fnMorphCutRow.holds Tryd.pinned (OpenSpec.ofChange fnMorphCutWrong)

/-- 'laws.FnSentencesSkip': WHATEVER THE INPUT: true; the input reads as it did. -/
def fnSentencesSkipSpec : ChangeSpec := { name := "fnSentencesSkip", fn := fun _ => fun
  | [d1, d2] => { results := [.lit (.bool true)], args := [d1, d2] }
  | _ => none }
def fnSentencesSkipRow : OpenClaim := { program := "ytckdpckdabfkbabdoor", sum := "7f43560c9eea7ec8faf3efc3d071bcf41c8795d9468939b4ce9d43c981103031", func := "pub-kaeriten/laws.FnSentencesSkip", spec := "fnSentencesSkip", named := ["unicode/utf8.first", "unicode/utf8.acceptRanges", "unicode.White_Space"], apart := false, laid := [("unicode/utf8.acceptRanges", laid_unicode_utf8_acceptRanges), ("unicode.White_Space", laid_unicode_White_Space), ("unicode/utf8.first", laid_unicode_utf8_first)] }
def FnSentencesSkipSaid : Prop := fnSentencesSkipRow.holds Tryd.pinned (OpenSpec.ofChange fnSentencesSkipSpec)

/-- ITS FALSE NEIGHBOUR: 'it returns false'. Refute it at one input. -/
def fnSentencesSkipWrong : ChangeSpec := { name := "fnSentencesSkip", fn := fun _ => fun
  | [d1, d2] => { results := [.lit (.bool false)], args := [d1, d2] }
  | _ => none }
def FnSentencesSkipWrongFalsely : Prop := fnSentencesSkipRow.holds Tryd.pinned (OpenSpec.ofChange fnSentencesSkipWrong)

/-- 'laws.FnScanMore': WHATEVER THE INPUT: true; the input reads as it did. -/
def fnScanMoreSpec : ChangeSpec := { name := "fnScanMore", fn := fun _ => fun
  | [d1, d2, d3] => { results := [.lit (.bool true)], args := [d1, d2, d3] }
  | _ => none }
def fnScanMoreRow : OpenClaim := { program := "ytckdpckdabfkbabdoor", sum := "7f43560c9eea7ec8faf3efc3d071bcf41c8795d9468939b4ce9d43c981103031", func := "pub-kaeriten/laws.FnScanMore", spec := "fnScanMore", named := ["unicode/utf8.first", "unicode/utf8.acceptRanges", "unicode.White_Space"], apart := false, laid := [("unicode/utf8.acceptRanges", laid_unicode_utf8_acceptRanges), ("unicode.White_Space", laid_unicode_White_Space), ("unicode/utf8.first", laid_unicode_utf8_first)] }
def FnScanMoreSaid : Prop := fnScanMoreRow.holds Tryd.pinned (OpenSpec.ofChange fnScanMoreSpec)

/-- ITS FALSE NEIGHBOUR: 'it returns false'. Refute it at one input. -/
def fnScanMoreWrong : ChangeSpec := { name := "fnScanMore", fn := fun _ => fun
  | [d1, d2, d3] => { results := [.lit (.bool false)], args := [d1, d2, d3] }
  | _ => none }
def FnScanMoreWrongFalsely : Prop := fnScanMoreRow.holds Tryd.pinned (OpenSpec.ofChange fnScanMoreWrong)

/-- 'laws.FnExactScan': WHATEVER THE INPUT: true; the input reads as it did. -/
def fnExactScanSpec : ChangeSpec := { name := "fnExactScan", fn := fun _ => fun
  | [d1, d2, d3] => { results := [.lit (.bool true)], args := [d1, d2, d3] }
  | _ => none }
def fnExactScanRow : OpenClaim := { program := "ytckdpckdabfkbabdoor", sum := "7f43560c9eea7ec8faf3efc3d071bcf41c8795d9468939b4ce9d43c981103031", func := "pub-kaeriten/laws.FnExactScan", spec := "fnExactScan", named := ["unicode/utf8.first", "unicode/utf8.acceptRanges", "unicode.White_Space"], apart := false, laid := [("unicode/utf8.acceptRanges", laid_unicode_utf8_acceptRanges), ("unicode.White_Space", laid_unicode_White_Space), ("unicode/utf8.first", laid_unicode_utf8_first)] }
def FnExactScanSaid : Prop := fnExactScanRow.holds Tryd.pinned (OpenSpec.ofChange fnExactScanSpec)

/-- ITS FALSE NEIGHBOUR: 'it returns false'. Refute it at one input. -/
def fnExactScanWrong : ChangeSpec := { name := "fnExactScan", fn := fun _ => fun
  | [d1, d2, d3] => { results := [.lit (.bool false)], args := [d1, d2, d3] }
  | _ => none }
def FnExactScanWrongFalsely : Prop := fnExactScanRow.holds Tryd.pinned (OpenSpec.ofChange fnExactScanWrong)

/- THE SECOND FORM. 'bulk': how many values and letters a reading holds, each counted each time it is reached (what is shared counts as often as it is met; a slice's spare places count too). A statement '..UptoSaid' is the law's where the arguments, and the package variables that the reading takes, are together of bulk at most 1048576: NARROWER than '..Said'. Prove '..Said' where nothing that the law and all that it calls make is longer than what came in: it says more and counts as full. Else prove '..UptoSaid'. A law counts once. -/
mutual
def uptoBulk {H : Type} : DataW H → Nat
  | .lit (.string bytes) => bytes.length + 1
  | .lit _ => 1
  | .nil => 1
  | .ptr d => uptoBulk d + 1
  | .slice elems spare => uptoBulkAll elems + uptoBulkAll spare + 1
  | .agg parts => uptoBulkAll parts + 1
  | .iface _ d => uptoBulk d + 1
  | .map entries => uptoBulkEntries entries + 1
  | .held _ => 1
def uptoBulkAll {H : Type} : List (DataW H) → Nat
  | [] => 0
  | d :: r => uptoBulk d + uptoBulkAll r
def uptoBulkEntries {H : Type} : List (Lit × DataW H) → Nat
  | [] => 0
  | x :: r => uptoBulkEntry x + uptoBulkEntries r
def uptoBulkEntry {H : Type} : Lit × DataW H → Nat
  | (.string bytes, d) => bytes.length + uptoBulk d + 1
  | (_, d) => uptoBulk d + 1
 end
def uptoSmall : (H : Type) → List (DataW H) → Bool := fun _ ds => decide (uptoBulkAll ds ≤ 1048576)
def OpenSpec.upto (s : _root_.Go.ChangeSpec) : _root_.Go.OpenSpec := { _root_.Go.OpenSpec.ofChange s with cond := some uptoSmall }

/-- 'laws.FnExactMorphRead', WHERE WHAT IT READS IS OF BULK AT MOST 1048576: true; the input reads as it did. -/
def fnExactMorphReadUptoRow : OpenClaim := { program := "ytckdpckdabfkbabdoor", sum := "7f43560c9eea7ec8faf3efc3d071bcf41c8795d9468939b4ce9d43c981103031", func := "pub-kaeriten/laws.FnExactMorphRead", spec := "fnExactMorphRead", unfollowed := true, recurses := true, named := ["io.ErrShortBuffer", "io.EOF", "io.ErrUnexpectedEOF"], apart := false, laid := [("io.ErrShortBuffer", laid_io_ErrShortBuffer), ("io.EOF", laid_io_EOF), ("io.ErrUnexpectedEOF", laid_io_ErrUnexpectedEOF)], narrowed := true }
def FnExactMorphReadUptoSaid : Prop := fnExactMorphReadUptoRow.holds Tryd.pinned (OpenSpec.upto fnExactMorphReadSpec)

/-- 'laws.FnMorphCut', WHERE WHAT IT READS IS OF BULK AT MOST 1048576: true; the input reads as it did. -/
def fnMorphCutUptoRow : OpenClaim := { program := "ytckdpckdabfkbabdoor", sum := "7f43560c9eea7ec8faf3efc3d071bcf41c8795d9468939b4ce9d43c981103031", func := "pub-kaeriten/laws.FnMorphCut", spec := "fnMorphCut", unfollowed := true, recurses := true, named := ["io.ErrShortBuffer", "io.EOF", "io.ErrUnexpectedEOF"], apart := false, laid := [("io.ErrShortBuffer", laid_io_ErrShortBuffer), ("io.EOF", laid_io_EOF), ("io.ErrUnexpectedEOF", laid_io_ErrUnexpectedEOF)], narrowed := true }
def FnMorphCutUptoSaid : Prop := fnMorphCutUptoRow.holds Tryd.pinned (OpenSpec.upto fnMorphCutSpec)

/-- 'laws.FnSentencesSkip', WHERE WHAT IT READS IS OF BULK AT MOST 1048576: true; the input reads as it did. -/
def fnSentencesSkipUptoRow : OpenClaim := { program := "ytckdpckdabfkbabdoor", sum := "7f43560c9eea7ec8faf3efc3d071bcf41c8795d9468939b4ce9d43c981103031", func := "pub-kaeriten/laws.FnSentencesSkip", spec := "fnSentencesSkip", named := ["unicode/utf8.first", "unicode/utf8.acceptRanges", "unicode.White_Space"], apart := false, laid := [("unicode/utf8.acceptRanges", laid_unicode_utf8_acceptRanges), ("unicode.White_Space", laid_unicode_White_Space), ("unicode/utf8.first", laid_unicode_utf8_first)], narrowed := true }
def FnSentencesSkipUptoSaid : Prop := fnSentencesSkipUptoRow.holds Tryd.pinned (OpenSpec.upto fnSentencesSkipSpec)

/-- 'laws.FnScanMore', WHERE WHAT IT READS IS OF BULK AT MOST 1048576: true; the input reads as it did. -/
def fnScanMoreUptoRow : OpenClaim := { program := "ytckdpckdabfkbabdoor", sum := "7f43560c9eea7ec8faf3efc3d071bcf41c8795d9468939b4ce9d43c981103031", func := "pub-kaeriten/laws.FnScanMore", spec := "fnScanMore", named := ["unicode/utf8.first", "unicode/utf8.acceptRanges", "unicode.White_Space"], apart := false, laid := [("unicode/utf8.acceptRanges", laid_unicode_utf8_acceptRanges), ("unicode.White_Space", laid_unicode_White_Space), ("unicode/utf8.first", laid_unicode_utf8_first)], narrowed := true }
def FnScanMoreUptoSaid : Prop := fnScanMoreUptoRow.holds Tryd.pinned (OpenSpec.upto fnScanMoreSpec)

/-- 'laws.FnExactScan', WHERE WHAT IT READS IS OF BULK AT MOST 1048576: true; the input reads as it did. -/
def fnExactScanUptoRow : OpenClaim := { program := "ytckdpckdabfkbabdoor", sum := "7f43560c9eea7ec8faf3efc3d071bcf41c8795d9468939b4ce9d43c981103031", func := "pub-kaeriten/laws.FnExactScan", spec := "fnExactScan", named := ["unicode/utf8.first", "unicode/utf8.acceptRanges", "unicode.White_Space"], apart := false, laid := [("unicode/utf8.acceptRanges", laid_unicode_utf8_acceptRanges), ("unicode.White_Space", laid_unicode_White_Space), ("unicode/utf8.first", laid_unicode_utf8_first)], narrowed := true }
def FnExactScanUptoSaid : Prop := fnExactScanUptoRow.holds Tryd.pinned (OpenSpec.upto fnExactScanSpec)

end Rows
end Go.Proofs.YtckdpckdabfkbabDoor
