/-
  NARROWER THAN 'FOR EVERY INPUT', by the rows' own cells (each row's printed sentence says how): FnExactIndexAgain: laid · FnIndexAgain: laid · FnIndexMany: laid.
  DERIVED. THE GIVEN ROWS OF THIS SEAT. 3 by the template 'for every input the law returns true; each argument reads behind the call as it read before'; 0 by the template 'total and deterministic' (their statements: YtaejkbjepbifcabGreatDoorTotals.lean).
  GIVEN WITH THE SEED: the statements are not yours to turn. If you find one false, say at which input.
  Laid BY PROGRAM, IN A SANDBOX (cutbox-rows.mjs): the forced cells as the released guide's own fill.sh prints them over the translation 97c99f4a8551a0f8… (all of the seat's roots in one cut). By AI agents, Wed Nov 11 2026. No macro, syntax, notation, axiom, sorry.
-/
import Derived.Test.YtaejkbjepbifcabGreatDoorChecked
import GoSem.Claim
import GoSem.ClaimJoined
import GoSem.ClaimMapViews
import Derived.JoinedTies
import Derived.KernelRfl
namespace Go.Proofs.YtaejkbjepbifcabGreatDoor
/- THE CELL 'sum', in the pinned program and in every row, IS THE sha256 OF THE DUMP (.gsa) THAT YtaejkbjepbifcabGreatDoorProg.lean LOADS. Nothing in Lean hashes anything: it is a label: what it is worth is what the hold of that sum in a sandbox is worth. -/
noncomputable def Tryz.pinned : Pinned := { name := "ytaejkbjepbifcabgreatdoor", sum := "97c99f4a8551a0f81e0514d758aac5478f1f41a8be012eaea7459dd205ad3046", checked := Tryz.checked }
namespace Rows
def none {H : Type} : Left H := { results := [], args := [] }

/- WHAT THE LISTED PACKAGE-LEVEL VARIABLES READ AS WHEN THE CALL BEGINS. Each datum BY PROGRAM (the guide's laid-datum.mjs) off the statement by which the dump's own 'gosem.cut.vars' lays the variable. In a bare row this is a premise. The card (YtaejkbjepbifcabGreatDoorCards.lean) ties it to the program's text. -/
def laid_io_ErrShortBuffer {H : Type} : DataW H := .iface "*errors.errorString" (.ptr (.agg [.lit (.string [115, 104, 111, 114, 116, 32, 98, 117, 102, 102, 101, 114])]))
def laid_io_EOF {H : Type} : DataW H := .iface "*errors.errorString" (.ptr (.agg [.lit (.string [69, 79, 70])]))
def laid_io_ErrUnexpectedEOF {H : Type} : DataW H := .iface "*errors.errorString" (.ptr (.agg [.lit (.string [117, 110, 101, 120, 112, 101, 99, 116, 101, 100, 32, 69, 79, 70])]))

/-- 'laws.FnExactIndexAgain': WHATEVER THE INPUT: true; the input reads as it did. -/
def fnExactIndexAgainSpec : ChangeSpec := { name := "fnExactIndexAgain", fn := fun _ => fun
  | [d1, d2] => { results := [.lit (.bool true)], args := [d1, d2] }
  | _ => none }
def fnExactIndexAgainRow : OpenClaim := { program := "ytaejkbjepbifcabgreatdoor", sum := "97c99f4a8551a0f81e0514d758aac5478f1f41a8be012eaea7459dd205ad3046", func := "pub-kaeriten/laws.FnExactIndexAgain", spec := "fnExactIndexAgain", unfollowed := true, recurses := true, named := ["io.ErrShortBuffer", "io.EOF", "io.ErrUnexpectedEOF"], apart := false, laid := [("io.ErrShortBuffer", laid_io_ErrShortBuffer), ("io.EOF", laid_io_EOF), ("io.ErrUnexpectedEOF", laid_io_ErrUnexpectedEOF)] }
def FnExactIndexAgainSaid : Prop := fnExactIndexAgainRow.holds Tryz.pinned (OpenSpec.ofChange fnExactIndexAgainSpec)

/-- ITS FALSE NEIGHBOUR: 'it returns false'. Refute it at one input. -/
def fnExactIndexAgainWrong : ChangeSpec := { name := "fnExactIndexAgain", fn := fun _ => fun
  | [d1, d2] => { results := [.lit (.bool false)], args := [d1, d2] }
  | _ => none }
def FnExactIndexAgainWrongFalsely : Prop := fnExactIndexAgainRow.holds Tryz.pinned (OpenSpec.ofChange fnExactIndexAgainWrong)

/-- 'laws.FnIndexAgain': WHATEVER THE INPUT: true; the input reads as it did. -/
def fnIndexAgainSpec : ChangeSpec := { name := "fnIndexAgain", fn := fun _ => fun
  | [d1, d2] => { results := [.lit (.bool true)], args := [d1, d2] }
  | _ => none }
def fnIndexAgainRow : OpenClaim := { program := "ytaejkbjepbifcabgreatdoor", sum := "97c99f4a8551a0f81e0514d758aac5478f1f41a8be012eaea7459dd205ad3046", func := "pub-kaeriten/laws.FnIndexAgain", spec := "fnIndexAgain", unfollowed := true, recurses := true, named := ["io.ErrShortBuffer", "io.EOF", "io.ErrUnexpectedEOF"], apart := false, laid := [("io.ErrShortBuffer", laid_io_ErrShortBuffer), ("io.EOF", laid_io_EOF), ("io.ErrUnexpectedEOF", laid_io_ErrUnexpectedEOF)] }
def FnIndexAgainSaid : Prop := fnIndexAgainRow.holds Tryz.pinned (OpenSpec.ofChange fnIndexAgainSpec)

/-- ITS FALSE NEIGHBOUR: 'it returns false'. Refute it at one input. -/
def fnIndexAgainWrong : ChangeSpec := { name := "fnIndexAgain", fn := fun _ => fun
  | [d1, d2] => { results := [.lit (.bool false)], args := [d1, d2] }
  | _ => none }
def FnIndexAgainWrongFalsely : Prop := fnIndexAgainRow.holds Tryz.pinned (OpenSpec.ofChange fnIndexAgainWrong)

/-- 'laws.FnIndexMany': WHATEVER THE INPUT: true; the input reads as it did. -/
def fnIndexManySpec : ChangeSpec := { name := "fnIndexMany", fn := fun _ => fun
  | [d1, d2, d3] => { results := [.lit (.bool true)], args := [d1, d2, d3] }
  | _ => none }
def fnIndexManyRow : OpenClaim := { program := "ytaejkbjepbifcabgreatdoor", sum := "97c99f4a8551a0f81e0514d758aac5478f1f41a8be012eaea7459dd205ad3046", func := "pub-kaeriten/laws.FnIndexMany", spec := "fnIndexMany", unfollowed := true, recurses := true, named := ["io.ErrShortBuffer", "io.EOF", "io.ErrUnexpectedEOF"], apart := false, laid := [("io.ErrShortBuffer", laid_io_ErrShortBuffer), ("io.EOF", laid_io_EOF), ("io.ErrUnexpectedEOF", laid_io_ErrUnexpectedEOF)] }
def FnIndexManySaid : Prop := fnIndexManyRow.holds Tryz.pinned (OpenSpec.ofChange fnIndexManySpec)

/-- ITS FALSE NEIGHBOUR: 'it returns false'. Refute it at one input. -/
def fnIndexManyWrong : ChangeSpec := { name := "fnIndexMany", fn := fun _ => fun
  | [d1, d2, d3] => { results := [.lit (.bool false)], args := [d1, d2, d3] }
  | _ => none }
def FnIndexManyWrongFalsely : Prop := fnIndexManyRow.holds Tryz.pinned (OpenSpec.ofChange fnIndexManyWrong)

/- THE SECOND FORM. 'bulk': how many values and letters a reading holds, each counted each time it is reached (what is shared counts as often as it is met; a slice's spare places count too). A statement '..UptoSaid' is the law's where the arguments, and the package variables that the reading takes, are together of bulk at most 1048576: NARROWER than '..Said'. Prove '..Said' where nothing that the law and all that it calls make is longer than what came in: it says more and counts as full. Else prove '..UptoSaid'. A law counts once. -/
mutual
def uptoBulk {H : Type} : DataW H → Nat
  | .lit (.string bytes) => bytes.length + 1
  | .lit _ => 1
  | .nil => 1
  | .ptr d => uptoBulk d + 1
  | .slice elems spare => uptoBulkAll elems + uptoBulkAll spare + 1
  | .agg parts => uptoBulkAll parts + 1
  | .iface _ d => uptoBulk d + 1
  | .map entries => uptoBulkEntries entries + 1
  | .held _ => 1
def uptoBulkAll {H : Type} : List (DataW H) → Nat
  | [] => 0
  | d :: r => uptoBulk d + uptoBulkAll r
def uptoBulkEntries {H : Type} : List (Lit × DataW H) → Nat
  | [] => 0
  | x :: r => uptoBulkEntry x + uptoBulkEntries r
def uptoBulkEntry {H : Type} : Lit × DataW H → Nat
  | (.string bytes, d) => bytes.length + uptoBulk d + 1
  | (_, d) => uptoBulk d + 1
 end
def uptoSmall : (H : Type) → List (DataW H) → Bool := fun _ ds => decide (uptoBulkAll ds ≤ 1048576)
def OpenSpec.upto (s : _root_.Go.ChangeSpec) : _root_.Go.OpenSpec := { _root_.Go.OpenSpec.ofChange s with cond := some uptoSmall }

/-- 'laws.FnExactIndexAgain', WHERE WHAT IT READS IS OF BULK AT MOST 1048576: true; the input reads as it did. -/
def fnExactIndexAgainUptoRow : OpenClaim := { program := "ytaejkbjepbifcabgreatdoor", sum := "97c99f4a8551a0f81e0514d758aac5478f1f41a8be012eaea7459dd205ad3046", func := "pub-kaeriten/laws.FnExactIndexAgain", spec := "fnExactIndexAgain", unfollowed := true, recurses := true, named := ["io.ErrShortBuffer", "io.EOF", "io.ErrUnexpectedEOF"], apart := false, laid := [("io.ErrShortBuffer", laid_io_ErrShortBuffer), ("io.EOF", laid_io_EOF), ("io.ErrUnexpectedEOF", laid_io_ErrUnexpectedEOF)], narrowed := true }
def FnExactIndexAgainUptoSaid : Prop := fnExactIndexAgainUptoRow.holds Tryz.pinned (OpenSpec.upto fnExactIndexAgainSpec)

/-- 'laws.FnIndexAgain', WHERE WHAT IT READS IS OF BULK AT MOST 1048576: true; the input reads as it did. -/
def fnIndexAgainUptoRow : OpenClaim := { program := "ytaejkbjepbifcabgreatdoor", sum := "97c99f4a8551a0f81e0514d758aac5478f1f41a8be012eaea7459dd205ad3046", func := "pub-kaeriten/laws.FnIndexAgain", spec := "fnIndexAgain", unfollowed := true, recurses := true, named := ["io.ErrShortBuffer", "io.EOF", "io.ErrUnexpectedEOF"], apart := false, laid := [("io.ErrShortBuffer", laid_io_ErrShortBuffer), ("io.EOF", laid_io_EOF), ("io.ErrUnexpectedEOF", laid_io_ErrUnexpectedEOF)], narrowed := true }
def FnIndexAgainUptoSaid : Prop := fnIndexAgainUptoRow.holds Tryz.pinned (OpenSpec.upto fnIndexAgainSpec)

/-- 'laws.FnIndexMany', WHERE WHAT IT READS IS OF BULK AT MOST 1048576: true; the input reads as it did. -/
def fnIndexManyUptoRow : OpenClaim := { program := "ytaejkbjepbifcabgreatdoor", sum := "97c99f4a8551a0f81e0514d758aac5478f1f41a8be012eaea7459dd205ad3046", func := "pub-kaeriten/laws.FnIndexMany", spec := "fnIndexMany", unfollowed := true, recurses := true, named := ["io.ErrShortBuffer", "io.EOF", "io.ErrUnexpectedEOF"], apart := false, laid := [("io.ErrShortBuffer", laid_io_ErrShortBuffer), ("io.EOF", laid_io_EOF), ("io.ErrUnexpectedEOF", laid_io_ErrUnexpectedEOF)], narrowed := true }
def FnIndexManyUptoSaid : Prop := fnIndexManyUptoRow.holds Tryz.pinned (OpenSpec.upto fnIndexManySpec)

end Rows
end Go.Proofs.YtaejkbjepbifcabGreatDoor
