/-
  No cell of these rows narrows 'for every input' (looked for: loops, veiled, ifaces, maps, wideKeys, modest, calm, conditions, laid).
  DERIVED. THE GIVEN ROWS OF THIS SEAT. 6 by the template 'for every input the law returns true; each argument reads behind the call as it read before'; 0 by the template 'total and deterministic' (their statements: YtaejkbjepbifcaaTotals.lean).
  GIVEN WITH THE SEED: the statements are not yours to turn. If you find one false, say at which input.
  Laid BY PROGRAM, IN A SANDBOX (cutbox-rows.mjs): the forced cells as the released guide's own fill.sh prints them over the translation dbfdddbe7079b859… (all of the seat's roots in one cut). By AI agents, Wed Nov 11 2026. No macro, syntax, notation, axiom, sorry.
-/
import Derived.Test.YtaejkbjepbifcaaChecked
import GoSem.Claim
import GoSem.ClaimJoined
import GoSem.ClaimMapViews
import Derived.JoinedTies
import Derived.KernelRfl
namespace Go.Proofs.Ytaejkbjepbifcaa
/- THE CELL 'sum', in the pinned program and in every row, IS THE sha256 OF THE DUMP (.gsa) THAT YtaejkbjepbifcaaProg.lean LOADS. Nothing in Lean hashes anything: it is a label: what it is worth is what the hold of that sum in a sandbox is worth. -/
noncomputable def Try.pinned : Pinned := { name := "ytaejkbjepbifcaa", sum := "dbfdddbe7079b859471147f11604ac0d8c6a91de9d86b4910f1337458b97fed5", checked := Try.checked }
namespace Rows
def none {H : Type} : Left H := { results := [], args := [] }

/-- 'laws.FnTrieCalls': WHATEVER THE INPUT: true; the input reads as it did. -/
def fnTrieCallsSpec : ChangeSpec := { name := "fnTrieCalls", fn := fun _ => fun
  | [d1, d2, d3] => { results := [.lit (.bool true)], args := [d1, d2, d3] }
  | _ => none }
def fnTrieCallsRow : OpenClaim := { program := "ytaejkbjepbifcaa", sum := "dbfdddbe7079b859471147f11604ac0d8c6a91de9d86b4910f1337458b97fed5", func := "pub-kaeriten/laws.FnTrieCalls", spec := "fnTrieCalls", unfollowed := true, recurses := true, apart := false }
def FnTrieCallsSaid : Prop := fnTrieCallsRow.holds Try.pinned (OpenSpec.ofChange fnTrieCallsSpec)

/-- ITS FALSE NEIGHBOUR: 'it returns false'. Refute it at one input. -/
def fnTrieCallsWrong : ChangeSpec := { name := "fnTrieCalls", fn := fun _ => fun
  | [d1, d2, d3] => { results := [.lit (.bool false)], args := [d1, d2, d3] }
  | _ => none }
def FnTrieCallsWrongFalsely : Prop := fnTrieCallsRow.holds Try.pinned (OpenSpec.ofChange fnTrieCallsWrong)

/-- 'laws.FnTrieMore': WHATEVER THE INPUT: true; the input reads as it did. -/
def fnTrieMoreSpec : ChangeSpec := { name := "fnTrieMore", fn := fun _ => fun
  | [d1, d2, d3, d4] => { results := [.lit (.bool true)], args := [d1, d2, d3, d4] }
  | _ => none }
def fnTrieMoreRow : OpenClaim := { program := "ytaejkbjepbifcaa", sum := "dbfdddbe7079b859471147f11604ac0d8c6a91de9d86b4910f1337458b97fed5", func := "pub-kaeriten/laws.FnTrieMore", spec := "fnTrieMore", unfollowed := true, recurses := true, apart := false }
def FnTrieMoreSaid : Prop := fnTrieMoreRow.holds Try.pinned (OpenSpec.ofChange fnTrieMoreSpec)

/-- ITS FALSE NEIGHBOUR: 'it returns false'. Refute it at one input. -/
def fnTrieMoreWrong : ChangeSpec := { name := "fnTrieMore", fn := fun _ => fun
  | [d1, d2, d3, d4] => { results := [.lit (.bool false)], args := [d1, d2, d3, d4] }
  | _ => none }
def FnTrieMoreWrongFalsely : Prop := fnTrieMoreRow.holds Try.pinned (OpenSpec.ofChange fnTrieMoreWrong)

/-- 'laws.FnTrieOrder': WHATEVER THE INPUT: true; the input reads as it did. -/
def fnTrieOrderSpec : ChangeSpec := { name := "fnTrieOrder", fn := fun _ => fun
  | [d1, d2, d3, d4] => { results := [.lit (.bool true)], args := [d1, d2, d3, d4] }
  | _ => none }
def fnTrieOrderRow : OpenClaim := { program := "ytaejkbjepbifcaa", sum := "dbfdddbe7079b859471147f11604ac0d8c6a91de9d86b4910f1337458b97fed5", func := "pub-kaeriten/laws.FnTrieOrder", spec := "fnTrieOrder", unfollowed := true, recurses := true, apart := false }
def FnTrieOrderSaid : Prop := fnTrieOrderRow.holds Try.pinned (OpenSpec.ofChange fnTrieOrderSpec)

/-- ITS FALSE NEIGHBOUR: 'it returns false'. Refute it at one input. -/
def fnTrieOrderWrong : ChangeSpec := { name := "fnTrieOrder", fn := fun _ => fun
  | [d1, d2, d3, d4] => { results := [.lit (.bool false)], args := [d1, d2, d3, d4] }
  | _ => none }
def FnTrieOrderWrongFalsely : Prop := fnTrieOrderRow.holds Try.pinned (OpenSpec.ofChange fnTrieOrderWrong)

/-- 'laws.FnExactTriePlain': WHATEVER THE INPUT: true; the input reads as it did. -/
def fnExactTriePlainSpec : ChangeSpec := { name := "fnExactTriePlain", fn := fun _ => fun
  | [d1, d2] => { results := [.lit (.bool true)], args := [d1, d2] }
  | _ => none }
def fnExactTriePlainRow : OpenClaim := { program := "ytaejkbjepbifcaa", sum := "dbfdddbe7079b859471147f11604ac0d8c6a91de9d86b4910f1337458b97fed5", func := "pub-kaeriten/laws.FnExactTriePlain", spec := "fnExactTriePlain", unfollowed := true, recurses := true, apart := false }
def FnExactTriePlainSaid : Prop := fnExactTriePlainRow.holds Try.pinned (OpenSpec.ofChange fnExactTriePlainSpec)

/-- ITS FALSE NEIGHBOUR: 'it returns false'. Refute it at one input. -/
def fnExactTriePlainWrong : ChangeSpec := { name := "fnExactTriePlain", fn := fun _ => fun
  | [d1, d2] => { results := [.lit (.bool false)], args := [d1, d2] }
  | _ => none }
def FnExactTriePlainWrongFalsely : Prop := fnExactTriePlainRow.holds Try.pinned (OpenSpec.ofChange fnExactTriePlainWrong)

/-- 'laws.FnTriePlain': WHATEVER THE INPUT: true; the input reads as it did. -/
def fnTriePlainSpec : ChangeSpec := { name := "fnTriePlain", fn := fun _ => fun
  | [d1, d2] => { results := [.lit (.bool true)], args := [d1, d2] }
  | _ => none }
def fnTriePlainRow : OpenClaim := { program := "ytaejkbjepbifcaa", sum := "dbfdddbe7079b859471147f11604ac0d8c6a91de9d86b4910f1337458b97fed5", func := "pub-kaeriten/laws.FnTriePlain", spec := "fnTriePlain", unfollowed := true, recurses := true, apart := false }
def FnTriePlainSaid : Prop := fnTriePlainRow.holds Try.pinned (OpenSpec.ofChange fnTriePlainSpec)

/-- ITS FALSE NEIGHBOUR: 'it returns false'. Refute it at one input. -/
def fnTriePlainWrong : ChangeSpec := { name := "fnTriePlain", fn := fun _ => fun
  | [d1, d2] => { results := [.lit (.bool false)], args := [d1, d2] }
  | _ => none }
def FnTriePlainWrongFalsely : Prop := fnTriePlainRow.holds Try.pinned (OpenSpec.ofChange fnTriePlainWrong)

/-- 'laws.FnIndexCalls': WHATEVER THE INPUT: true; the input reads as it did. -/
def fnIndexCallsSpec : ChangeSpec := { name := "fnIndexCalls", fn := fun _ => fun
  | [d1, d2] => { results := [.lit (.bool true)], args := [d1, d2] }
  | _ => none }
def fnIndexCallsRow : OpenClaim := { program := "ytaejkbjepbifcaa", sum := "dbfdddbe7079b859471147f11604ac0d8c6a91de9d86b4910f1337458b97fed5", func := "pub-kaeriten/laws.FnIndexCalls", spec := "fnIndexCalls", unfollowed := true, recurses := true, apart := false }
def FnIndexCallsSaid : Prop := fnIndexCallsRow.holds Try.pinned (OpenSpec.ofChange fnIndexCallsSpec)

/-- ITS FALSE NEIGHBOUR: 'it returns false'. Refute it at one input. -/
def fnIndexCallsWrong : ChangeSpec := { name := "fnIndexCalls", fn := fun _ => fun
  | [d1, d2] => { results := [.lit (.bool false)], args := [d1, d2] }
  | _ => none }
def FnIndexCallsWrongFalsely : Prop := fnIndexCallsRow.holds Try.pinned (OpenSpec.ofChange fnIndexCallsWrong)

/- THE SECOND FORM. 'bulk': how many values and letters a reading holds, each counted each time it is reached (what is shared counts as often as it is met; a slice's spare places count too). A statement '..UptoSaid' is the law's where the arguments, and the package variables that the reading takes, are together of bulk at most 1048576: NARROWER than '..Said'. Prove '..Said' where nothing that the law and all that it calls make is longer than what came in: it says more and counts as full. Else prove '..UptoSaid'. A law counts once. -/
mutual
def uptoBulk {H : Type} : DataW H → Nat
  | .lit (.string bytes) => bytes.length + 1
  | .lit _ => 1
  | .nil => 1
  | .ptr d => uptoBulk d + 1
  | .slice elems spare => uptoBulkAll elems + uptoBulkAll spare + 1
  | .agg parts => uptoBulkAll parts + 1
  | .iface _ d => uptoBulk d + 1
  | .map entries => uptoBulkEntries entries + 1
  | .held _ => 1
def uptoBulkAll {H : Type} : List (DataW H) → Nat
  | [] => 0
  | d :: r => uptoBulk d + uptoBulkAll r
def uptoBulkEntries {H : Type} : List (Lit × DataW H) → Nat
  | [] => 0
  | x :: r => uptoBulkEntry x + uptoBulkEntries r
def uptoBulkEntry {H : Type} : Lit × DataW H → Nat
  | (.string bytes, d) => bytes.length + uptoBulk d + 1
  | (_, d) => uptoBulk d + 1
 end
def uptoSmall : (H : Type) → List (DataW H) → Bool := fun _ ds => decide (uptoBulkAll ds ≤ 1048576)
def OpenSpec.upto (s : _root_.Go.ChangeSpec) : _root_.Go.OpenSpec := { _root_.Go.OpenSpec.ofChange s with cond := some uptoSmall }

/-- 'laws.FnTrieCalls', WHERE WHAT IT READS IS OF BULK AT MOST 1048576: true; the input reads as it did. -/
def fnTrieCallsUptoRow : OpenClaim := { program := "ytaejkbjepbifcaa", sum := "dbfdddbe7079b859471147f11604ac0d8c6a91de9d86b4910f1337458b97fed5", func := "pub-kaeriten/laws.FnTrieCalls", spec := "fnTrieCalls", unfollowed := true, recurses := true, apart := false, narrowed := true }
def FnTrieCallsUptoSaid : Prop := fnTrieCallsUptoRow.holds Try.pinned (OpenSpec.upto fnTrieCallsSpec)

/-- 'laws.FnTrieMore', WHERE WHAT IT READS IS OF BULK AT MOST 1048576: true; the input reads as it did. -/
def fnTrieMoreUptoRow : OpenClaim := { program := "ytaejkbjepbifcaa", sum := "dbfdddbe7079b859471147f11604ac0d8c6a91de9d86b4910f1337458b97fed5", func := "pub-kaeriten/laws.FnTrieMore", spec := "fnTrieMore", unfollowed := true, recurses := true, apart := false, narrowed := true }
def FnTrieMoreUptoSaid : Prop := fnTrieMoreUptoRow.holds Try.pinned (OpenSpec.upto fnTrieMoreSpec)

/-- 'laws.FnTrieOrder', WHERE WHAT IT READS IS OF BULK AT MOST 1048576: true; the input reads as it did. -/
def fnTrieOrderUptoRow : OpenClaim := { program := "ytaejkbjepbifcaa", sum := "dbfdddbe7079b859471147f11604ac0d8c6a91de9d86b4910f1337458b97fed5", func := "pub-kaeriten/laws.FnTrieOrder", spec := "fnTrieOrder", unfollowed := true, recurses := true, apart := false, narrowed := true }
def FnTrieOrderUptoSaid : Prop := fnTrieOrderUptoRow.holds Try.pinned (OpenSpec.upto fnTrieOrderSpec)

/-- 'laws.FnExactTriePlain', WHERE WHAT IT READS IS OF BULK AT MOST 1048576: true; the input reads as it did. -/
def fnExactTriePlainUptoRow : OpenClaim := { program := "ytaejkbjepbifcaa", sum := "dbfdddbe7079b859471147f11604ac0d8c6a91de9d86b4910f1337458b97fed5", func := "pub-kaeriten/laws.FnExactTriePlain", spec := "fnExactTriePlain", unfollowed := true, recurses := true, apart := false, narrowed := true }
def FnExactTriePlainUptoSaid : Prop := fnExactTriePlainUptoRow.holds Try.pinned (OpenSpec.upto fnExactTriePlainSpec)

/-- 'laws.FnTriePlain', WHERE WHAT IT READS IS OF BULK AT MOST 1048576: true; the input reads as it did. -/
def fnTriePlainUptoRow : OpenClaim := { program := "ytaejkbjepbifcaa", sum := "dbfdddbe7079b859471147f11604ac0d8c6a91de9d86b4910f1337458b97fed5", func := "pub-kaeriten/laws.FnTriePlain", spec := "fnTriePlain", unfollowed := true, recurses := true, apart := false, narrowed := true }
def FnTriePlainUptoSaid : Prop := fnTriePlainUptoRow.holds Try.pinned (OpenSpec.upto fnTriePlainSpec)

/-- 'laws.FnIndexCalls', WHERE WHAT IT READS IS OF BULK AT MOST 1048576: true; the input reads as it did. -/
def fnIndexCallsUptoRow : OpenClaim := { program := "ytaejkbjepbifcaa", sum := "dbfdddbe7079b859471147f11604ac0d8c6a91de9d86b4910f1337458b97fed5", func := "pub-kaeriten/laws.FnIndexCalls", spec := "fnIndexCalls", unfollowed := true, recurses := true, apart := false, narrowed := true }
def FnIndexCallsUptoSaid : Prop := fnIndexCallsUptoRow.holds Try.pinned (OpenSpec.upto fnIndexCallsSpec)

end Rows
end Go.Proofs.Ytaejkbjepbifcaa
