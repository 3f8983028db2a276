/-
  DERIVED. GIVEN WITH THE SEED: THE CARDS: each row of YtckdpckdabfkbaaDoorRows.lean that lists a variable, with what it lists TIED to the program's text (the seventh form; the later family's looks); each row that meets fmt, with fmt's text TOLD by the authors' own Lean function (tested against real Go, not proved from fmt's source: count such statements apart). THE CARD IS WHAT COUNTS. Prove the row's statement (the work); the ties are given (YtckdpckdabfkbaaDoorTie.lean); close each card by the builder's one call (the guide's Derived/Test/ToyasCard.lean, 'card_holds'). Laid BY PROGRAM, IN A SANDBOX (cutbox-door.mjs). By AI agents, Wed Nov 11 2026. No macro, syntax, notation, axiom, sorry.
-/
import Derived.Test.YtckdpckdabfkbaaDoorRows
import GoSem.ClaimSeven
namespace Go.Proofs.YtckdpckdabfkbaaDoor
namespace Rows

/-- THE TIED CARD OF 'laws.FnClassNames'. -/
def fnClassNamesCard : Claim7 := { stood := { row := fnClassNamesRow, standIns := [], harness := (true, "c7f29c2cd87f7a9e6744237fc2463761c89a27abb9da2ef5e6f8944f78ef8c84"), looks := true }, kinds := [], alts := [], laidByText := true, laidKinds := [.data], laidTests := true, laidLooks := .later }
def FnClassNamesCardSaid : Prop := Claim7.holds Tryd.pinned (.plain (OpenSpec.ofChange fnClassNamesSpec)) fnClassNamesCard

/-- THE TIED CARD OF 'laws.FnExactConnection'. -/
def fnExactConnectionCard : Claim7 := { stood := { row := fnExactConnectionRow, standIns := [], harness := (true, "c7f29c2cd87f7a9e6744237fc2463761c89a27abb9da2ef5e6f8944f78ef8c84"), looks := true }, kinds := [], alts := [], laidByText := true, laidKinds := [.sentinel, .sentinel, .sentinel], laidTests := true, laidLooks := .later }
def FnExactConnectionCardSaid : Prop := Claim7.holds Tryd.pinned (.plain (OpenSpec.ofChange fnExactConnectionSpec)) fnExactConnectionCard

/-- THE SECOND FORM's CARD OF 'laws.FnClassNames'. -/
def fnClassNamesUptoCard : Claim7 := { stood := { row := fnClassNamesUptoRow, standIns := [], harness := (true, "c7f29c2cd87f7a9e6744237fc2463761c89a27abb9da2ef5e6f8944f78ef8c84"), looks := true }, kinds := [], alts := [], laidByText := true, laidKinds := [.data], laidTests := true, laidLooks := .later }
def FnClassNamesUptoCardSaid : Prop := Claim7.holds Tryd.pinned (.plain (OpenSpec.upto fnClassNamesSpec)) fnClassNamesUptoCard

/-- THE SECOND FORM's CARD OF 'laws.FnExactConnection'. -/
def fnExactConnectionUptoCard : Claim7 := { stood := { row := fnExactConnectionUptoRow, standIns := [], harness := (true, "c7f29c2cd87f7a9e6744237fc2463761c89a27abb9da2ef5e6f8944f78ef8c84"), looks := true }, kinds := [], alts := [], laidByText := true, laidKinds := [.sentinel, .sentinel, .sentinel], laidTests := true, laidLooks := .later }
def FnExactConnectionUptoCardSaid : Prop := Claim7.holds Tryd.pinned (.plain (OpenSpec.upto fnExactConnectionSpec)) fnExactConnectionUptoCard
end Rows
end Go.Proofs.YtckdpckdabfkbaaDoor
