/-
  DERIVED. GIVEN WITH THE SEED: THE CARDS: each row of YtaejkbjepbifcabDoorRows.lean that lists a variable, with what it lists TIED to the program's text (the seventh form; the later family's looks); each row that meets fmt, with fmt's text TOLD by the authors' own Lean function (tested against real Go, not proved from fmt's source: count such statements apart). THE CARD IS WHAT COUNTS. Prove the row's statement (the work); the ties are given (YtaejkbjepbifcabDoorTie.lean); close each card by the builder's one call (the guide's Derived/Test/ToyasCard.lean, 'card_holds'). Laid BY PROGRAM, IN A SANDBOX (cutbox-door.mjs). By AI agents, Wed Nov 11 2026. No macro, syntax, notation, axiom, sorry.
-/
import Derived.Test.YtaejkbjepbifcabDoorRows
import GoSem.ClaimSeven
namespace Go.Proofs.YtaejkbjepbifcabDoor
namespace Rows

/-- THE TIED CARD OF 'laws.FnTrieBytes'. -/
def fnTrieBytesCard : Claim7 := { stood := { row := fnTrieBytesRow, standIns := [], harness := (true, "342d1d2bb6f27fa90b5366d247e63f7110223843e9fc65281fdc943cb5c85297"), looks := true }, kinds := [], alts := [], laidByText := true, laidKinds := [.sentinel, .sentinel, .sentinel], laidTests := true, laidLooks := .later }
def FnTrieBytesCardSaid : Prop := Claim7.holds Tryd.pinned (.plain (OpenSpec.ofChange fnTrieBytesSpec)) fnTrieBytesCard

/-- THE TIED CARD OF 'laws.FnTrieCut'. -/
def fnTrieCutCard : Claim7 := { stood := { row := fnTrieCutRow, standIns := [], harness := (true, "342d1d2bb6f27fa90b5366d247e63f7110223843e9fc65281fdc943cb5c85297"), looks := true }, kinds := [], alts := [], laidByText := true, laidKinds := [.sentinel, .sentinel, .sentinel], laidTests := true, laidLooks := .later }
def FnTrieCutCardSaid : Prop := Claim7.holds Tryd.pinned (.plain (OpenSpec.ofChange fnTrieCutSpec)) fnTrieCutCard

/-- THE SECOND FORM's CARD OF 'laws.FnTrieBytes'. -/
def fnTrieBytesUptoCard : Claim7 := { stood := { row := fnTrieBytesUptoRow, standIns := [], harness := (true, "342d1d2bb6f27fa90b5366d247e63f7110223843e9fc65281fdc943cb5c85297"), looks := true }, kinds := [], alts := [], laidByText := true, laidKinds := [.sentinel, .sentinel, .sentinel], laidTests := true, laidLooks := .later }
def FnTrieBytesUptoCardSaid : Prop := Claim7.holds Tryd.pinned (.plain (OpenSpec.upto fnTrieBytesSpec)) fnTrieBytesUptoCard

/-- THE SECOND FORM's CARD OF 'laws.FnTrieCut'. -/
def fnTrieCutUptoCard : Claim7 := { stood := { row := fnTrieCutUptoRow, standIns := [], harness := (true, "342d1d2bb6f27fa90b5366d247e63f7110223843e9fc65281fdc943cb5c85297"), looks := true }, kinds := [], alts := [], laidByText := true, laidKinds := [.sentinel, .sentinel, .sentinel], laidTests := true, laidLooks := .later }
def FnTrieCutUptoCardSaid : Prop := Claim7.holds Tryd.pinned (.plain (OpenSpec.upto fnTrieCutSpec)) fnTrieCutUptoCard
end Rows
end Go.Proofs.YtaejkbjepbifcabDoor
