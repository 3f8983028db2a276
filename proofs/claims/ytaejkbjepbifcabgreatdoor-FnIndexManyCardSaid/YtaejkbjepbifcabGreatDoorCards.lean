/-
  DERIVED. GIVEN WITH THE SEED: THE CARDS: each row of YtaejkbjepbifcabGreatDoorRows.lean that lists a variable, with what it lists TIED to the program's text (the seventh form; the later family's looks); each row that meets fmt, with fmt's text TOLD by the authors' own Lean function (tested against real Go, not proved from fmt's source: count such statements apart). THE CARD IS WHAT COUNTS. Prove the row's statement (the work); the ties are given (YtaejkbjepbifcabGreatDoorTie.lean); close each card by the builder's one call (the guide's Derived/Test/ToyasCard.lean, 'card_holds'). Laid BY PROGRAM, IN A SANDBOX (cutbox-door.mjs). By AI agents, Wed Nov 11 2026. No macro, syntax, notation, axiom, sorry.
-/
import Derived.Test.YtaejkbjepbifcabGreatDoorRows
import GoSem.ClaimSeven
namespace Go.Proofs.YtaejkbjepbifcabGreatDoor
namespace Rows

/-- THE TIED CARD OF 'laws.FnExactIndexAgain'. -/
def fnExactIndexAgainCard : Claim7 := { stood := { row := fnExactIndexAgainRow, standIns := [], harness := (true, "0fcb3b8314de2f28160ba4468c1dede4382be58df25d20aadf412d31407f3649"), looks := true }, kinds := [], alts := [], laidByText := true, laidKinds := [.sentinel, .sentinel, .sentinel], laidTests := true, laidLooks := .later }
def FnExactIndexAgainCardSaid : Prop := Claim7.holds Tryz.pinned (.plain (OpenSpec.ofChange fnExactIndexAgainSpec)) fnExactIndexAgainCard

/-- THE TIED CARD OF 'laws.FnIndexAgain'. -/
def fnIndexAgainCard : Claim7 := { stood := { row := fnIndexAgainRow, standIns := [], harness := (true, "0fcb3b8314de2f28160ba4468c1dede4382be58df25d20aadf412d31407f3649"), looks := true }, kinds := [], alts := [], laidByText := true, laidKinds := [.sentinel, .sentinel, .sentinel], laidTests := true, laidLooks := .later }
def FnIndexAgainCardSaid : Prop := Claim7.holds Tryz.pinned (.plain (OpenSpec.ofChange fnIndexAgainSpec)) fnIndexAgainCard

/-- THE TIED CARD OF 'laws.FnIndexMany'. -/
def fnIndexManyCard : Claim7 := { stood := { row := fnIndexManyRow, standIns := [], harness := (true, "0fcb3b8314de2f28160ba4468c1dede4382be58df25d20aadf412d31407f3649"), looks := true }, kinds := [], alts := [], laidByText := true, laidKinds := [.sentinel, .sentinel, .sentinel], laidTests := true, laidLooks := .later }
def FnIndexManyCardSaid : Prop := Claim7.holds Tryz.pinned (.plain (OpenSpec.ofChange fnIndexManySpec)) fnIndexManyCard

/-- THE SECOND FORM's CARD OF 'laws.FnExactIndexAgain'. -/
def fnExactIndexAgainUptoCard : Claim7 := { stood := { row := fnExactIndexAgainUptoRow, standIns := [], harness := (true, "0fcb3b8314de2f28160ba4468c1dede4382be58df25d20aadf412d31407f3649"), looks := true }, kinds := [], alts := [], laidByText := true, laidKinds := [.sentinel, .sentinel, .sentinel], laidTests := true, laidLooks := .later }
def FnExactIndexAgainUptoCardSaid : Prop := Claim7.holds Tryz.pinned (.plain (OpenSpec.upto fnExactIndexAgainSpec)) fnExactIndexAgainUptoCard

/-- THE SECOND FORM's CARD OF 'laws.FnIndexAgain'. -/
def fnIndexAgainUptoCard : Claim7 := { stood := { row := fnIndexAgainUptoRow, standIns := [], harness := (true, "0fcb3b8314de2f28160ba4468c1dede4382be58df25d20aadf412d31407f3649"), looks := true }, kinds := [], alts := [], laidByText := true, laidKinds := [.sentinel, .sentinel, .sentinel], laidTests := true, laidLooks := .later }
def FnIndexAgainUptoCardSaid : Prop := Claim7.holds Tryz.pinned (.plain (OpenSpec.upto fnIndexAgainSpec)) fnIndexAgainUptoCard

/-- THE SECOND FORM's CARD OF 'laws.FnIndexMany'. -/
def fnIndexManyUptoCard : Claim7 := { stood := { row := fnIndexManyUptoRow, standIns := [], harness := (true, "0fcb3b8314de2f28160ba4468c1dede4382be58df25d20aadf412d31407f3649"), looks := true }, kinds := [], alts := [], laidByText := true, laidKinds := [.sentinel, .sentinel, .sentinel], laidTests := true, laidLooks := .later }
def FnIndexManyUptoCardSaid : Prop := Claim7.holds Tryz.pinned (.plain (OpenSpec.upto fnIndexManySpec)) fnIndexManyUptoCard
end Rows
end Go.Proofs.YtaejkbjepbifcabGreatDoor
