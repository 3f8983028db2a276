/-
  DERIVED. GIVEN WITH THE SEED: THE CARDS: each row of YtckdpckdabfkbabDoorRows.lean that lists a variable, with what it lists TIED to the program's text (the seventh form; the later family's looks); each row that meets fmt, with fmt's text TOLD by the authors' own Lean function (tested against real Go, not proved from fmt's source: count such statements apart). THE CARD IS WHAT COUNTS. Prove the row's statement (the work); the ties are given (YtckdpckdabfkbabDoorTie.lean); close each card by the builder's one call (the guide's Derived/Test/ToyasCard.lean, 'card_holds'). Laid BY PROGRAM, IN A SANDBOX (cutbox-door.mjs). By AI agents, Wed Nov 11 2026. No macro, syntax, notation, axiom, sorry.
-/
import Derived.Test.YtckdpckdabfkbabDoorRows
import GoSem.ClaimSeven
namespace Go.Proofs.YtckdpckdabfkbabDoor
namespace Rows

/-- THE TIED CARD OF 'laws.FnExactMorphRead'. -/
def fnExactMorphReadCard : Claim7 := { stood := { row := fnExactMorphReadRow, standIns := [], harness := (true, "f4ddff57b11be66e765cd1819a31015736e657600427e53e5d76cd10e1171945"), looks := true }, kinds := [], alts := [], laidByText := true, laidKinds := [.sentinel, .sentinel, .sentinel], laidTests := true, laidLooks := .later }
def FnExactMorphReadCardSaid : Prop := Claim7.holds Tryd.pinned (.plain (OpenSpec.ofChange fnExactMorphReadSpec)) fnExactMorphReadCard

/-- THE TIED CARD OF 'laws.FnMorphCut'. -/
def fnMorphCutCard : Claim7 := { stood := { row := fnMorphCutRow, standIns := [], harness := (true, "f4ddff57b11be66e765cd1819a31015736e657600427e53e5d76cd10e1171945"), looks := true }, kinds := [], alts := [], laidByText := true, laidKinds := [.sentinel, .sentinel, .sentinel], laidTests := true, laidLooks := .later }
def FnMorphCutCardSaid : Prop := Claim7.holds Tryd.pinned (.plain (OpenSpec.ofChange fnMorphCutSpec)) fnMorphCutCard

/-- THE TIED CARD OF 'laws.FnSentencesSkip'. -/
def fnSentencesSkipCard : Claim7 := { stood := { row := fnSentencesSkipRow, standIns := [], harness := (true, "f4ddff57b11be66e765cd1819a31015736e657600427e53e5d76cd10e1171945"), looks := true }, kinds := [], alts := [], laidByText := true, laidKinds := [.data, .listed, .pinned], laidTests := true, laidLooks := .later }
def FnSentencesSkipCardSaid : Prop := Claim7.holds Tryd.pinned (.plain (OpenSpec.ofChange fnSentencesSkipSpec)) fnSentencesSkipCard

/-- THE TIED CARD OF 'laws.FnScanMore'. -/
def fnScanMoreCard : Claim7 := { stood := { row := fnScanMoreRow, standIns := [], harness := (true, "f4ddff57b11be66e765cd1819a31015736e657600427e53e5d76cd10e1171945"), looks := true }, kinds := [], alts := [], laidByText := true, laidKinds := [.data, .listed, .pinned], laidTests := true, laidLooks := .later }
def FnScanMoreCardSaid : Prop := Claim7.holds Tryd.pinned (.plain (OpenSpec.ofChange fnScanMoreSpec)) fnScanMoreCard

/-- THE TIED CARD OF 'laws.FnExactScan'. -/
def fnExactScanCard : Claim7 := { stood := { row := fnExactScanRow, standIns := [], harness := (true, "f4ddff57b11be66e765cd1819a31015736e657600427e53e5d76cd10e1171945"), looks := true }, kinds := [], alts := [], laidByText := true, laidKinds := [.data, .listed, .pinned], laidTests := true, laidLooks := .later }
def FnExactScanCardSaid : Prop := Claim7.holds Tryd.pinned (.plain (OpenSpec.ofChange fnExactScanSpec)) fnExactScanCard

/-- THE SECOND FORM's CARD OF 'laws.FnExactMorphRead'. -/
def fnExactMorphReadUptoCard : Claim7 := { stood := { row := fnExactMorphReadUptoRow, standIns := [], harness := (true, "f4ddff57b11be66e765cd1819a31015736e657600427e53e5d76cd10e1171945"), looks := true }, kinds := [], alts := [], laidByText := true, laidKinds := [.sentinel, .sentinel, .sentinel], laidTests := true, laidLooks := .later }
def FnExactMorphReadUptoCardSaid : Prop := Claim7.holds Tryd.pinned (.plain (OpenSpec.upto fnExactMorphReadSpec)) fnExactMorphReadUptoCard

/-- THE SECOND FORM's CARD OF 'laws.FnMorphCut'. -/
def fnMorphCutUptoCard : Claim7 := { stood := { row := fnMorphCutUptoRow, standIns := [], harness := (true, "f4ddff57b11be66e765cd1819a31015736e657600427e53e5d76cd10e1171945"), looks := true }, kinds := [], alts := [], laidByText := true, laidKinds := [.sentinel, .sentinel, .sentinel], laidTests := true, laidLooks := .later }
def FnMorphCutUptoCardSaid : Prop := Claim7.holds Tryd.pinned (.plain (OpenSpec.upto fnMorphCutSpec)) fnMorphCutUptoCard

/-- THE SECOND FORM's CARD OF 'laws.FnSentencesSkip'. -/
def fnSentencesSkipUptoCard : Claim7 := { stood := { row := fnSentencesSkipUptoRow, standIns := [], harness := (true, "f4ddff57b11be66e765cd1819a31015736e657600427e53e5d76cd10e1171945"), looks := true }, kinds := [], alts := [], laidByText := true, laidKinds := [.data, .listed, .pinned], laidTests := true, laidLooks := .later }
def FnSentencesSkipUptoCardSaid : Prop := Claim7.holds Tryd.pinned (.plain (OpenSpec.upto fnSentencesSkipSpec)) fnSentencesSkipUptoCard

/-- THE SECOND FORM's CARD OF 'laws.FnScanMore'. -/
def fnScanMoreUptoCard : Claim7 := { stood := { row := fnScanMoreUptoRow, standIns := [], harness := (true, "f4ddff57b11be66e765cd1819a31015736e657600427e53e5d76cd10e1171945"), looks := true }, kinds := [], alts := [], laidByText := true, laidKinds := [.data, .listed, .pinned], laidTests := true, laidLooks := .later }
def FnScanMoreUptoCardSaid : Prop := Claim7.holds Tryd.pinned (.plain (OpenSpec.upto fnScanMoreSpec)) fnScanMoreUptoCard

/-- THE SECOND FORM's CARD OF 'laws.FnExactScan'. -/
def fnExactScanUptoCard : Claim7 := { stood := { row := fnExactScanUptoRow, standIns := [], harness := (true, "f4ddff57b11be66e765cd1819a31015736e657600427e53e5d76cd10e1171945"), looks := true }, kinds := [], alts := [], laidByText := true, laidKinds := [.data, .listed, .pinned], laidTests := true, laidLooks := .later }
def FnExactScanUptoCardSaid : Prop := Claim7.holds Tryd.pinned (.plain (OpenSpec.upto fnExactScanSpec)) fnExactScanUptoCard
end Rows
end Go.Proofs.YtckdpckdabfkbabDoor
