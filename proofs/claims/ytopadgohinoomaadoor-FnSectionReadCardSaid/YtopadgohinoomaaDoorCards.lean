/-
  DERIVED. GIVEN WITH THE SEED: THE CARDS: each row of YtopadgohinoomaaDoorRows.lean that lists a variable, with what it lists TIED to the program's text (the seventh form; the later family's looks); each row that meets fmt, with fmt's text TOLD by the authors' own Lean function (tested against real Go, not proved from fmt's source: count such statements apart). THE CARD IS WHAT COUNTS. Prove the row's statement (the work); the ties are given (YtopadgohinoomaaDoorTie.lean); close each card by the builder's one call (the guide's Derived/Test/ToyasCard.lean, 'card_holds'). Laid BY PROGRAM, IN A SANDBOX (cutbox-door.mjs). By AI agents, Wed Nov 11 2026. No macro, syntax, notation, axiom, sorry.
-/
import Derived.Test.YtopadgohinoomaaDoorRows
import GoSem.ClaimSeven
namespace Go.Proofs.YtopadgohinoomaaDoor
namespace Rows

/-- THE TIED CARD OF 'laws.FnLiteralStates'. -/
def fnLiteralStatesCard : Claim7 := { stood := { row := fnLiteralStatesRow, standIns := [], harness := (true, "545767dd2573033e7ae9efa5f5ccc60bd19965a679830179f9ae89f5c7988a23"), looks := true }, kinds := [], alts := [], laidByText := true, laidKinds := [.sentinel, .data], laidTests := true, laidLooks := .later }
def FnLiteralStatesCardSaid : Prop := Claim7.holds Tryd.pinned (.plain (OpenSpec.ofChange fnLiteralStatesSpec)) fnLiteralStatesCard

/-- THE TIED CARD OF 'laws.FnMatchStates'. -/
def fnMatchStatesCard : Claim7 := { stood := { row := fnMatchStatesRow, standIns := [], harness := (true, "545767dd2573033e7ae9efa5f5ccc60bd19965a679830179f9ae89f5c7988a23"), looks := true }, kinds := [], alts := [], laidByText := true, laidKinds := [.sentinel, .data], laidTests := true, laidLooks := .later }
def FnMatchStatesCardSaid : Prop := Claim7.holds Tryd.pinned (.plain (OpenSpec.ofChange fnMatchStatesSpec)) fnMatchStatesCard

/-- THE TIED CARD OF 'laws.FnOffsetStates'. -/
def fnOffsetStatesCard : Claim7 := { stood := { row := fnOffsetStatesRow, standIns := [], harness := (true, "545767dd2573033e7ae9efa5f5ccc60bd19965a679830179f9ae89f5c7988a23"), looks := true }, kinds := [], alts := [], laidByText := true, laidKinds := [.sentinel], laidTests := true, laidLooks := .later }
def FnOffsetStatesCardSaid : Prop := Claim7.holds Tryd.pinned (.plain (OpenSpec.ofChange fnOffsetStatesSpec)) fnOffsetStatesCard

/-- THE TIED CARD OF 'laws.FnFourRead'. -/
def fnFourReadCard : Claim7 := { stood := { row := fnFourReadRow, standIns := [], harness := (true, "545767dd2573033e7ae9efa5f5ccc60bd19965a679830179f9ae89f5c7988a23"), looks := true }, kinds := [], alts := [], laidByText := true, laidKinds := [.sentinel, .sentinel], laidTests := true, laidLooks := .later }
def FnFourReadCardSaid : Prop := Claim7.holds Tryd.pinned (.plain (OpenSpec.ofChange fnFourReadSpec)) fnFourReadCard

/-- THE TIED CARD OF 'laws.FnSectionAgain'. -/
def fnSectionAgainCard : Claim7 := { stood := { row := fnSectionAgainRow, standIns := [], harness := (true, "545767dd2573033e7ae9efa5f5ccc60bd19965a679830179f9ae89f5c7988a23"), looks := true }, kinds := [], alts := [], laidByText := true, laidKinds := [.sentinel, .sentinel], laidTests := true, laidLooks := .later }
def FnSectionAgainCardSaid : Prop := Claim7.holds Tryd.pinned (.plain (OpenSpec.ofChange fnSectionAgainSpec)) fnSectionAgainCard

/-- THE TIED CARD OF 'laws.FnSectionRead'. -/
def fnSectionReadCard : Claim7 := { stood := { row := fnSectionReadRow, standIns := [], harness := (true, "545767dd2573033e7ae9efa5f5ccc60bd19965a679830179f9ae89f5c7988a23"), looks := true }, kinds := [], alts := [], laidByText := true, laidKinds := [.sentinel, .sentinel], laidTests := true, laidLooks := .later }
def FnSectionReadCardSaid : Prop := Claim7.holds Tryd.pinned (.plain (OpenSpec.ofChange fnSectionReadSpec)) fnSectionReadCard

/-- THE SECOND FORM's CARD OF 'laws.FnLiteralStates'. -/
def fnLiteralStatesUptoCard : Claim7 := { stood := { row := fnLiteralStatesUptoRow, standIns := [], harness := (true, "545767dd2573033e7ae9efa5f5ccc60bd19965a679830179f9ae89f5c7988a23"), looks := true }, kinds := [], alts := [], laidByText := true, laidKinds := [.sentinel, .data], laidTests := true, laidLooks := .later }
def FnLiteralStatesUptoCardSaid : Prop := Claim7.holds Tryd.pinned (.plain (OpenSpec.upto fnLiteralStatesSpec)) fnLiteralStatesUptoCard

/-- THE SECOND FORM's CARD OF 'laws.FnMatchStates'. -/
def fnMatchStatesUptoCard : Claim7 := { stood := { row := fnMatchStatesUptoRow, standIns := [], harness := (true, "545767dd2573033e7ae9efa5f5ccc60bd19965a679830179f9ae89f5c7988a23"), looks := true }, kinds := [], alts := [], laidByText := true, laidKinds := [.sentinel, .data], laidTests := true, laidLooks := .later }
def FnMatchStatesUptoCardSaid : Prop := Claim7.holds Tryd.pinned (.plain (OpenSpec.upto fnMatchStatesSpec)) fnMatchStatesUptoCard

/-- THE SECOND FORM's CARD OF 'laws.FnOffsetStates'. -/
def fnOffsetStatesUptoCard : Claim7 := { stood := { row := fnOffsetStatesUptoRow, standIns := [], harness := (true, "545767dd2573033e7ae9efa5f5ccc60bd19965a679830179f9ae89f5c7988a23"), looks := true }, kinds := [], alts := [], laidByText := true, laidKinds := [.sentinel], laidTests := true, laidLooks := .later }
def FnOffsetStatesUptoCardSaid : Prop := Claim7.holds Tryd.pinned (.plain (OpenSpec.upto fnOffsetStatesSpec)) fnOffsetStatesUptoCard

/-- THE SECOND FORM's CARD OF 'laws.FnFourRead'. -/
def fnFourReadUptoCard : Claim7 := { stood := { row := fnFourReadUptoRow, standIns := [], harness := (true, "545767dd2573033e7ae9efa5f5ccc60bd19965a679830179f9ae89f5c7988a23"), looks := true }, kinds := [], alts := [], laidByText := true, laidKinds := [.sentinel, .sentinel], laidTests := true, laidLooks := .later }
def FnFourReadUptoCardSaid : Prop := Claim7.holds Tryd.pinned (.plain (OpenSpec.upto fnFourReadSpec)) fnFourReadUptoCard

/-- THE SECOND FORM's CARD OF 'laws.FnSectionAgain'. -/
def fnSectionAgainUptoCard : Claim7 := { stood := { row := fnSectionAgainUptoRow, standIns := [], harness := (true, "545767dd2573033e7ae9efa5f5ccc60bd19965a679830179f9ae89f5c7988a23"), looks := true }, kinds := [], alts := [], laidByText := true, laidKinds := [.sentinel, .sentinel], laidTests := true, laidLooks := .later }
def FnSectionAgainUptoCardSaid : Prop := Claim7.holds Tryd.pinned (.plain (OpenSpec.upto fnSectionAgainSpec)) fnSectionAgainUptoCard

/-- THE SECOND FORM's CARD OF 'laws.FnSectionRead'. -/
def fnSectionReadUptoCard : Claim7 := { stood := { row := fnSectionReadUptoRow, standIns := [], harness := (true, "545767dd2573033e7ae9efa5f5ccc60bd19965a679830179f9ae89f5c7988a23"), looks := true }, kinds := [], alts := [], laidByText := true, laidKinds := [.sentinel, .sentinel], laidTests := true, laidLooks := .later }
def FnSectionReadUptoCardSaid : Prop := Claim7.holds Tryd.pinned (.plain (OpenSpec.upto fnSectionReadSpec)) fnSectionReadUptoCard
end Rows
end Go.Proofs.YtopadgohinoomaaDoor
