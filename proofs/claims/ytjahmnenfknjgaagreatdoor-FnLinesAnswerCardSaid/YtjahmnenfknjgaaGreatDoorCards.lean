/-
  DERIVED. GIVEN WITH THE SEED: THE CARDS: each row of YtjahmnenfknjgaaGreatDoorRows.lean that lists a variable, with what it lists TIED to the program's text (the seventh form; the later family's looks); each row that meets fmt, with fmt's text TOLD by the authors' own Lean function (tested against real Go, not proved from fmt's source: count such statements apart). THE CARD IS WHAT COUNTS. Prove the row's statement (the work); the ties are given (YtjahmnenfknjgaaGreatDoorTie.lean); close each card by the builder's one call (the guide's Derived/Test/ToyasCard.lean, 'card_holds'). Laid BY PROGRAM, IN A SANDBOX (cutbox-door.mjs). By AI agents, Wed Nov 11 2026. No macro, syntax, notation, axiom, sorry.
-/
import Derived.Test.YtjahmnenfknjgaaGreatDoorRows
import GoSem.ClaimSeven
namespace Go.Proofs.YtjahmnenfknjgaaGreatDoor
namespace Rows

/-- THE TIED CARD OF 'laws.FnResolveAnswer'. -/
def fnResolveAnswerCard : Claim7 := { stood := { row := fnResolveAnswerRow, standIns := [], harness := (true, "f77abbf5d68ed9af22454732288ee9dcddffc455982a846028e7f50cb53c76b1"), looks := true }, kinds := [], alts := [], laidByText := true, laidKinds := [.data], laidTests := true, laidLooks := .later }
def FnResolveAnswerCardSaid : Prop := Claim7.holds Tryz.pinned (.plain (OpenSpec.ofChange fnResolveAnswerSpec)) fnResolveAnswerCard

/-- THE TIED CARD OF 'laws.FnRulesJoin'. -/
def fnRulesJoinCard : Claim7 := { stood := { row := fnRulesJoinRow, standIns := [], harness := (true, "f77abbf5d68ed9af22454732288ee9dcddffc455982a846028e7f50cb53c76b1"), looks := true }, kinds := [], alts := [], laidByText := true, laidKinds := [.data], laidTests := true, laidLooks := .later }
def FnRulesJoinCardSaid : Prop := Claim7.holds Tryz.pinned (.plain (OpenSpec.ofChange fnRulesJoinSpec)) fnRulesJoinCard

/-- THE TIED CARD OF 'laws.FnLinesAnswer'. -/
def fnLinesAnswerCard : Claim7 := { stood := { row := fnLinesAnswerRow, standIns := [], harness := (true, "f77abbf5d68ed9af22454732288ee9dcddffc455982a846028e7f50cb53c76b1"), looks := true }, kinds := [], alts := [], laidByText := true, laidKinds := [.data], laidTests := true, laidLooks := .later }
def FnLinesAnswerCardSaid : Prop := Claim7.holds Tryz.pinned (.plain (OpenSpec.ofChange fnLinesAnswerSpec)) fnLinesAnswerCard

/-- THE SECOND FORM's CARD OF 'laws.FnResolveAnswer'. -/
def fnResolveAnswerUptoCard : Claim7 := { stood := { row := fnResolveAnswerUptoRow, standIns := [], harness := (true, "f77abbf5d68ed9af22454732288ee9dcddffc455982a846028e7f50cb53c76b1"), looks := true }, kinds := [], alts := [], laidByText := true, laidKinds := [.data], laidTests := true, laidLooks := .later }
def FnResolveAnswerUptoCardSaid : Prop := Claim7.holds Tryz.pinned (.plain (OpenSpec.upto fnResolveAnswerSpec)) fnResolveAnswerUptoCard

/-- THE SECOND FORM's CARD OF 'laws.FnRulesJoin'. -/
def fnRulesJoinUptoCard : Claim7 := { stood := { row := fnRulesJoinUptoRow, standIns := [], harness := (true, "f77abbf5d68ed9af22454732288ee9dcddffc455982a846028e7f50cb53c76b1"), looks := true }, kinds := [], alts := [], laidByText := true, laidKinds := [.data], laidTests := true, laidLooks := .later }
def FnRulesJoinUptoCardSaid : Prop := Claim7.holds Tryz.pinned (.plain (OpenSpec.upto fnRulesJoinSpec)) fnRulesJoinUptoCard

/-- THE SECOND FORM's CARD OF 'laws.FnLinesAnswer'. -/
def fnLinesAnswerUptoCard : Claim7 := { stood := { row := fnLinesAnswerUptoRow, standIns := [], harness := (true, "f77abbf5d68ed9af22454732288ee9dcddffc455982a846028e7f50cb53c76b1"), looks := true }, kinds := [], alts := [], laidByText := true, laidKinds := [.data], laidTests := true, laidLooks := .later }
def FnLinesAnswerUptoCardSaid : Prop := Claim7.holds Tryz.pinned (.plain (OpenSpec.upto fnLinesAnswerSpec)) fnLinesAnswerUptoCard
end Rows
end Go.Proofs.YtjahmnenfknjgaaGreatDoor
