/-
  DERIVED. GIVEN WITH THE SEED: THE CARDS: each row of YtpphedmelbfnmaaGreatDoorRows.lean that lists a variable, with what it lists TIED to the program's text (the seventh form; the later family's looks); each row that meets fmt, with fmt's text TOLD by the authors' own Lean function (tested against real Go, not proved from fmt's source: count such statements apart). THE CARD IS WHAT COUNTS. Prove the row's statement (the work); the ties are given (YtpphedmelbfnmaaGreatDoorTie.lean); close each card by the builder's one call (the guide's Derived/Test/ToyasCard.lean, 'card_holds'). Laid BY PROGRAM, IN A SANDBOX (cutbox-door.mjs). By AI agents, Wed Nov 11 2026. No macro, syntax, notation, axiom, sorry.
-/
import Derived.Test.YtpphedmelbfnmaaGreatDoorRows
import GoSem.ClaimSeven
namespace Go.Proofs.YtpphedmelbfnmaaGreatDoor
namespace Rows

/-- THE TIED CARD OF 'laws.FnBehindUpdateRaftVoterResponse'. -/
def fnBehindUpdateRaftVoterResponseCard : Claim7 := { stood := { row := fnBehindUpdateRaftVoterResponseRow, standIns := [], harness := (true, "232248a093137974fe6a243876a5184c027dd01879addd6f34ee34a491924ed4"), looks := false }, kinds := [], alts := [], laidByText := true, laidKinds := [.sentinel], laidTests := true, laidLooks := .later }
def FnBehindUpdateRaftVoterResponseCardSaid : Prop := Claim7.holds Tryz.pinned (.plain (OpenSpec.ofChange fnBehindUpdateRaftVoterResponseSpec)) fnBehindUpdateRaftVoterResponseCard

/-- THE TIED CARD OF 'laws.FnDefaultProduceRequest'. -/
def fnDefaultProduceRequestCard : Claim7 := { stood := { row := fnDefaultProduceRequestRow, standIns := [], harness := (true, "232248a093137974fe6a243876a5184c027dd01879addd6f34ee34a491924ed4"), looks := false }, kinds := [], alts := [], laidByText := true, laidKinds := [.sentinel], laidTests := true, laidLooks := .later }
def FnDefaultProduceRequestCardSaid : Prop := Claim7.holds Tryz.pinned (.plain (OpenSpec.ofChange fnDefaultProduceRequestSpec)) fnDefaultProduceRequestCard

/-- THE TIED CARD OF 'laws.FnDefaultJoinGroupRequest'. -/
def fnDefaultJoinGroupRequestCard : Claim7 := { stood := { row := fnDefaultJoinGroupRequestRow, standIns := [], harness := (true, "232248a093137974fe6a243876a5184c027dd01879addd6f34ee34a491924ed4"), looks := false }, kinds := [], alts := [], laidByText := true, laidKinds := [.sentinel], laidTests := true, laidLooks := .later }
def FnDefaultJoinGroupRequestCardSaid : Prop := Claim7.holds Tryz.pinned (.plain (OpenSpec.ofChange fnDefaultJoinGroupRequestSpec)) fnDefaultJoinGroupRequestCard

/-- THE SECOND FORM's CARD OF 'laws.FnBehindUpdateRaftVoterResponse'. -/
def fnBehindUpdateRaftVoterResponseUptoCard : Claim7 := { stood := { row := fnBehindUpdateRaftVoterResponseUptoRow, standIns := [], harness := (true, "232248a093137974fe6a243876a5184c027dd01879addd6f34ee34a491924ed4"), looks := false }, kinds := [], alts := [], laidByText := true, laidKinds := [.sentinel], laidTests := true, laidLooks := .later }
def FnBehindUpdateRaftVoterResponseUptoCardSaid : Prop := Claim7.holds Tryz.pinned (.plain (OpenSpec.upto fnBehindUpdateRaftVoterResponseSpec)) fnBehindUpdateRaftVoterResponseUptoCard

/-- THE SECOND FORM's CARD OF 'laws.FnDefaultProduceRequest'. -/
def fnDefaultProduceRequestUptoCard : Claim7 := { stood := { row := fnDefaultProduceRequestUptoRow, standIns := [], harness := (true, "232248a093137974fe6a243876a5184c027dd01879addd6f34ee34a491924ed4"), looks := false }, kinds := [], alts := [], laidByText := true, laidKinds := [.sentinel], laidTests := true, laidLooks := .later }
def FnDefaultProduceRequestUptoCardSaid : Prop := Claim7.holds Tryz.pinned (.plain (OpenSpec.upto fnDefaultProduceRequestSpec)) fnDefaultProduceRequestUptoCard

/-- THE SECOND FORM's CARD OF 'laws.FnDefaultJoinGroupRequest'. -/
def fnDefaultJoinGroupRequestUptoCard : Claim7 := { stood := { row := fnDefaultJoinGroupRequestUptoRow, standIns := [], harness := (true, "232248a093137974fe6a243876a5184c027dd01879addd6f34ee34a491924ed4"), looks := false }, kinds := [], alts := [], laidByText := true, laidKinds := [.sentinel], laidTests := true, laidLooks := .later }
def FnDefaultJoinGroupRequestUptoCardSaid : Prop := Claim7.holds Tryz.pinned (.plain (OpenSpec.upto fnDefaultJoinGroupRequestSpec)) fnDefaultJoinGroupRequestUptoCard
end Rows
end Go.Proofs.YtpphedmelbfnmaaGreatDoor
