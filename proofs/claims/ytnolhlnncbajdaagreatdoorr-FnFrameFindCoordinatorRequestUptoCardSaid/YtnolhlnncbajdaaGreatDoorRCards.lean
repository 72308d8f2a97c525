/-
  DERIVED. GIVEN WITH THE SEED: THE CARDS: each row of YtnolhlnncbajdaaGreatDoorRRows.lean that lists a variable, with what it lists TIED to the program's text (the seventh form; the later family's looks); each row that meets fmt, with fmt's text TOLD by the authors' own Lean function (tested against real Go, not proved from fmt's source: count such statements apart). THE CARD IS WHAT COUNTS. Prove the row's statement (the work); the ties are given (YtnolhlnncbajdaaGreatDoorRTie.lean); close each card by the builder's one call (the guide's Derived/Test/ToyasCard.lean, 'card_holds'). Laid BY PROGRAM, IN A SANDBOX (cutbox-door.mjs). By AI agents, Wed Nov 11 2026. No macro, syntax, notation, axiom, sorry.
-/
import Derived.Test.YtnolhlnncbajdaaGreatDoorRRows
import GoSem.ClaimSeven
namespace Go.Proofs.YtnolhlnncbajdaaGreatDoorR
namespace Rows

/-- THE TIED CARD OF 'laws.FnFrameReadShareGroupStateSummaryRequest'. -/
def fnFrameReadShareGroupStateSummaryRequestCard : Claim7 := { stood := { row := fnFrameReadShareGroupStateSummaryRequestRow, standIns := [], harness := (true, "349907beda4f7d3fc054231c27b77ceb8325b0f5b619ccd1915be783acb249db"), looks := false }, kinds := [], alts := [], laidByText := true, laidKinds := [.sentinel], laidTests := true, laidLooks := .later }
def FnFrameReadShareGroupStateSummaryRequestCardSaid : Prop := Claim7.holds Tryz.pinned (.plain (OpenSpec.ofChange fnFrameReadShareGroupStateSummaryRequestSpec)) fnFrameReadShareGroupStateSummaryRequestCard

/-- THE TIED CARD OF 'laws.FnFrameAlterPartitionAssignmentsRequest'. -/
def fnFrameAlterPartitionAssignmentsRequestCard : Claim7 := { stood := { row := fnFrameAlterPartitionAssignmentsRequestRow, standIns := [], harness := (true, "349907beda4f7d3fc054231c27b77ceb8325b0f5b619ccd1915be783acb249db"), looks := false }, kinds := [], alts := [], laidByText := true, laidKinds := [.sentinel], laidTests := true, laidLooks := .later }
def FnFrameAlterPartitionAssignmentsRequestCardSaid : Prop := Claim7.holds Tryz.pinned (.plain (OpenSpec.ofChange fnFrameAlterPartitionAssignmentsRequestSpec)) fnFrameAlterPartitionAssignmentsRequestCard

/-- THE TIED CARD OF 'laws.FnFrameDescribeGroupsRequest'. -/
def fnFrameDescribeGroupsRequestCard : Claim7 := { stood := { row := fnFrameDescribeGroupsRequestRow, standIns := [], harness := (true, "349907beda4f7d3fc054231c27b77ceb8325b0f5b619ccd1915be783acb249db"), looks := false }, kinds := [], alts := [], laidByText := true, laidKinds := [.sentinel], laidTests := true, laidLooks := .later }
def FnFrameDescribeGroupsRequestCardSaid : Prop := Claim7.holds Tryz.pinned (.plain (OpenSpec.ofChange fnFrameDescribeGroupsRequestSpec)) fnFrameDescribeGroupsRequestCard

/-- THE TIED CARD OF 'laws.FnFrameFindCoordinatorRequest'. -/
def fnFrameFindCoordinatorRequestCard : Claim7 := { stood := { row := fnFrameFindCoordinatorRequestRow, standIns := [], harness := (true, "349907beda4f7d3fc054231c27b77ceb8325b0f5b619ccd1915be783acb249db"), looks := false }, kinds := [], alts := [], laidByText := true, laidKinds := [.sentinel], laidTests := true, laidLooks := .later }
def FnFrameFindCoordinatorRequestCardSaid : Prop := Claim7.holds Tryz.pinned (.plain (OpenSpec.ofChange fnFrameFindCoordinatorRequestSpec)) fnFrameFindCoordinatorRequestCard

/-- THE SECOND FORM's CARD OF 'laws.FnFrameReadShareGroupStateSummaryRequest'. -/
def fnFrameReadShareGroupStateSummaryRequestUptoCard : Claim7 := { stood := { row := fnFrameReadShareGroupStateSummaryRequestUptoRow, standIns := [], harness := (true, "349907beda4f7d3fc054231c27b77ceb8325b0f5b619ccd1915be783acb249db"), looks := false }, kinds := [], alts := [], laidByText := true, laidKinds := [.sentinel], laidTests := true, laidLooks := .later }
def FnFrameReadShareGroupStateSummaryRequestUptoCardSaid : Prop := Claim7.holds Tryz.pinned (.plain (OpenSpec.upto fnFrameReadShareGroupStateSummaryRequestSpec)) fnFrameReadShareGroupStateSummaryRequestUptoCard

/-- THE SECOND FORM's CARD OF 'laws.FnFrameAlterPartitionAssignmentsRequest'. -/
def fnFrameAlterPartitionAssignmentsRequestUptoCard : Claim7 := { stood := { row := fnFrameAlterPartitionAssignmentsRequestUptoRow, standIns := [], harness := (true, "349907beda4f7d3fc054231c27b77ceb8325b0f5b619ccd1915be783acb249db"), looks := false }, kinds := [], alts := [], laidByText := true, laidKinds := [.sentinel], laidTests := true, laidLooks := .later }
def FnFrameAlterPartitionAssignmentsRequestUptoCardSaid : Prop := Claim7.holds Tryz.pinned (.plain (OpenSpec.upto fnFrameAlterPartitionAssignmentsRequestSpec)) fnFrameAlterPartitionAssignmentsRequestUptoCard

/-- THE SECOND FORM's CARD OF 'laws.FnFrameDescribeGroupsRequest'. -/
def fnFrameDescribeGroupsRequestUptoCard : Claim7 := { stood := { row := fnFrameDescribeGroupsRequestUptoRow, standIns := [], harness := (true, "349907beda4f7d3fc054231c27b77ceb8325b0f5b619ccd1915be783acb249db"), looks := false }, kinds := [], alts := [], laidByText := true, laidKinds := [.sentinel], laidTests := true, laidLooks := .later }
def FnFrameDescribeGroupsRequestUptoCardSaid : Prop := Claim7.holds Tryz.pinned (.plain (OpenSpec.upto fnFrameDescribeGroupsRequestSpec)) fnFrameDescribeGroupsRequestUptoCard

/-- THE SECOND FORM's CARD OF 'laws.FnFrameFindCoordinatorRequest'. -/
def fnFrameFindCoordinatorRequestUptoCard : Claim7 := { stood := { row := fnFrameFindCoordinatorRequestUptoRow, standIns := [], harness := (true, "349907beda4f7d3fc054231c27b77ceb8325b0f5b619ccd1915be783acb249db"), looks := false }, kinds := [], alts := [], laidByText := true, laidKinds := [.sentinel], laidTests := true, laidLooks := .later }
def FnFrameFindCoordinatorRequestUptoCardSaid : Prop := Claim7.holds Tryz.pinned (.plain (OpenSpec.upto fnFrameFindCoordinatorRequestSpec)) fnFrameFindCoordinatorRequestUptoCard
end Rows
end Go.Proofs.YtnolhlnncbajdaaGreatDoorR
