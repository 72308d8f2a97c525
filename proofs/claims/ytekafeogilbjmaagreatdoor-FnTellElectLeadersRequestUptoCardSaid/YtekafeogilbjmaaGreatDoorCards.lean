/-
  DERIVED. GIVEN WITH THE SEED: THE CARDS: each row of YtekafeogilbjmaaGreatDoorRows.lean that lists a variable, with what it lists TIED to the program's text (the seventh form; the later family's looks); each row that meets fmt, with fmt's text TOLD by the authors' own Lean function (tested against real Go, not proved from fmt's source: count such statements apart). THE CARD IS WHAT COUNTS. Prove the row's statement (the work); the ties are given (YtekafeogilbjmaaGreatDoorTie.lean); close each card by the builder's one call (the guide's Derived/Test/ToyasCard.lean, 'card_holds'). Laid BY PROGRAM, IN A SANDBOX (cutbox-door.mjs). By AI agents, Wed Nov 11 2026. No macro, syntax, notation, axiom, sorry.
-/
import Derived.Test.YtekafeogilbjmaaGreatDoorRows
import GoSem.ClaimSeven
namespace Go.Proofs.YtekafeogilbjmaaGreatDoor
namespace Rows

/-- THE TIED CARD OF 'laws.FnTellCreateACLsResponse'. -/
def fnTellCreateACLsResponseCard : Claim7 := { stood := { row := fnTellCreateACLsResponseRow, standIns := [], harness := (true, "ca4d11bfe45ba878f1bdc33e20be5d8d04455991cd2d49d9d74c05ba93bfc92c"), looks := false }, kinds := [], alts := [], laidByText := true, laidKinds := [.sentinel], laidTests := true, laidLooks := .later }
def FnTellCreateACLsResponseCardSaid : Prop := Claim7.holds Tryz.pinned (.plain (OpenSpec.ofChange fnTellCreateACLsResponseSpec)) fnTellCreateACLsResponseCard

/-- THE TIED CARD OF 'laws.FnTellElectLeadersRequest'. -/
def fnTellElectLeadersRequestCard : Claim7 := { stood := { row := fnTellElectLeadersRequestRow, standIns := [], harness := (true, "ca4d11bfe45ba878f1bdc33e20be5d8d04455991cd2d49d9d74c05ba93bfc92c"), looks := false }, kinds := [], alts := [], laidByText := true, laidKinds := [.sentinel], laidTests := true, laidLooks := .later }
def FnTellElectLeadersRequestCardSaid : Prop := Claim7.holds Tryz.pinned (.plain (OpenSpec.ofChange fnTellElectLeadersRequestSpec)) fnTellElectLeadersRequestCard

/-- THE TIED CARD OF 'laws.FnTellDeleteShareGroupStateRequest'. -/
def fnTellDeleteShareGroupStateRequestCard : Claim7 := { stood := { row := fnTellDeleteShareGroupStateRequestRow, standIns := [], harness := (true, "ca4d11bfe45ba878f1bdc33e20be5d8d04455991cd2d49d9d74c05ba93bfc92c"), looks := false }, kinds := [], alts := [], laidByText := true, laidKinds := [.sentinel], laidTests := true, laidLooks := .later }
def FnTellDeleteShareGroupStateRequestCardSaid : Prop := Claim7.holds Tryz.pinned (.plain (OpenSpec.ofChange fnTellDeleteShareGroupStateRequestSpec)) fnTellDeleteShareGroupStateRequestCard

/-- THE TIED CARD OF 'laws.FnTellDescribeTopicPartitionsRequest'. -/
def fnTellDescribeTopicPartitionsRequestCard : Claim7 := { stood := { row := fnTellDescribeTopicPartitionsRequestRow, standIns := [], harness := (true, "ca4d11bfe45ba878f1bdc33e20be5d8d04455991cd2d49d9d74c05ba93bfc92c"), looks := false }, kinds := [], alts := [], laidByText := true, laidKinds := [.sentinel], laidTests := true, laidLooks := .later }
def FnTellDescribeTopicPartitionsRequestCardSaid : Prop := Claim7.holds Tryz.pinned (.plain (OpenSpec.ofChange fnTellDescribeTopicPartitionsRequestSpec)) fnTellDescribeTopicPartitionsRequestCard

/-- THE TIED CARD OF 'laws.FnTellShareGroupHeartbeatRequest'. -/
def fnTellShareGroupHeartbeatRequestCard : Claim7 := { stood := { row := fnTellShareGroupHeartbeatRequestRow, standIns := [], harness := (true, "ca4d11bfe45ba878f1bdc33e20be5d8d04455991cd2d49d9d74c05ba93bfc92c"), looks := false }, kinds := [], alts := [], laidByText := true, laidKinds := [.sentinel], laidTests := true, laidLooks := .later }
def FnTellShareGroupHeartbeatRequestCardSaid : Prop := Claim7.holds Tryz.pinned (.plain (OpenSpec.ofChange fnTellShareGroupHeartbeatRequestSpec)) fnTellShareGroupHeartbeatRequestCard

/-- THE TIED CARD OF 'laws.FnTellLeaderAndISRResponse'. -/
def fnTellLeaderAndISRResponseCard : Claim7 := { stood := { row := fnTellLeaderAndISRResponseRow, standIns := [], harness := (true, "ca4d11bfe45ba878f1bdc33e20be5d8d04455991cd2d49d9d74c05ba93bfc92c"), looks := false }, kinds := [], alts := [], laidByText := true, laidKinds := [.sentinel], laidTests := true, laidLooks := .later }
def FnTellLeaderAndISRResponseCardSaid : Prop := Claim7.holds Tryz.pinned (.plain (OpenSpec.ofChange fnTellLeaderAndISRResponseSpec)) fnTellLeaderAndISRResponseCard

/-- THE TIED CARD OF 'laws.FnTellAddRaftVoterRequest'. -/
def fnTellAddRaftVoterRequestCard : Claim7 := { stood := { row := fnTellAddRaftVoterRequestRow, standIns := [], harness := (true, "ca4d11bfe45ba878f1bdc33e20be5d8d04455991cd2d49d9d74c05ba93bfc92c"), looks := false }, kinds := [], alts := [], laidByText := true, laidKinds := [.sentinel], laidTests := true, laidLooks := .later }
def FnTellAddRaftVoterRequestCardSaid : Prop := Claim7.holds Tryz.pinned (.plain (OpenSpec.ofChange fnTellAddRaftVoterRequestSpec)) fnTellAddRaftVoterRequestCard

/-- THE TIED CARD OF 'laws.FnTellConsumerGroupHeartbeatResponse'. -/
def fnTellConsumerGroupHeartbeatResponseCard : Claim7 := { stood := { row := fnTellConsumerGroupHeartbeatResponseRow, standIns := [], harness := (true, "ca4d11bfe45ba878f1bdc33e20be5d8d04455991cd2d49d9d74c05ba93bfc92c"), looks := false }, kinds := [], alts := [], laidByText := true, laidKinds := [.sentinel], laidTests := true, laidLooks := .later }
def FnTellConsumerGroupHeartbeatResponseCardSaid : Prop := Claim7.holds Tryz.pinned (.plain (OpenSpec.ofChange fnTellConsumerGroupHeartbeatResponseSpec)) fnTellConsumerGroupHeartbeatResponseCard

/-- THE TIED CARD OF 'laws.FnTellControllerRegistrationRequest'. -/
def fnTellControllerRegistrationRequestCard : Claim7 := { stood := { row := fnTellControllerRegistrationRequestRow, standIns := [], harness := (true, "ca4d11bfe45ba878f1bdc33e20be5d8d04455991cd2d49d9d74c05ba93bfc92c"), looks := false }, kinds := [], alts := [], laidByText := true, laidKinds := [.sentinel], laidTests := true, laidLooks := .later }
def FnTellControllerRegistrationRequestCardSaid : Prop := Claim7.holds Tryz.pinned (.plain (OpenSpec.ofChange fnTellControllerRegistrationRequestSpec)) fnTellControllerRegistrationRequestCard

/-- THE TIED CARD OF 'laws.FnTellShareAcknowledgeRequest'. -/
def fnTellShareAcknowledgeRequestCard : Claim7 := { stood := { row := fnTellShareAcknowledgeRequestRow, standIns := [], harness := (true, "ca4d11bfe45ba878f1bdc33e20be5d8d04455991cd2d49d9d74c05ba93bfc92c"), looks := false }, kinds := [], alts := [], laidByText := true, laidKinds := [.sentinel], laidTests := true, laidLooks := .later }
def FnTellShareAcknowledgeRequestCardSaid : Prop := Claim7.holds Tryz.pinned (.plain (OpenSpec.ofChange fnTellShareAcknowledgeRequestSpec)) fnTellShareAcknowledgeRequestCard

/-- THE SECOND FORM's CARD OF 'laws.FnTellCreateACLsResponse'. -/
def fnTellCreateACLsResponseUptoCard : Claim7 := { stood := { row := fnTellCreateACLsResponseUptoRow, standIns := [], harness := (true, "ca4d11bfe45ba878f1bdc33e20be5d8d04455991cd2d49d9d74c05ba93bfc92c"), looks := false }, kinds := [], alts := [], laidByText := true, laidKinds := [.sentinel], laidTests := true, laidLooks := .later }
def FnTellCreateACLsResponseUptoCardSaid : Prop := Claim7.holds Tryz.pinned (.plain (OpenSpec.upto fnTellCreateACLsResponseSpec)) fnTellCreateACLsResponseUptoCard

/-- THE SECOND FORM's CARD OF 'laws.FnTellElectLeadersRequest'. -/
def fnTellElectLeadersRequestUptoCard : Claim7 := { stood := { row := fnTellElectLeadersRequestUptoRow, standIns := [], harness := (true, "ca4d11bfe45ba878f1bdc33e20be5d8d04455991cd2d49d9d74c05ba93bfc92c"), looks := false }, kinds := [], alts := [], laidByText := true, laidKinds := [.sentinel], laidTests := true, laidLooks := .later }
def FnTellElectLeadersRequestUptoCardSaid : Prop := Claim7.holds Tryz.pinned (.plain (OpenSpec.upto fnTellElectLeadersRequestSpec)) fnTellElectLeadersRequestUptoCard

/-- THE SECOND FORM's CARD OF 'laws.FnTellDeleteShareGroupStateRequest'. -/
def fnTellDeleteShareGroupStateRequestUptoCard : Claim7 := { stood := { row := fnTellDeleteShareGroupStateRequestUptoRow, standIns := [], harness := (true, "ca4d11bfe45ba878f1bdc33e20be5d8d04455991cd2d49d9d74c05ba93bfc92c"), looks := false }, kinds := [], alts := [], laidByText := true, laidKinds := [.sentinel], laidTests := true, laidLooks := .later }
def FnTellDeleteShareGroupStateRequestUptoCardSaid : Prop := Claim7.holds Tryz.pinned (.plain (OpenSpec.upto fnTellDeleteShareGroupStateRequestSpec)) fnTellDeleteShareGroupStateRequestUptoCard

/-- THE SECOND FORM's CARD OF 'laws.FnTellDescribeTopicPartitionsRequest'. -/
def fnTellDescribeTopicPartitionsRequestUptoCard : Claim7 := { stood := { row := fnTellDescribeTopicPartitionsRequestUptoRow, standIns := [], harness := (true, "ca4d11bfe45ba878f1bdc33e20be5d8d04455991cd2d49d9d74c05ba93bfc92c"), looks := false }, kinds := [], alts := [], laidByText := true, laidKinds := [.sentinel], laidTests := true, laidLooks := .later }
def FnTellDescribeTopicPartitionsRequestUptoCardSaid : Prop := Claim7.holds Tryz.pinned (.plain (OpenSpec.upto fnTellDescribeTopicPartitionsRequestSpec)) fnTellDescribeTopicPartitionsRequestUptoCard

/-- THE SECOND FORM's CARD OF 'laws.FnTellShareGroupHeartbeatRequest'. -/
def fnTellShareGroupHeartbeatRequestUptoCard : Claim7 := { stood := { row := fnTellShareGroupHeartbeatRequestUptoRow, standIns := [], harness := (true, "ca4d11bfe45ba878f1bdc33e20be5d8d04455991cd2d49d9d74c05ba93bfc92c"), looks := false }, kinds := [], alts := [], laidByText := true, laidKinds := [.sentinel], laidTests := true, laidLooks := .later }
def FnTellShareGroupHeartbeatRequestUptoCardSaid : Prop := Claim7.holds Tryz.pinned (.plain (OpenSpec.upto fnTellShareGroupHeartbeatRequestSpec)) fnTellShareGroupHeartbeatRequestUptoCard

/-- THE SECOND FORM's CARD OF 'laws.FnTellLeaderAndISRResponse'. -/
def fnTellLeaderAndISRResponseUptoCard : Claim7 := { stood := { row := fnTellLeaderAndISRResponseUptoRow, standIns := [], harness := (true, "ca4d11bfe45ba878f1bdc33e20be5d8d04455991cd2d49d9d74c05ba93bfc92c"), looks := false }, kinds := [], alts := [], laidByText := true, laidKinds := [.sentinel], laidTests := true, laidLooks := .later }
def FnTellLeaderAndISRResponseUptoCardSaid : Prop := Claim7.holds Tryz.pinned (.plain (OpenSpec.upto fnTellLeaderAndISRResponseSpec)) fnTellLeaderAndISRResponseUptoCard

/-- THE SECOND FORM's CARD OF 'laws.FnTellAddRaftVoterRequest'. -/
def fnTellAddRaftVoterRequestUptoCard : Claim7 := { stood := { row := fnTellAddRaftVoterRequestUptoRow, standIns := [], harness := (true, "ca4d11bfe45ba878f1bdc33e20be5d8d04455991cd2d49d9d74c05ba93bfc92c"), looks := false }, kinds := [], alts := [], laidByText := true, laidKinds := [.sentinel], laidTests := true, laidLooks := .later }
def FnTellAddRaftVoterRequestUptoCardSaid : Prop := Claim7.holds Tryz.pinned (.plain (OpenSpec.upto fnTellAddRaftVoterRequestSpec)) fnTellAddRaftVoterRequestUptoCard

/-- THE SECOND FORM's CARD OF 'laws.FnTellConsumerGroupHeartbeatResponse'. -/
def fnTellConsumerGroupHeartbeatResponseUptoCard : Claim7 := { stood := { row := fnTellConsumerGroupHeartbeatResponseUptoRow, standIns := [], harness := (true, "ca4d11bfe45ba878f1bdc33e20be5d8d04455991cd2d49d9d74c05ba93bfc92c"), looks := false }, kinds := [], alts := [], laidByText := true, laidKinds := [.sentinel], laidTests := true, laidLooks := .later }
def FnTellConsumerGroupHeartbeatResponseUptoCardSaid : Prop := Claim7.holds Tryz.pinned (.plain (OpenSpec.upto fnTellConsumerGroupHeartbeatResponseSpec)) fnTellConsumerGroupHeartbeatResponseUptoCard

/-- THE SECOND FORM's CARD OF 'laws.FnTellControllerRegistrationRequest'. -/
def fnTellControllerRegistrationRequestUptoCard : Claim7 := { stood := { row := fnTellControllerRegistrationRequestUptoRow, standIns := [], harness := (true, "ca4d11bfe45ba878f1bdc33e20be5d8d04455991cd2d49d9d74c05ba93bfc92c"), looks := false }, kinds := [], alts := [], laidByText := true, laidKinds := [.sentinel], laidTests := true, laidLooks := .later }
def FnTellControllerRegistrationRequestUptoCardSaid : Prop := Claim7.holds Tryz.pinned (.plain (OpenSpec.upto fnTellControllerRegistrationRequestSpec)) fnTellControllerRegistrationRequestUptoCard

/-- THE SECOND FORM's CARD OF 'laws.FnTellShareAcknowledgeRequest'. -/
def fnTellShareAcknowledgeRequestUptoCard : Claim7 := { stood := { row := fnTellShareAcknowledgeRequestUptoRow, standIns := [], harness := (true, "ca4d11bfe45ba878f1bdc33e20be5d8d04455991cd2d49d9d74c05ba93bfc92c"), looks := false }, kinds := [], alts := [], laidByText := true, laidKinds := [.sentinel], laidTests := true, laidLooks := .later }
def FnTellShareAcknowledgeRequestUptoCardSaid : Prop := Claim7.holds Tryz.pinned (.plain (OpenSpec.upto fnTellShareAcknowledgeRequestSpec)) fnTellShareAcknowledgeRequestUptoCard
end Rows
end Go.Proofs.YtekafeogilbjmaaGreatDoor
