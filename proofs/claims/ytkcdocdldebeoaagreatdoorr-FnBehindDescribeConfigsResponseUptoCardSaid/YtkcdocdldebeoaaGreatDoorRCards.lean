/-
  DERIVED. GIVEN WITH THE SEED: THE CARDS: each row of YtkcdocdldebeoaaGreatDoorRRows.lean that lists a variable, with what it lists TIED to the program's text (the seventh form; the later family's looks); each row that meets fmt, with fmt's text TOLD by the authors' own Lean function (tested against real Go, not proved from fmt's source: count such statements apart). THE CARD IS WHAT COUNTS. Prove the row's statement (the work); the ties are given (YtkcdocdldebeoaaGreatDoorRTie.lean); close each card by the builder's one call (the guide's Derived/Test/ToyasCard.lean, 'card_holds'). Laid BY PROGRAM, IN A SANDBOX (cutbox-door.mjs). By AI agents, Wed Nov 11 2026. No macro, syntax, notation, axiom, sorry.
-/
import Derived.Test.YtkcdocdldebeoaaGreatDoorRRows
import GoSem.ClaimSeven
namespace Go.Proofs.YtkcdocdldebeoaaGreatDoorR
namespace Rows

/-- THE TIED CARD OF 'laws.FnBehindUpdateRaftVoterResponse'. -/
def fnBehindUpdateRaftVoterResponseCard : Claim7 := { stood := { row := fnBehindUpdateRaftVoterResponseRow, standIns := [], harness := (true, "5bf8c5b29b4746a9f3d515071b948f864d05ecef96ce1c525ed2ede7d5dd1beb"), looks := false }, kinds := [], alts := [], laidByText := true, laidKinds := [.sentinel], laidTests := true, laidLooks := .later }
def FnBehindUpdateRaftVoterResponseCardSaid : Prop := Claim7.holds Tryz.pinned (.plain (OpenSpec.ofChange fnBehindUpdateRaftVoterResponseSpec)) fnBehindUpdateRaftVoterResponseCard

/-- THE TIED CARD OF 'laws.FnDefaultProduceRequest'. -/
def fnDefaultProduceRequestCard : Claim7 := { stood := { row := fnDefaultProduceRequestRow, standIns := [], harness := (true, "5bf8c5b29b4746a9f3d515071b948f864d05ecef96ce1c525ed2ede7d5dd1beb"), looks := false }, kinds := [], alts := [], laidByText := true, laidKinds := [.sentinel], laidTests := true, laidLooks := .later }
def FnDefaultProduceRequestCardSaid : Prop := Claim7.holds Tryz.pinned (.plain (OpenSpec.ofChange fnDefaultProduceRequestSpec)) fnDefaultProduceRequestCard

/-- THE TIED CARD OF 'laws.FnBehindAlterUserSCRAMCredentialsResponse'. -/
def fnBehindAlterUserSCRAMCredentialsResponseCard : Claim7 := { stood := { row := fnBehindAlterUserSCRAMCredentialsResponseRow, standIns := [], harness := (true, "5bf8c5b29b4746a9f3d515071b948f864d05ecef96ce1c525ed2ede7d5dd1beb"), looks := false }, kinds := [], alts := [], laidByText := true, laidKinds := [.sentinel], laidTests := true, laidLooks := .later }
def FnBehindAlterUserSCRAMCredentialsResponseCardSaid : Prop := Claim7.holds Tryz.pinned (.plain (OpenSpec.ofChange fnBehindAlterUserSCRAMCredentialsResponseSpec)) fnBehindAlterUserSCRAMCredentialsResponseCard

/-- THE TIED CARD OF 'laws.FnDefaultJoinGroupRequest'. -/
def fnDefaultJoinGroupRequestCard : Claim7 := { stood := { row := fnDefaultJoinGroupRequestRow, standIns := [], harness := (true, "5bf8c5b29b4746a9f3d515071b948f864d05ecef96ce1c525ed2ede7d5dd1beb"), looks := false }, kinds := [], alts := [], laidByText := true, laidKinds := [.sentinel], laidTests := true, laidLooks := .later }
def FnDefaultJoinGroupRequestCardSaid : Prop := Claim7.holds Tryz.pinned (.plain (OpenSpec.ofChange fnDefaultJoinGroupRequestSpec)) fnDefaultJoinGroupRequestCard

/-- THE TIED CARD OF 'laws.FnBehindAlterShareGroupOffsetsRequest'. -/
def fnBehindAlterShareGroupOffsetsRequestCard : Claim7 := { stood := { row := fnBehindAlterShareGroupOffsetsRequestRow, standIns := [], harness := (true, "5bf8c5b29b4746a9f3d515071b948f864d05ecef96ce1c525ed2ede7d5dd1beb"), looks := false }, kinds := [], alts := [], laidByText := true, laidKinds := [.sentinel], laidTests := true, laidLooks := .later }
def FnBehindAlterShareGroupOffsetsRequestCardSaid : Prop := Claim7.holds Tryz.pinned (.plain (OpenSpec.ofChange fnBehindAlterShareGroupOffsetsRequestSpec)) fnBehindAlterShareGroupOffsetsRequestCard

/-- THE TIED CARD OF 'laws.FnBehindWriteTxnMarkersResponse'. -/
def fnBehindWriteTxnMarkersResponseCard : Claim7 := { stood := { row := fnBehindWriteTxnMarkersResponseRow, standIns := [], harness := (true, "5bf8c5b29b4746a9f3d515071b948f864d05ecef96ce1c525ed2ede7d5dd1beb"), looks := false }, kinds := [], alts := [], laidByText := true, laidKinds := [.sentinel], laidTests := true, laidLooks := .later }
def FnBehindWriteTxnMarkersResponseCardSaid : Prop := Claim7.holds Tryz.pinned (.plain (OpenSpec.ofChange fnBehindWriteTxnMarkersResponseSpec)) fnBehindWriteTxnMarkersResponseCard

/-- THE TIED CARD OF 'laws.FnBehindWriteShareGroupStateRequest'. -/
def fnBehindWriteShareGroupStateRequestCard : Claim7 := { stood := { row := fnBehindWriteShareGroupStateRequestRow, standIns := [], harness := (true, "5bf8c5b29b4746a9f3d515071b948f864d05ecef96ce1c525ed2ede7d5dd1beb"), looks := false }, kinds := [], alts := [], laidByText := true, laidKinds := [.sentinel], laidTests := true, laidLooks := .later }
def FnBehindWriteShareGroupStateRequestCardSaid : Prop := Claim7.holds Tryz.pinned (.plain (OpenSpec.ofChange fnBehindWriteShareGroupStateRequestSpec)) fnBehindWriteShareGroupStateRequestCard

/-- THE TIED CARD OF 'laws.FnBehindDescribeConfigsResponse'. -/
def fnBehindDescribeConfigsResponseCard : Claim7 := { stood := { row := fnBehindDescribeConfigsResponseRow, standIns := [], harness := (true, "5bf8c5b29b4746a9f3d515071b948f864d05ecef96ce1c525ed2ede7d5dd1beb"), looks := false }, kinds := [], alts := [], laidByText := true, laidKinds := [.sentinel], laidTests := true, laidLooks := .later }
def FnBehindDescribeConfigsResponseCardSaid : Prop := Claim7.holds Tryz.pinned (.plain (OpenSpec.ofChange fnBehindDescribeConfigsResponseSpec)) fnBehindDescribeConfigsResponseCard

/-- THE SECOND FORM's CARD OF 'laws.FnBehindUpdateRaftVoterResponse'. -/
def fnBehindUpdateRaftVoterResponseUptoCard : Claim7 := { stood := { row := fnBehindUpdateRaftVoterResponseUptoRow, standIns := [], harness := (true, "5bf8c5b29b4746a9f3d515071b948f864d05ecef96ce1c525ed2ede7d5dd1beb"), looks := false }, kinds := [], alts := [], laidByText := true, laidKinds := [.sentinel], laidTests := true, laidLooks := .later }
def FnBehindUpdateRaftVoterResponseUptoCardSaid : Prop := Claim7.holds Tryz.pinned (.plain (OpenSpec.upto fnBehindUpdateRaftVoterResponseSpec)) fnBehindUpdateRaftVoterResponseUptoCard

/-- THE SECOND FORM's CARD OF 'laws.FnDefaultProduceRequest'. -/
def fnDefaultProduceRequestUptoCard : Claim7 := { stood := { row := fnDefaultProduceRequestUptoRow, standIns := [], harness := (true, "5bf8c5b29b4746a9f3d515071b948f864d05ecef96ce1c525ed2ede7d5dd1beb"), looks := false }, kinds := [], alts := [], laidByText := true, laidKinds := [.sentinel], laidTests := true, laidLooks := .later }
def FnDefaultProduceRequestUptoCardSaid : Prop := Claim7.holds Tryz.pinned (.plain (OpenSpec.upto fnDefaultProduceRequestSpec)) fnDefaultProduceRequestUptoCard

/-- THE SECOND FORM's CARD OF 'laws.FnBehindAlterUserSCRAMCredentialsResponse'. -/
def fnBehindAlterUserSCRAMCredentialsResponseUptoCard : Claim7 := { stood := { row := fnBehindAlterUserSCRAMCredentialsResponseUptoRow, standIns := [], harness := (true, "5bf8c5b29b4746a9f3d515071b948f864d05ecef96ce1c525ed2ede7d5dd1beb"), looks := false }, kinds := [], alts := [], laidByText := true, laidKinds := [.sentinel], laidTests := true, laidLooks := .later }
def FnBehindAlterUserSCRAMCredentialsResponseUptoCardSaid : Prop := Claim7.holds Tryz.pinned (.plain (OpenSpec.upto fnBehindAlterUserSCRAMCredentialsResponseSpec)) fnBehindAlterUserSCRAMCredentialsResponseUptoCard

/-- THE SECOND FORM's CARD OF 'laws.FnDefaultJoinGroupRequest'. -/
def fnDefaultJoinGroupRequestUptoCard : Claim7 := { stood := { row := fnDefaultJoinGroupRequestUptoRow, standIns := [], harness := (true, "5bf8c5b29b4746a9f3d515071b948f864d05ecef96ce1c525ed2ede7d5dd1beb"), looks := false }, kinds := [], alts := [], laidByText := true, laidKinds := [.sentinel], laidTests := true, laidLooks := .later }
def FnDefaultJoinGroupRequestUptoCardSaid : Prop := Claim7.holds Tryz.pinned (.plain (OpenSpec.upto fnDefaultJoinGroupRequestSpec)) fnDefaultJoinGroupRequestUptoCard

/-- THE SECOND FORM's CARD OF 'laws.FnBehindAlterShareGroupOffsetsRequest'. -/
def fnBehindAlterShareGroupOffsetsRequestUptoCard : Claim7 := { stood := { row := fnBehindAlterShareGroupOffsetsRequestUptoRow, standIns := [], harness := (true, "5bf8c5b29b4746a9f3d515071b948f864d05ecef96ce1c525ed2ede7d5dd1beb"), looks := false }, kinds := [], alts := [], laidByText := true, laidKinds := [.sentinel], laidTests := true, laidLooks := .later }
def FnBehindAlterShareGroupOffsetsRequestUptoCardSaid : Prop := Claim7.holds Tryz.pinned (.plain (OpenSpec.upto fnBehindAlterShareGroupOffsetsRequestSpec)) fnBehindAlterShareGroupOffsetsRequestUptoCard

/-- THE SECOND FORM's CARD OF 'laws.FnBehindWriteTxnMarkersResponse'. -/
def fnBehindWriteTxnMarkersResponseUptoCard : Claim7 := { stood := { row := fnBehindWriteTxnMarkersResponseUptoRow, standIns := [], harness := (true, "5bf8c5b29b4746a9f3d515071b948f864d05ecef96ce1c525ed2ede7d5dd1beb"), looks := false }, kinds := [], alts := [], laidByText := true, laidKinds := [.sentinel], laidTests := true, laidLooks := .later }
def FnBehindWriteTxnMarkersResponseUptoCardSaid : Prop := Claim7.holds Tryz.pinned (.plain (OpenSpec.upto fnBehindWriteTxnMarkersResponseSpec)) fnBehindWriteTxnMarkersResponseUptoCard

/-- THE SECOND FORM's CARD OF 'laws.FnBehindWriteShareGroupStateRequest'. -/
def fnBehindWriteShareGroupStateRequestUptoCard : Claim7 := { stood := { row := fnBehindWriteShareGroupStateRequestUptoRow, standIns := [], harness := (true, "5bf8c5b29b4746a9f3d515071b948f864d05ecef96ce1c525ed2ede7d5dd1beb"), looks := false }, kinds := [], alts := [], laidByText := true, laidKinds := [.sentinel], laidTests := true, laidLooks := .later }
def FnBehindWriteShareGroupStateRequestUptoCardSaid : Prop := Claim7.holds Tryz.pinned (.plain (OpenSpec.upto fnBehindWriteShareGroupStateRequestSpec)) fnBehindWriteShareGroupStateRequestUptoCard

/-- THE SECOND FORM's CARD OF 'laws.FnBehindDescribeConfigsResponse'. -/
def fnBehindDescribeConfigsResponseUptoCard : Claim7 := { stood := { row := fnBehindDescribeConfigsResponseUptoRow, standIns := [], harness := (true, "5bf8c5b29b4746a9f3d515071b948f864d05ecef96ce1c525ed2ede7d5dd1beb"), looks := false }, kinds := [], alts := [], laidByText := true, laidKinds := [.sentinel], laidTests := true, laidLooks := .later }
def FnBehindDescribeConfigsResponseUptoCardSaid : Prop := Claim7.holds Tryz.pinned (.plain (OpenSpec.upto fnBehindDescribeConfigsResponseSpec)) fnBehindDescribeConfigsResponseUptoCard
end Rows
end Go.Proofs.YtkcdocdldebeoaaGreatDoorR
