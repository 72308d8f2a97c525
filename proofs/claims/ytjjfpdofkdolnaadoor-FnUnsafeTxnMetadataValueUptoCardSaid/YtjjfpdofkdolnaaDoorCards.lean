/-
  DERIVED. GIVEN WITH THE SEED: THE CARDS: each row of YtjjfpdofkdolnaaDoorRows.lean that lists a variable, with what it lists TIED to the program's text (the seventh form; the later family's looks); each row that meets fmt, with fmt's text TOLD by the authors' own Lean function (tested against real Go, not proved from fmt's source: count such statements apart). THE CARD IS WHAT COUNTS. Prove the row's statement (the work); the ties are given (YtjjfpdofkdolnaaDoorTie.lean); close each card by the builder's one call (the guide's Derived/Test/ToyasCard.lean, 'card_holds'). Laid BY PROGRAM, IN A SANDBOX (cutbox-door.mjs). By AI agents, Wed Nov 11 2026. No macro, syntax, notation, axiom, sorry.
-/
import Derived.Test.YtjjfpdofkdolnaaDoorRows
import GoSem.ClaimSeven
namespace Go.Proofs.YtjjfpdofkdolnaaDoor
namespace Rows

/-- THE TIED CARD OF 'laws.FnUnsafeConsumerGroupDescribeRequest'. -/
def fnUnsafeConsumerGroupDescribeRequestCard : Claim7 := { stood := { row := fnUnsafeConsumerGroupDescribeRequestRow, standIns := [], harness := (true, "41805cc6dd18ae9b4dc6376a17c699f7739f7f6ce929e2ee7fbe8e64908a5084"), looks := false }, kinds := [], alts := [], laidByText := true, laidKinds := [.sentinel], laidTests := true, laidLooks := .later }
def FnUnsafeConsumerGroupDescribeRequestCardSaid : Prop := Claim7.holds Tryd.pinned (.plain (OpenSpec.ofChange fnUnsafeConsumerGroupDescribeRequestSpec)) fnUnsafeConsumerGroupDescribeRequestCard

/-- THE TIED CARD OF 'laws.FnUnsafeListPartitionReassignmentsRequest'. -/
def fnUnsafeListPartitionReassignmentsRequestCard : Claim7 := { stood := { row := fnUnsafeListPartitionReassignmentsRequestRow, standIns := [], harness := (true, "41805cc6dd18ae9b4dc6376a17c699f7739f7f6ce929e2ee7fbe8e64908a5084"), looks := false }, kinds := [], alts := [], laidByText := true, laidKinds := [.sentinel], laidTests := true, laidLooks := .later }
def FnUnsafeListPartitionReassignmentsRequestCardSaid : Prop := Claim7.holds Tryd.pinned (.plain (OpenSpec.ofChange fnUnsafeListPartitionReassignmentsRequestSpec)) fnUnsafeListPartitionReassignmentsRequestCard

/-- THE TIED CARD OF 'laws.FnUnsafeListGroupsResponse'. -/
def fnUnsafeListGroupsResponseCard : Claim7 := { stood := { row := fnUnsafeListGroupsResponseRow, standIns := [], harness := (true, "41805cc6dd18ae9b4dc6376a17c699f7739f7f6ce929e2ee7fbe8e64908a5084"), looks := false }, kinds := [], alts := [], laidByText := true, laidKinds := [.sentinel], laidTests := true, laidLooks := .later }
def FnUnsafeListGroupsResponseCardSaid : Prop := Claim7.holds Tryd.pinned (.plain (OpenSpec.ofChange fnUnsafeListGroupsResponseSpec)) fnUnsafeListGroupsResponseCard

/-- THE TIED CARD OF 'laws.FnUnsafeAssignReplicasToDirsRequest'. -/
def fnUnsafeAssignReplicasToDirsRequestCard : Claim7 := { stood := { row := fnUnsafeAssignReplicasToDirsRequestRow, standIns := [], harness := (true, "41805cc6dd18ae9b4dc6376a17c699f7739f7f6ce929e2ee7fbe8e64908a5084"), looks := false }, kinds := [], alts := [], laidByText := true, laidKinds := [.sentinel], laidTests := true, laidLooks := .later }
def FnUnsafeAssignReplicasToDirsRequestCardSaid : Prop := Claim7.holds Tryd.pinned (.plain (OpenSpec.ofChange fnUnsafeAssignReplicasToDirsRequestSpec)) fnUnsafeAssignReplicasToDirsRequestCard

/-- THE TIED CARD OF 'laws.FnUnsafeCreatePartitionsRequest'. -/
def fnUnsafeCreatePartitionsRequestCard : Claim7 := { stood := { row := fnUnsafeCreatePartitionsRequestRow, standIns := [], harness := (true, "41805cc6dd18ae9b4dc6376a17c699f7739f7f6ce929e2ee7fbe8e64908a5084"), looks := false }, kinds := [], alts := [], laidByText := true, laidKinds := [.sentinel], laidTests := true, laidLooks := .later }
def FnUnsafeCreatePartitionsRequestCardSaid : Prop := Claim7.holds Tryd.pinned (.plain (OpenSpec.ofChange fnUnsafeCreatePartitionsRequestSpec)) fnUnsafeCreatePartitionsRequestCard

/-- THE TIED CARD OF 'laws.FnUnsafeAlterPartitionResponse'. -/
def fnUnsafeAlterPartitionResponseCard : Claim7 := { stood := { row := fnUnsafeAlterPartitionResponseRow, standIns := [], harness := (true, "41805cc6dd18ae9b4dc6376a17c699f7739f7f6ce929e2ee7fbe8e64908a5084"), looks := false }, kinds := [], alts := [], laidByText := true, laidKinds := [.sentinel], laidTests := true, laidLooks := .later }
def FnUnsafeAlterPartitionResponseCardSaid : Prop := Claim7.holds Tryd.pinned (.plain (OpenSpec.ofChange fnUnsafeAlterPartitionResponseSpec)) fnUnsafeAlterPartitionResponseCard

/-- THE TIED CARD OF 'laws.FnUnsafeTxnMetadataValue'. -/
def fnUnsafeTxnMetadataValueCard : Claim7 := { stood := { row := fnUnsafeTxnMetadataValueRow, standIns := [], harness := (true, "41805cc6dd18ae9b4dc6376a17c699f7739f7f6ce929e2ee7fbe8e64908a5084"), looks := false }, kinds := [], alts := [], laidByText := true, laidKinds := [.sentinel], laidTests := true, laidLooks := .later }
def FnUnsafeTxnMetadataValueCardSaid : Prop := Claim7.holds Tryd.pinned (.plain (OpenSpec.ofChange fnUnsafeTxnMetadataValueSpec)) fnUnsafeTxnMetadataValueCard

/-- THE SECOND FORM's CARD OF 'laws.FnUnsafeConsumerGroupDescribeRequest'. -/
def fnUnsafeConsumerGroupDescribeRequestUptoCard : Claim7 := { stood := { row := fnUnsafeConsumerGroupDescribeRequestUptoRow, standIns := [], harness := (true, "41805cc6dd18ae9b4dc6376a17c699f7739f7f6ce929e2ee7fbe8e64908a5084"), looks := false }, kinds := [], alts := [], laidByText := true, laidKinds := [.sentinel], laidTests := true, laidLooks := .later }
def FnUnsafeConsumerGroupDescribeRequestUptoCardSaid : Prop := Claim7.holds Tryd.pinned (.plain (OpenSpec.upto fnUnsafeConsumerGroupDescribeRequestSpec)) fnUnsafeConsumerGroupDescribeRequestUptoCard

/-- THE SECOND FORM's CARD OF 'laws.FnUnsafeListPartitionReassignmentsRequest'. -/
def fnUnsafeListPartitionReassignmentsRequestUptoCard : Claim7 := { stood := { row := fnUnsafeListPartitionReassignmentsRequestUptoRow, standIns := [], harness := (true, "41805cc6dd18ae9b4dc6376a17c699f7739f7f6ce929e2ee7fbe8e64908a5084"), looks := false }, kinds := [], alts := [], laidByText := true, laidKinds := [.sentinel], laidTests := true, laidLooks := .later }
def FnUnsafeListPartitionReassignmentsRequestUptoCardSaid : Prop := Claim7.holds Tryd.pinned (.plain (OpenSpec.upto fnUnsafeListPartitionReassignmentsRequestSpec)) fnUnsafeListPartitionReassignmentsRequestUptoCard

/-- THE SECOND FORM's CARD OF 'laws.FnUnsafeListGroupsResponse'. -/
def fnUnsafeListGroupsResponseUptoCard : Claim7 := { stood := { row := fnUnsafeListGroupsResponseUptoRow, standIns := [], harness := (true, "41805cc6dd18ae9b4dc6376a17c699f7739f7f6ce929e2ee7fbe8e64908a5084"), looks := false }, kinds := [], alts := [], laidByText := true, laidKinds := [.sentinel], laidTests := true, laidLooks := .later }
def FnUnsafeListGroupsResponseUptoCardSaid : Prop := Claim7.holds Tryd.pinned (.plain (OpenSpec.upto fnUnsafeListGroupsResponseSpec)) fnUnsafeListGroupsResponseUptoCard

/-- THE SECOND FORM's CARD OF 'laws.FnUnsafeAssignReplicasToDirsRequest'. -/
def fnUnsafeAssignReplicasToDirsRequestUptoCard : Claim7 := { stood := { row := fnUnsafeAssignReplicasToDirsRequestUptoRow, standIns := [], harness := (true, "41805cc6dd18ae9b4dc6376a17c699f7739f7f6ce929e2ee7fbe8e64908a5084"), looks := false }, kinds := [], alts := [], laidByText := true, laidKinds := [.sentinel], laidTests := true, laidLooks := .later }
def FnUnsafeAssignReplicasToDirsRequestUptoCardSaid : Prop := Claim7.holds Tryd.pinned (.plain (OpenSpec.upto fnUnsafeAssignReplicasToDirsRequestSpec)) fnUnsafeAssignReplicasToDirsRequestUptoCard

/-- THE SECOND FORM's CARD OF 'laws.FnUnsafeCreatePartitionsRequest'. -/
def fnUnsafeCreatePartitionsRequestUptoCard : Claim7 := { stood := { row := fnUnsafeCreatePartitionsRequestUptoRow, standIns := [], harness := (true, "41805cc6dd18ae9b4dc6376a17c699f7739f7f6ce929e2ee7fbe8e64908a5084"), looks := false }, kinds := [], alts := [], laidByText := true, laidKinds := [.sentinel], laidTests := true, laidLooks := .later }
def FnUnsafeCreatePartitionsRequestUptoCardSaid : Prop := Claim7.holds Tryd.pinned (.plain (OpenSpec.upto fnUnsafeCreatePartitionsRequestSpec)) fnUnsafeCreatePartitionsRequestUptoCard

/-- THE SECOND FORM's CARD OF 'laws.FnUnsafeAlterPartitionResponse'. -/
def fnUnsafeAlterPartitionResponseUptoCard : Claim7 := { stood := { row := fnUnsafeAlterPartitionResponseUptoRow, standIns := [], harness := (true, "41805cc6dd18ae9b4dc6376a17c699f7739f7f6ce929e2ee7fbe8e64908a5084"), looks := false }, kinds := [], alts := [], laidByText := true, laidKinds := [.sentinel], laidTests := true, laidLooks := .later }
def FnUnsafeAlterPartitionResponseUptoCardSaid : Prop := Claim7.holds Tryd.pinned (.plain (OpenSpec.upto fnUnsafeAlterPartitionResponseSpec)) fnUnsafeAlterPartitionResponseUptoCard

/-- THE SECOND FORM's CARD OF 'laws.FnUnsafeTxnMetadataValue'. -/
def fnUnsafeTxnMetadataValueUptoCard : Claim7 := { stood := { row := fnUnsafeTxnMetadataValueUptoRow, standIns := [], harness := (true, "41805cc6dd18ae9b4dc6376a17c699f7739f7f6ce929e2ee7fbe8e64908a5084"), looks := false }, kinds := [], alts := [], laidByText := true, laidKinds := [.sentinel], laidTests := true, laidLooks := .later }
def FnUnsafeTxnMetadataValueUptoCardSaid : Prop := Claim7.holds Tryd.pinned (.plain (OpenSpec.upto fnUnsafeTxnMetadataValueSpec)) fnUnsafeTxnMetadataValueUptoCard
end Rows
end Go.Proofs.YtjjfpdofkdolnaaDoor
