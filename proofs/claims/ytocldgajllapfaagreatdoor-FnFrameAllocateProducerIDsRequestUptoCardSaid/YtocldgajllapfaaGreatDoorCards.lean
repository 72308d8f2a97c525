/-
  DERIVED. GIVEN WITH THE SEED: THE CARDS: each row of YtocldgajllapfaaGreatDoorRows.lean that lists a variable, with what it lists TIED to the program's text (the seventh form; the later family's looks); each row that meets fmt, with fmt's text TOLD by the authors' own Lean function (tested against real Go, not proved from fmt's source: count such statements apart). THE CARD IS WHAT COUNTS. Prove the row's statement (the work); the ties are given (YtocldgajllapfaaGreatDoorTie.lean); close each card by the builder's one call (the guide's Derived/Test/ToyasCard.lean, 'card_holds'). Laid BY PROGRAM, IN A SANDBOX (cutbox-door.mjs). By AI agents, Wed Nov 11 2026. No macro, syntax, notation, axiom, sorry.
-/
import Derived.Test.YtocldgajllapfaaGreatDoorRows
import GoSem.ClaimSeven
namespace Go.Proofs.YtocldgajllapfaaGreatDoor
namespace Rows

/-- THE TIED CARD OF 'laws.FnFrameUnregisterBrokerRequest'. -/
def fnFrameUnregisterBrokerRequestCard : Claim7 := { stood := { row := fnFrameUnregisterBrokerRequestRow, standIns := [], harness := (true, "fc838bed6a8dcbe5477edddc18a1f8cc4936abfaaea89057b603ea056531110d"), looks := false }, kinds := [], alts := [], laidByText := true, laidKinds := [.sentinel], laidTests := true, laidLooks := .later }
def FnFrameUnregisterBrokerRequestCardSaid : Prop := Claim7.holds Tryz.pinned (.plain (OpenSpec.ofChange fnFrameUnregisterBrokerRequestSpec)) fnFrameUnregisterBrokerRequestCard

/-- THE TIED CARD OF 'laws.FnFrameDescribeClusterRequest'. -/
def fnFrameDescribeClusterRequestCard : Claim7 := { stood := { row := fnFrameDescribeClusterRequestRow, standIns := [], harness := (true, "fc838bed6a8dcbe5477edddc18a1f8cc4936abfaaea89057b603ea056531110d"), looks := false }, kinds := [], alts := [], laidByText := true, laidKinds := [.sentinel], laidTests := true, laidLooks := .later }
def FnFrameDescribeClusterRequestCardSaid : Prop := Claim7.holds Tryz.pinned (.plain (OpenSpec.ofChange fnFrameDescribeClusterRequestSpec)) fnFrameDescribeClusterRequestCard

/-- THE TIED CARD OF 'laws.FnFrameAllocateProducerIDsRequest'. -/
def fnFrameAllocateProducerIDsRequestCard : Claim7 := { stood := { row := fnFrameAllocateProducerIDsRequestRow, standIns := [], harness := (true, "fc838bed6a8dcbe5477edddc18a1f8cc4936abfaaea89057b603ea056531110d"), looks := false }, kinds := [], alts := [], laidByText := true, laidKinds := [.sentinel], laidTests := true, laidLooks := .later }
def FnFrameAllocateProducerIDsRequestCardSaid : Prop := Claim7.holds Tryz.pinned (.plain (OpenSpec.ofChange fnFrameAllocateProducerIDsRequestSpec)) fnFrameAllocateProducerIDsRequestCard

/-- THE SECOND FORM's CARD OF 'laws.FnFrameUnregisterBrokerRequest'. -/
def fnFrameUnregisterBrokerRequestUptoCard : Claim7 := { stood := { row := fnFrameUnregisterBrokerRequestUptoRow, standIns := [], harness := (true, "fc838bed6a8dcbe5477edddc18a1f8cc4936abfaaea89057b603ea056531110d"), looks := false }, kinds := [], alts := [], laidByText := true, laidKinds := [.sentinel], laidTests := true, laidLooks := .later }
def FnFrameUnregisterBrokerRequestUptoCardSaid : Prop := Claim7.holds Tryz.pinned (.plain (OpenSpec.upto fnFrameUnregisterBrokerRequestSpec)) fnFrameUnregisterBrokerRequestUptoCard

/-- THE SECOND FORM's CARD OF 'laws.FnFrameDescribeClusterRequest'. -/
def fnFrameDescribeClusterRequestUptoCard : Claim7 := { stood := { row := fnFrameDescribeClusterRequestUptoRow, standIns := [], harness := (true, "fc838bed6a8dcbe5477edddc18a1f8cc4936abfaaea89057b603ea056531110d"), looks := false }, kinds := [], alts := [], laidByText := true, laidKinds := [.sentinel], laidTests := true, laidLooks := .later }
def FnFrameDescribeClusterRequestUptoCardSaid : Prop := Claim7.holds Tryz.pinned (.plain (OpenSpec.upto fnFrameDescribeClusterRequestSpec)) fnFrameDescribeClusterRequestUptoCard

/-- THE SECOND FORM's CARD OF 'laws.FnFrameAllocateProducerIDsRequest'. -/
def fnFrameAllocateProducerIDsRequestUptoCard : Claim7 := { stood := { row := fnFrameAllocateProducerIDsRequestUptoRow, standIns := [], harness := (true, "fc838bed6a8dcbe5477edddc18a1f8cc4936abfaaea89057b603ea056531110d"), looks := false }, kinds := [], alts := [], laidByText := true, laidKinds := [.sentinel], laidTests := true, laidLooks := .later }
def FnFrameAllocateProducerIDsRequestUptoCardSaid : Prop := Claim7.holds Tryz.pinned (.plain (OpenSpec.upto fnFrameAllocateProducerIDsRequestSpec)) fnFrameAllocateProducerIDsRequestUptoCard
end Rows
end Go.Proofs.YtocldgajllapfaaGreatDoor
