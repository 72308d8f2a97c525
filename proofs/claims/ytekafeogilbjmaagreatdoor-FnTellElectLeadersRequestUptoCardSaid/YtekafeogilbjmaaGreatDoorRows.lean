/-
  NARROWER THAN 'FOR EVERY INPUT', by the rows' own cells (each row's printed sentence says how): FnTellCreateACLsResponse: loops, laid · FnTellElectLeadersRequest: loops, laid · FnTellDeleteShareGroupStateRequest: loops, laid · FnTellDescribeTopicPartitionsRequest: loops, laid · FnTellShareGroupHeartbeatRequest: loops, laid · FnTellLeaderAndISRResponse: loops, laid · FnTellAddRaftVoterRequest: loops, laid · FnTellConsumerGroupHeartbeatResponse: loops, laid · FnTellControllerRegistrationRequest: loops, laid · FnTellShareAcknowledgeRequest: loops, laid.
  DERIVED. THE GIVEN ROWS OF THIS SEAT. 10 by the template 'for every input the law returns true; each argument reads behind the call as it read before'; 0 by the template 'total and deterministic' (their statements: YtekafeogilbjmaaGreatDoorTotals.lean).
  GIVEN WITH THE SEED: the statements are not yours to turn. If you find one false, say at which input.
  Laid BY PROGRAM, IN A SANDBOX (cutbox-rows.mjs): the forced cells as the released guide's own fill.sh prints them over the translation ef4871dd446ab0a7… (all of the seat's roots in one cut). By AI agents, Wed Nov 11 2026. No macro, syntax, notation, axiom, sorry.
-/
import Derived.Test.YtekafeogilbjmaaGreatDoorChecked
import GoSem.Claim
import GoSem.ClaimJoined
import GoSem.ClaimMapViews
import Derived.JoinedTies
import Derived.KernelRfl
namespace Go.Proofs.YtekafeogilbjmaaGreatDoor
/- THE CELL 'sum', in the pinned program and in every row, IS THE sha256 OF THE DUMP (.gsa) THAT YtekafeogilbjmaaGreatDoorProg.lean LOADS. Nothing in Lean hashes anything: it is a label: what it is worth is what the hold of that sum in a sandbox is worth. -/
noncomputable def Tryz.pinned : Pinned := { name := "ytekafeogilbjmaagreatdoor", sum := "ef4871dd446ab0a7d406aee890506a9e1e69d25784600d76e12b31bf7ad012f0", checked := Tryz.checked }
namespace Rows
def none {H : Type} : Left H := { results := [], args := [] }

/- WHAT THE LISTED PACKAGE-LEVEL VARIABLES READ AS WHEN THE CALL BEGINS. Each datum BY PROGRAM (the guide's laid-datum.mjs) off the statement by which the dump's own 'gosem.cut.vars' lays the variable. In a bare row this is a premise. The card (YtekafeogilbjmaaGreatDoorCards.lean) ties it to the program's text. -/
def laid_pub_mailsack_pub_kmsg_inner_kbin_ErrNotEnoughData {H : Type} : DataW H := .iface "*errors.errorString" (.ptr (.agg [.lit (.string [114, 101, 115, 112, 111, 110, 115, 101, 32, 100, 105, 100, 32, 110, 111, 116, 32, 99, 111, 110, 116, 97, 105, 110, 32, 101, 110, 111, 117, 103, 104, 32, 100, 97, 116, 97, 32, 116, 111, 32, 98, 101, 32, 118, 97, 108, 105, 100])]))

/-- 'laws.FnTellCreateACLsResponse': WHATEVER THE INPUT: true; the input reads as it did. -/
def fnTellCreateACLsResponseSpec : ChangeSpec := { name := "fnTellCreateACLsResponse", fn := fun _ => fun
  | [d1, d2] => { results := [.lit (.bool true)], args := [d1, d2] }
  | _ => none }
def fnTellCreateACLsResponseRow : OpenClaim := { program := "ytekafeogilbjmaagreatdoor", sum := "ef4871dd446ab0a7d406aee890506a9e1e69d25784600d76e12b31bf7ad012f0", func := "pub-mailsack/laws.FnTellCreateACLsResponse", spec := "fnTellCreateACLsResponse", inPlace := ["internal/reflectlite.ValueOf", "internal/reflectlite.Swapper", "(internal/reflectlite.Value).Len"], unfollowed := true, recurses := true, named := ["encoding/binary.BigEndian", "pub-mailsack/pub/kmsg/inner/kbin.ErrNotEnoughData"], loops := true, apart := false, laid := [("pub-mailsack/pub/kmsg/inner/kbin.ErrNotEnoughData", laid_pub_mailsack_pub_kmsg_inner_kbin_ErrNotEnoughData)] }
def FnTellCreateACLsResponseSaid : Prop := fnTellCreateACLsResponseRow.holds Tryz.pinned (OpenSpec.ofChange fnTellCreateACLsResponseSpec)

/-- ITS FALSE NEIGHBOUR: 'it returns false'. Refute it at one input. -/
def fnTellCreateACLsResponseWrong : ChangeSpec := { name := "fnTellCreateACLsResponse", fn := fun _ => fun
  | [d1, d2] => { results := [.lit (.bool false)], args := [d1, d2] }
  | _ => none }
def FnTellCreateACLsResponseWrongFalsely : Prop := fnTellCreateACLsResponseRow.holds Tryz.pinned (OpenSpec.ofChange fnTellCreateACLsResponseWrong)

/-- 'laws.FnTellElectLeadersRequest': WHATEVER THE INPUT: true; the input reads as it did. -/
def fnTellElectLeadersRequestSpec : ChangeSpec := { name := "fnTellElectLeadersRequest", fn := fun _ => fun
  | [d1, d2] => { results := [.lit (.bool true)], args := [d1, d2] }
  | _ => none }
def fnTellElectLeadersRequestRow : OpenClaim := { program := "ytekafeogilbjmaagreatdoor", sum := "ef4871dd446ab0a7d406aee890506a9e1e69d25784600d76e12b31bf7ad012f0", func := "pub-mailsack/laws.FnTellElectLeadersRequest", spec := "fnTellElectLeadersRequest", inPlace := ["internal/reflectlite.ValueOf", "internal/reflectlite.Swapper", "(internal/reflectlite.Value).Len"], unfollowed := true, recurses := true, named := ["encoding/binary.BigEndian", "pub-mailsack/pub/kmsg/inner/kbin.ErrNotEnoughData"], loops := true, apart := false, laid := [("pub-mailsack/pub/kmsg/inner/kbin.ErrNotEnoughData", laid_pub_mailsack_pub_kmsg_inner_kbin_ErrNotEnoughData)] }
def FnTellElectLeadersRequestSaid : Prop := fnTellElectLeadersRequestRow.holds Tryz.pinned (OpenSpec.ofChange fnTellElectLeadersRequestSpec)

/-- ITS FALSE NEIGHBOUR: 'it returns false'. Refute it at one input. -/
def fnTellElectLeadersRequestWrong : ChangeSpec := { name := "fnTellElectLeadersRequest", fn := fun _ => fun
  | [d1, d2] => { results := [.lit (.bool false)], args := [d1, d2] }
  | _ => none }
def FnTellElectLeadersRequestWrongFalsely : Prop := fnTellElectLeadersRequestRow.holds Tryz.pinned (OpenSpec.ofChange fnTellElectLeadersRequestWrong)

/-- 'laws.FnTellDeleteShareGroupStateRequest': WHATEVER THE INPUT: true; the input reads as it did. -/
def fnTellDeleteShareGroupStateRequestSpec : ChangeSpec := { name := "fnTellDeleteShareGroupStateRequest", fn := fun _ => fun
  | [d1, d2] => { results := [.lit (.bool true)], args := [d1, d2] }
  | _ => none }
def fnTellDeleteShareGroupStateRequestRow : OpenClaim := { program := "ytekafeogilbjmaagreatdoor", sum := "ef4871dd446ab0a7d406aee890506a9e1e69d25784600d76e12b31bf7ad012f0", func := "pub-mailsack/laws.FnTellDeleteShareGroupStateRequest", spec := "fnTellDeleteShareGroupStateRequest", inPlace := ["internal/reflectlite.ValueOf", "internal/reflectlite.Swapper", "(internal/reflectlite.Value).Len"], unfollowed := true, recurses := true, named := ["encoding/binary.BigEndian", "pub-mailsack/pub/kmsg/inner/kbin.ErrNotEnoughData"], loops := true, apart := false, laid := [("pub-mailsack/pub/kmsg/inner/kbin.ErrNotEnoughData", laid_pub_mailsack_pub_kmsg_inner_kbin_ErrNotEnoughData)] }
def FnTellDeleteShareGroupStateRequestSaid : Prop := fnTellDeleteShareGroupStateRequestRow.holds Tryz.pinned (OpenSpec.ofChange fnTellDeleteShareGroupStateRequestSpec)

/-- ITS FALSE NEIGHBOUR: 'it returns false'. Refute it at one input. -/
def fnTellDeleteShareGroupStateRequestWrong : ChangeSpec := { name := "fnTellDeleteShareGroupStateRequest", fn := fun _ => fun
  | [d1, d2] => { results := [.lit (.bool false)], args := [d1, d2] }
  | _ => none }
def FnTellDeleteShareGroupStateRequestWrongFalsely : Prop := fnTellDeleteShareGroupStateRequestRow.holds Tryz.pinned (OpenSpec.ofChange fnTellDeleteShareGroupStateRequestWrong)

/-- 'laws.FnTellDescribeTopicPartitionsRequest': WHATEVER THE INPUT: true; the input reads as it did. -/
def fnTellDescribeTopicPartitionsRequestSpec : ChangeSpec := { name := "fnTellDescribeTopicPartitionsRequest", fn := fun _ => fun
  | [d1, d2] => { results := [.lit (.bool true)], args := [d1, d2] }
  | _ => none }
def fnTellDescribeTopicPartitionsRequestRow : OpenClaim := { program := "ytekafeogilbjmaagreatdoor", sum := "ef4871dd446ab0a7d406aee890506a9e1e69d25784600d76e12b31bf7ad012f0", func := "pub-mailsack/laws.FnTellDescribeTopicPartitionsRequest", spec := "fnTellDescribeTopicPartitionsRequest", inPlace := ["internal/reflectlite.ValueOf", "internal/reflectlite.Swapper", "(internal/reflectlite.Value).Len"], unfollowed := true, recurses := true, named := ["encoding/binary.BigEndian", "pub-mailsack/pub/kmsg/inner/kbin.ErrNotEnoughData"], loops := true, apart := false, laid := [("pub-mailsack/pub/kmsg/inner/kbin.ErrNotEnoughData", laid_pub_mailsack_pub_kmsg_inner_kbin_ErrNotEnoughData)] }
def FnTellDescribeTopicPartitionsRequestSaid : Prop := fnTellDescribeTopicPartitionsRequestRow.holds Tryz.pinned (OpenSpec.ofChange fnTellDescribeTopicPartitionsRequestSpec)

/-- ITS FALSE NEIGHBOUR: 'it returns false'. Refute it at one input. -/
def fnTellDescribeTopicPartitionsRequestWrong : ChangeSpec := { name := "fnTellDescribeTopicPartitionsRequest", fn := fun _ => fun
  | [d1, d2] => { results := [.lit (.bool false)], args := [d1, d2] }
  | _ => none }
def FnTellDescribeTopicPartitionsRequestWrongFalsely : Prop := fnTellDescribeTopicPartitionsRequestRow.holds Tryz.pinned (OpenSpec.ofChange fnTellDescribeTopicPartitionsRequestWrong)

/-- 'laws.FnTellShareGroupHeartbeatRequest': WHATEVER THE INPUT: true; the input reads as it did. -/
def fnTellShareGroupHeartbeatRequestSpec : ChangeSpec := { name := "fnTellShareGroupHeartbeatRequest", fn := fun _ => fun
  | [d1, d2] => { results := [.lit (.bool true)], args := [d1, d2] }
  | _ => none }
def fnTellShareGroupHeartbeatRequestRow : OpenClaim := { program := "ytekafeogilbjmaagreatdoor", sum := "ef4871dd446ab0a7d406aee890506a9e1e69d25784600d76e12b31bf7ad012f0", func := "pub-mailsack/laws.FnTellShareGroupHeartbeatRequest", spec := "fnTellShareGroupHeartbeatRequest", inPlace := ["internal/reflectlite.ValueOf", "internal/reflectlite.Swapper", "(internal/reflectlite.Value).Len"], unfollowed := true, recurses := true, named := ["encoding/binary.BigEndian", "pub-mailsack/pub/kmsg/inner/kbin.ErrNotEnoughData"], loops := true, apart := false, laid := [("pub-mailsack/pub/kmsg/inner/kbin.ErrNotEnoughData", laid_pub_mailsack_pub_kmsg_inner_kbin_ErrNotEnoughData)] }
def FnTellShareGroupHeartbeatRequestSaid : Prop := fnTellShareGroupHeartbeatRequestRow.holds Tryz.pinned (OpenSpec.ofChange fnTellShareGroupHeartbeatRequestSpec)

/-- ITS FALSE NEIGHBOUR: 'it returns false'. Refute it at one input. -/
def fnTellShareGroupHeartbeatRequestWrong : ChangeSpec := { name := "fnTellShareGroupHeartbeatRequest", fn := fun _ => fun
  | [d1, d2] => { results := [.lit (.bool false)], args := [d1, d2] }
  | _ => none }
def FnTellShareGroupHeartbeatRequestWrongFalsely : Prop := fnTellShareGroupHeartbeatRequestRow.holds Tryz.pinned (OpenSpec.ofChange fnTellShareGroupHeartbeatRequestWrong)

/-- 'laws.FnTellLeaderAndISRResponse': WHATEVER THE INPUT: true; the input reads as it did. -/
def fnTellLeaderAndISRResponseSpec : ChangeSpec := { name := "fnTellLeaderAndISRResponse", fn := fun _ => fun
  | [d1, d2] => { results := [.lit (.bool true)], args := [d1, d2] }
  | _ => none }
def fnTellLeaderAndISRResponseRow : OpenClaim := { program := "ytekafeogilbjmaagreatdoor", sum := "ef4871dd446ab0a7d406aee890506a9e1e69d25784600d76e12b31bf7ad012f0", func := "pub-mailsack/laws.FnTellLeaderAndISRResponse", spec := "fnTellLeaderAndISRResponse", inPlace := ["internal/reflectlite.ValueOf", "internal/reflectlite.Swapper", "(internal/reflectlite.Value).Len"], unfollowed := true, recurses := true, named := ["encoding/binary.BigEndian", "pub-mailsack/pub/kmsg/inner/kbin.ErrNotEnoughData"], loops := true, apart := false, laid := [("pub-mailsack/pub/kmsg/inner/kbin.ErrNotEnoughData", laid_pub_mailsack_pub_kmsg_inner_kbin_ErrNotEnoughData)] }
def FnTellLeaderAndISRResponseSaid : Prop := fnTellLeaderAndISRResponseRow.holds Tryz.pinned (OpenSpec.ofChange fnTellLeaderAndISRResponseSpec)

/-- ITS FALSE NEIGHBOUR: 'it returns false'. Refute it at one input. -/
def fnTellLeaderAndISRResponseWrong : ChangeSpec := { name := "fnTellLeaderAndISRResponse", fn := fun _ => fun
  | [d1, d2] => { results := [.lit (.bool false)], args := [d1, d2] }
  | _ => none }
def FnTellLeaderAndISRResponseWrongFalsely : Prop := fnTellLeaderAndISRResponseRow.holds Tryz.pinned (OpenSpec.ofChange fnTellLeaderAndISRResponseWrong)

/-- 'laws.FnTellAddRaftVoterRequest': WHATEVER THE INPUT: true; the input reads as it did. -/
def fnTellAddRaftVoterRequestSpec : ChangeSpec := { name := "fnTellAddRaftVoterRequest", fn := fun _ => fun
  | [d1, d2] => { results := [.lit (.bool true)], args := [d1, d2] }
  | _ => none }
def fnTellAddRaftVoterRequestRow : OpenClaim := { program := "ytekafeogilbjmaagreatdoor", sum := "ef4871dd446ab0a7d406aee890506a9e1e69d25784600d76e12b31bf7ad012f0", func := "pub-mailsack/laws.FnTellAddRaftVoterRequest", spec := "fnTellAddRaftVoterRequest", inPlace := ["internal/reflectlite.ValueOf", "internal/reflectlite.Swapper", "(internal/reflectlite.Value).Len"], unfollowed := true, recurses := true, named := ["encoding/binary.BigEndian", "pub-mailsack/pub/kmsg/inner/kbin.ErrNotEnoughData"], loops := true, apart := false, laid := [("pub-mailsack/pub/kmsg/inner/kbin.ErrNotEnoughData", laid_pub_mailsack_pub_kmsg_inner_kbin_ErrNotEnoughData)] }
def FnTellAddRaftVoterRequestSaid : Prop := fnTellAddRaftVoterRequestRow.holds Tryz.pinned (OpenSpec.ofChange fnTellAddRaftVoterRequestSpec)

/-- ITS FALSE NEIGHBOUR: 'it returns false'. Refute it at one input. -/
def fnTellAddRaftVoterRequestWrong : ChangeSpec := { name := "fnTellAddRaftVoterRequest", fn := fun _ => fun
  | [d1, d2] => { results := [.lit (.bool false)], args := [d1, d2] }
  | _ => none }
def FnTellAddRaftVoterRequestWrongFalsely : Prop := fnTellAddRaftVoterRequestRow.holds Tryz.pinned (OpenSpec.ofChange fnTellAddRaftVoterRequestWrong)

/-- 'laws.FnTellConsumerGroupHeartbeatResponse': WHATEVER THE INPUT: true; the input reads as it did. -/
def fnTellConsumerGroupHeartbeatResponseSpec : ChangeSpec := { name := "fnTellConsumerGroupHeartbeatResponse", fn := fun _ => fun
  | [d1, d2] => { results := [.lit (.bool true)], args := [d1, d2] }
  | _ => none }
def fnTellConsumerGroupHeartbeatResponseRow : OpenClaim := { program := "ytekafeogilbjmaagreatdoor", sum := "ef4871dd446ab0a7d406aee890506a9e1e69d25784600d76e12b31bf7ad012f0", func := "pub-mailsack/laws.FnTellConsumerGroupHeartbeatResponse", spec := "fnTellConsumerGroupHeartbeatResponse", inPlace := ["internal/reflectlite.ValueOf", "internal/reflectlite.Swapper", "(internal/reflectlite.Value).Len"], unfollowed := true, recurses := true, named := ["encoding/binary.BigEndian", "pub-mailsack/pub/kmsg/inner/kbin.ErrNotEnoughData"], loops := true, apart := false, laid := [("pub-mailsack/pub/kmsg/inner/kbin.ErrNotEnoughData", laid_pub_mailsack_pub_kmsg_inner_kbin_ErrNotEnoughData)] }
def FnTellConsumerGroupHeartbeatResponseSaid : Prop := fnTellConsumerGroupHeartbeatResponseRow.holds Tryz.pinned (OpenSpec.ofChange fnTellConsumerGroupHeartbeatResponseSpec)

/-- ITS FALSE NEIGHBOUR: 'it returns false'. Refute it at one input. -/
def fnTellConsumerGroupHeartbeatResponseWrong : ChangeSpec := { name := "fnTellConsumerGroupHeartbeatResponse", fn := fun _ => fun
  | [d1, d2] => { results := [.lit (.bool false)], args := [d1, d2] }
  | _ => none }
def FnTellConsumerGroupHeartbeatResponseWrongFalsely : Prop := fnTellConsumerGroupHeartbeatResponseRow.holds Tryz.pinned (OpenSpec.ofChange fnTellConsumerGroupHeartbeatResponseWrong)

/-- 'laws.FnTellControllerRegistrationRequest': WHATEVER THE INPUT: true; the input reads as it did. -/
def fnTellControllerRegistrationRequestSpec : ChangeSpec := { name := "fnTellControllerRegistrationRequest", fn := fun _ => fun
  | [d1, d2] => { results := [.lit (.bool true)], args := [d1, d2] }
  | _ => none }
def fnTellControllerRegistrationRequestRow : OpenClaim := { program := "ytekafeogilbjmaagreatdoor", sum := "ef4871dd446ab0a7d406aee890506a9e1e69d25784600d76e12b31bf7ad012f0", func := "pub-mailsack/laws.FnTellControllerRegistrationRequest", spec := "fnTellControllerRegistrationRequest", inPlace := ["internal/reflectlite.ValueOf", "internal/reflectlite.Swapper", "(internal/reflectlite.Value).Len"], unfollowed := true, recurses := true, named := ["encoding/binary.BigEndian", "pub-mailsack/pub/kmsg/inner/kbin.ErrNotEnoughData"], loops := true, apart := false, laid := [("pub-mailsack/pub/kmsg/inner/kbin.ErrNotEnoughData", laid_pub_mailsack_pub_kmsg_inner_kbin_ErrNotEnoughData)] }
def FnTellControllerRegistrationRequestSaid : Prop := fnTellControllerRegistrationRequestRow.holds Tryz.pinned (OpenSpec.ofChange fnTellControllerRegistrationRequestSpec)

/-- ITS FALSE NEIGHBOUR: 'it returns false'. Refute it at one input. -/
def fnTellControllerRegistrationRequestWrong : ChangeSpec := { name := "fnTellControllerRegistrationRequest", fn := fun _ => fun
  | [d1, d2] => { results := [.lit (.bool false)], args := [d1, d2] }
  | _ => none }
def FnTellControllerRegistrationRequestWrongFalsely : Prop := fnTellControllerRegistrationRequestRow.holds Tryz.pinned (OpenSpec.ofChange fnTellControllerRegistrationRequestWrong)

/-- 'laws.FnTellShareAcknowledgeRequest': WHATEVER THE INPUT: true; the input reads as it did. -/
def fnTellShareAcknowledgeRequestSpec : ChangeSpec := { name := "fnTellShareAcknowledgeRequest", fn := fun _ => fun
  | [d1, d2] => { results := [.lit (.bool true)], args := [d1, d2] }
  | _ => none }
def fnTellShareAcknowledgeRequestRow : OpenClaim := { program := "ytekafeogilbjmaagreatdoor", sum := "ef4871dd446ab0a7d406aee890506a9e1e69d25784600d76e12b31bf7ad012f0", func := "pub-mailsack/laws.FnTellShareAcknowledgeRequest", spec := "fnTellShareAcknowledgeRequest", inPlace := ["internal/reflectlite.ValueOf", "internal/reflectlite.Swapper", "(internal/reflectlite.Value).Len"], unfollowed := true, recurses := true, named := ["encoding/binary.BigEndian", "pub-mailsack/pub/kmsg/inner/kbin.ErrNotEnoughData"], loops := true, apart := false, laid := [("pub-mailsack/pub/kmsg/inner/kbin.ErrNotEnoughData", laid_pub_mailsack_pub_kmsg_inner_kbin_ErrNotEnoughData)] }
def FnTellShareAcknowledgeRequestSaid : Prop := fnTellShareAcknowledgeRequestRow.holds Tryz.pinned (OpenSpec.ofChange fnTellShareAcknowledgeRequestSpec)

/-- ITS FALSE NEIGHBOUR: 'it returns false'. Refute it at one input. -/
def fnTellShareAcknowledgeRequestWrong : ChangeSpec := { name := "fnTellShareAcknowledgeRequest", fn := fun _ => fun
  | [d1, d2] => { results := [.lit (.bool false)], args := [d1, d2] }
  | _ => none }
def FnTellShareAcknowledgeRequestWrongFalsely : Prop := fnTellShareAcknowledgeRequestRow.holds Tryz.pinned (OpenSpec.ofChange fnTellShareAcknowledgeRequestWrong)

/- THE SECOND FORM. 'bulk': how many values and letters a reading holds, each counted each time it is reached (what is shared counts as often as it is met; a slice's spare places count too). A statement '..UptoSaid' is the law's where the arguments, and the package variables that the reading takes, are together of bulk at most 1048576: NARROWER than '..Said'. Prove '..Said' where nothing that the law and all that it calls make is longer than what came in: it says more and counts as full. Else prove '..UptoSaid'. A law counts once. -/
mutual
def uptoBulk {H : Type} : DataW H → Nat
  | .lit (.string bytes) => bytes.length + 1
  | .lit _ => 1
  | .nil => 1
  | .ptr d => uptoBulk d + 1
  | .slice elems spare => uptoBulkAll elems + uptoBulkAll spare + 1
  | .agg parts => uptoBulkAll parts + 1
  | .iface _ d => uptoBulk d + 1
  | .map entries => uptoBulkEntries entries + 1
  | .held _ => 1
def uptoBulkAll {H : Type} : List (DataW H) → Nat
  | [] => 0
  | d :: r => uptoBulk d + uptoBulkAll r
def uptoBulkEntries {H : Type} : List (Lit × DataW H) → Nat
  | [] => 0
  | x :: r => uptoBulkEntry x + uptoBulkEntries r
def uptoBulkEntry {H : Type} : Lit × DataW H → Nat
  | (.string bytes, d) => bytes.length + uptoBulk d + 1
  | (_, d) => uptoBulk d + 1
 end
def uptoSmall : (H : Type) → List (DataW H) → Bool := fun _ ds => decide (uptoBulkAll ds ≤ 1048576)
def OpenSpec.upto (s : _root_.Go.ChangeSpec) : _root_.Go.OpenSpec := { _root_.Go.OpenSpec.ofChange s with cond := some uptoSmall }

/-- 'laws.FnTellCreateACLsResponse', WHERE WHAT IT READS IS OF BULK AT MOST 1048576: true; the input reads as it did. -/
def fnTellCreateACLsResponseUptoRow : OpenClaim := { program := "ytekafeogilbjmaagreatdoor", sum := "ef4871dd446ab0a7d406aee890506a9e1e69d25784600d76e12b31bf7ad012f0", func := "pub-mailsack/laws.FnTellCreateACLsResponse", spec := "fnTellCreateACLsResponse", inPlace := ["internal/reflectlite.ValueOf", "internal/reflectlite.Swapper", "(internal/reflectlite.Value).Len"], unfollowed := true, recurses := true, named := ["encoding/binary.BigEndian", "pub-mailsack/pub/kmsg/inner/kbin.ErrNotEnoughData"], loops := true, apart := false, laid := [("pub-mailsack/pub/kmsg/inner/kbin.ErrNotEnoughData", laid_pub_mailsack_pub_kmsg_inner_kbin_ErrNotEnoughData)], narrowed := true }
def FnTellCreateACLsResponseUptoSaid : Prop := fnTellCreateACLsResponseUptoRow.holds Tryz.pinned (OpenSpec.upto fnTellCreateACLsResponseSpec)

/-- 'laws.FnTellElectLeadersRequest', WHERE WHAT IT READS IS OF BULK AT MOST 1048576: true; the input reads as it did. -/
def fnTellElectLeadersRequestUptoRow : OpenClaim := { program := "ytekafeogilbjmaagreatdoor", sum := "ef4871dd446ab0a7d406aee890506a9e1e69d25784600d76e12b31bf7ad012f0", func := "pub-mailsack/laws.FnTellElectLeadersRequest", spec := "fnTellElectLeadersRequest", inPlace := ["internal/reflectlite.ValueOf", "internal/reflectlite.Swapper", "(internal/reflectlite.Value).Len"], unfollowed := true, recurses := true, named := ["encoding/binary.BigEndian", "pub-mailsack/pub/kmsg/inner/kbin.ErrNotEnoughData"], loops := true, apart := false, laid := [("pub-mailsack/pub/kmsg/inner/kbin.ErrNotEnoughData", laid_pub_mailsack_pub_kmsg_inner_kbin_ErrNotEnoughData)], narrowed := true }
def FnTellElectLeadersRequestUptoSaid : Prop := fnTellElectLeadersRequestUptoRow.holds Tryz.pinned (OpenSpec.upto fnTellElectLeadersRequestSpec)

/-- 'laws.FnTellDeleteShareGroupStateRequest', WHERE WHAT IT READS IS OF BULK AT MOST 1048576: true; the input reads as it did. -/
def fnTellDeleteShareGroupStateRequestUptoRow : OpenClaim := { program := "ytekafeogilbjmaagreatdoor", sum := "ef4871dd446ab0a7d406aee890506a9e1e69d25784600d76e12b31bf7ad012f0", func := "pub-mailsack/laws.FnTellDeleteShareGroupStateRequest", spec := "fnTellDeleteShareGroupStateRequest", inPlace := ["internal/reflectlite.ValueOf", "internal/reflectlite.Swapper", "(internal/reflectlite.Value).Len"], unfollowed := true, recurses := true, named := ["encoding/binary.BigEndian", "pub-mailsack/pub/kmsg/inner/kbin.ErrNotEnoughData"], loops := true, apart := false, laid := [("pub-mailsack/pub/kmsg/inner/kbin.ErrNotEnoughData", laid_pub_mailsack_pub_kmsg_inner_kbin_ErrNotEnoughData)], narrowed := true }
def FnTellDeleteShareGroupStateRequestUptoSaid : Prop := fnTellDeleteShareGroupStateRequestUptoRow.holds Tryz.pinned (OpenSpec.upto fnTellDeleteShareGroupStateRequestSpec)

/-- 'laws.FnTellDescribeTopicPartitionsRequest', WHERE WHAT IT READS IS OF BULK AT MOST 1048576: true; the input reads as it did. -/
def fnTellDescribeTopicPartitionsRequestUptoRow : OpenClaim := { program := "ytekafeogilbjmaagreatdoor", sum := "ef4871dd446ab0a7d406aee890506a9e1e69d25784600d76e12b31bf7ad012f0", func := "pub-mailsack/laws.FnTellDescribeTopicPartitionsRequest", spec := "fnTellDescribeTopicPartitionsRequest", inPlace := ["internal/reflectlite.ValueOf", "internal/reflectlite.Swapper", "(internal/reflectlite.Value).Len"], unfollowed := true, recurses := true, named := ["encoding/binary.BigEndian", "pub-mailsack/pub/kmsg/inner/kbin.ErrNotEnoughData"], loops := true, apart := false, laid := [("pub-mailsack/pub/kmsg/inner/kbin.ErrNotEnoughData", laid_pub_mailsack_pub_kmsg_inner_kbin_ErrNotEnoughData)], narrowed := true }
def FnTellDescribeTopicPartitionsRequestUptoSaid : Prop := fnTellDescribeTopicPartitionsRequestUptoRow.holds Tryz.pinned (OpenSpec.upto fnTellDescribeTopicPartitionsRequestSpec)

/-- 'laws.FnTellShareGroupHeartbeatRequest', WHERE WHAT IT READS IS OF BULK AT MOST 1048576: true; the input reads as it did. -/
def fnTellShareGroupHeartbeatRequestUptoRow : OpenClaim := { program := "ytekafeogilbjmaagreatdoor", sum := "ef4871dd446ab0a7d406aee890506a9e1e69d25784600d76e12b31bf7ad012f0", func := "pub-mailsack/laws.FnTellShareGroupHeartbeatRequest", spec := "fnTellShareGroupHeartbeatRequest", inPlace := ["internal/reflectlite.ValueOf", "internal/reflectlite.Swapper", "(internal/reflectlite.Value).Len"], unfollowed := true, recurses := true, named := ["encoding/binary.BigEndian", "pub-mailsack/pub/kmsg/inner/kbin.ErrNotEnoughData"], loops := true, apart := false, laid := [("pub-mailsack/pub/kmsg/inner/kbin.ErrNotEnoughData", laid_pub_mailsack_pub_kmsg_inner_kbin_ErrNotEnoughData)], narrowed := true }
def FnTellShareGroupHeartbeatRequestUptoSaid : Prop := fnTellShareGroupHeartbeatRequestUptoRow.holds Tryz.pinned (OpenSpec.upto fnTellShareGroupHeartbeatRequestSpec)

/-- 'laws.FnTellLeaderAndISRResponse', WHERE WHAT IT READS IS OF BULK AT MOST 1048576: true; the input reads as it did. -/
def fnTellLeaderAndISRResponseUptoRow : OpenClaim := { program := "ytekafeogilbjmaagreatdoor", sum := "ef4871dd446ab0a7d406aee890506a9e1e69d25784600d76e12b31bf7ad012f0", func := "pub-mailsack/laws.FnTellLeaderAndISRResponse", spec := "fnTellLeaderAndISRResponse", inPlace := ["internal/reflectlite.ValueOf", "internal/reflectlite.Swapper", "(internal/reflectlite.Value).Len"], unfollowed := true, recurses := true, named := ["encoding/binary.BigEndian", "pub-mailsack/pub/kmsg/inner/kbin.ErrNotEnoughData"], loops := true, apart := false, laid := [("pub-mailsack/pub/kmsg/inner/kbin.ErrNotEnoughData", laid_pub_mailsack_pub_kmsg_inner_kbin_ErrNotEnoughData)], narrowed := true }
def FnTellLeaderAndISRResponseUptoSaid : Prop := fnTellLeaderAndISRResponseUptoRow.holds Tryz.pinned (OpenSpec.upto fnTellLeaderAndISRResponseSpec)

/-- 'laws.FnTellAddRaftVoterRequest', WHERE WHAT IT READS IS OF BULK AT MOST 1048576: true; the input reads as it did. -/
def fnTellAddRaftVoterRequestUptoRow : OpenClaim := { program := "ytekafeogilbjmaagreatdoor", sum := "ef4871dd446ab0a7d406aee890506a9e1e69d25784600d76e12b31bf7ad012f0", func := "pub-mailsack/laws.FnTellAddRaftVoterRequest", spec := "fnTellAddRaftVoterRequest", inPlace := ["internal/reflectlite.ValueOf", "internal/reflectlite.Swapper", "(internal/reflectlite.Value).Len"], unfollowed := true, recurses := true, named := ["encoding/binary.BigEndian", "pub-mailsack/pub/kmsg/inner/kbin.ErrNotEnoughData"], loops := true, apart := false, laid := [("pub-mailsack/pub/kmsg/inner/kbin.ErrNotEnoughData", laid_pub_mailsack_pub_kmsg_inner_kbin_ErrNotEnoughData)], narrowed := true }
def FnTellAddRaftVoterRequestUptoSaid : Prop := fnTellAddRaftVoterRequestUptoRow.holds Tryz.pinned (OpenSpec.upto fnTellAddRaftVoterRequestSpec)

/-- 'laws.FnTellConsumerGroupHeartbeatResponse', WHERE WHAT IT READS IS OF BULK AT MOST 1048576: true; the input reads as it did. -/
def fnTellConsumerGroupHeartbeatResponseUptoRow : OpenClaim := { program := "ytekafeogilbjmaagreatdoor", sum := "ef4871dd446ab0a7d406aee890506a9e1e69d25784600d76e12b31bf7ad012f0", func := "pub-mailsack/laws.FnTellConsumerGroupHeartbeatResponse", spec := "fnTellConsumerGroupHeartbeatResponse", inPlace := ["internal/reflectlite.ValueOf", "internal/reflectlite.Swapper", "(internal/reflectlite.Value).Len"], unfollowed := true, recurses := true, named := ["encoding/binary.BigEndian", "pub-mailsack/pub/kmsg/inner/kbin.ErrNotEnoughData"], loops := true, apart := false, laid := [("pub-mailsack/pub/kmsg/inner/kbin.ErrNotEnoughData", laid_pub_mailsack_pub_kmsg_inner_kbin_ErrNotEnoughData)], narrowed := true }
def FnTellConsumerGroupHeartbeatResponseUptoSaid : Prop := fnTellConsumerGroupHeartbeatResponseUptoRow.holds Tryz.pinned (OpenSpec.upto fnTellConsumerGroupHeartbeatResponseSpec)

/-- 'laws.FnTellControllerRegistrationRequest', WHERE WHAT IT READS IS OF BULK AT MOST 1048576: true; the input reads as it did. -/
def fnTellControllerRegistrationRequestUptoRow : OpenClaim := { program := "ytekafeogilbjmaagreatdoor", sum := "ef4871dd446ab0a7d406aee890506a9e1e69d25784600d76e12b31bf7ad012f0", func := "pub-mailsack/laws.FnTellControllerRegistrationRequest", spec := "fnTellControllerRegistrationRequest", inPlace := ["internal/reflectlite.ValueOf", "internal/reflectlite.Swapper", "(internal/reflectlite.Value).Len"], unfollowed := true, recurses := true, named := ["encoding/binary.BigEndian", "pub-mailsack/pub/kmsg/inner/kbin.ErrNotEnoughData"], loops := true, apart := false, laid := [("pub-mailsack/pub/kmsg/inner/kbin.ErrNotEnoughData", laid_pub_mailsack_pub_kmsg_inner_kbin_ErrNotEnoughData)], narrowed := true }
def FnTellControllerRegistrationRequestUptoSaid : Prop := fnTellControllerRegistrationRequestUptoRow.holds Tryz.pinned (OpenSpec.upto fnTellControllerRegistrationRequestSpec)

/-- 'laws.FnTellShareAcknowledgeRequest', WHERE WHAT IT READS IS OF BULK AT MOST 1048576: true; the input reads as it did. -/
def fnTellShareAcknowledgeRequestUptoRow : OpenClaim := { program := "ytekafeogilbjmaagreatdoor", sum := "ef4871dd446ab0a7d406aee890506a9e1e69d25784600d76e12b31bf7ad012f0", func := "pub-mailsack/laws.FnTellShareAcknowledgeRequest", spec := "fnTellShareAcknowledgeRequest", inPlace := ["internal/reflectlite.ValueOf", "internal/reflectlite.Swapper", "(internal/reflectlite.Value).Len"], unfollowed := true, recurses := true, named := ["encoding/binary.BigEndian", "pub-mailsack/pub/kmsg/inner/kbin.ErrNotEnoughData"], loops := true, apart := false, laid := [("pub-mailsack/pub/kmsg/inner/kbin.ErrNotEnoughData", laid_pub_mailsack_pub_kmsg_inner_kbin_ErrNotEnoughData)], narrowed := true }
def FnTellShareAcknowledgeRequestUptoSaid : Prop := fnTellShareAcknowledgeRequestUptoRow.holds Tryz.pinned (OpenSpec.upto fnTellShareAcknowledgeRequestSpec)

end Rows
end Go.Proofs.YtekafeogilbjmaaGreatDoor
