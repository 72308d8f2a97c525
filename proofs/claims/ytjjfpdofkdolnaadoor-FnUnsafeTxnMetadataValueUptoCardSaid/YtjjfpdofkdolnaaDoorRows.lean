/-
  NARROWER THAN 'FOR EVERY INPUT', by the rows' own cells (each row's printed sentence says how): FnUnsafeConsumerGroupDescribeRequest: laid · FnUnsafeListPartitionReassignmentsRequest: laid · FnUnsafeListGroupsResponse: laid · FnUnsafeAssignReplicasToDirsRequest: laid · FnUnsafeCreatePartitionsRequest: laid · FnUnsafeAlterPartitionResponse: laid · FnUnsafeTxnMetadataValue: laid.
  DERIVED. THE GIVEN ROWS OF THIS SEAT. 7 by the template 'for every input the law returns true; each argument reads behind the call as it read before'; 0 by the template 'total and deterministic' (their statements: YtjjfpdofkdolnaaDoorTotals.lean).
  GIVEN WITH THE SEED: the statements are not yours to turn. If you find one false, say at which input.
  Laid BY PROGRAM, IN A SANDBOX (cutbox-rows.mjs): the forced cells as the released guide's own fill.sh prints them over the translation ed8fda2ec103b253… (all of the seat's roots in one cut). By AI agents, Wed Nov 11 2026. No macro, syntax, notation, axiom, sorry.
-/
import Derived.Test.YtjjfpdofkdolnaaDoorChecked
import GoSem.Claim
import GoSem.ClaimJoined
import GoSem.ClaimMapViews
import Derived.JoinedTies
import Derived.KernelRfl
namespace Go.Proofs.YtjjfpdofkdolnaaDoor
/- THE CELL 'sum', in the pinned program and in every row, IS THE sha256 OF THE DUMP (.gsa) THAT YtjjfpdofkdolnaaDoorProg.lean LOADS. Nothing in Lean hashes anything: it is a label: what it is worth is what the hold of that sum in a sandbox is worth. -/
noncomputable def Tryd.pinned : Pinned := { name := "ytjjfpdofkdolnaadoor", sum := "ed8fda2ec103b253088793ed1a37302625a2f092923360f4fe0d663fb55f4865", checked := Tryd.checked }
namespace Rows
def none {H : Type} : Left H := { results := [], args := [] }

/- WHAT THE LISTED PACKAGE-LEVEL VARIABLES READ AS WHEN THE CALL BEGINS. Each datum BY PROGRAM (the guide's laid-datum.mjs) off the statement by which the dump's own 'gosem.cut.vars' lays the variable. In a bare row this is a premise. The card (YtjjfpdofkdolnaaDoorCards.lean) ties it to the program's text. -/
def laid_pub_mailsack_pub_kmsg_inner_kbin_ErrNotEnoughData {H : Type} : DataW H := .iface "*errors.errorString" (.ptr (.agg [.lit (.string [114, 101, 115, 112, 111, 110, 115, 101, 32, 100, 105, 100, 32, 110, 111, 116, 32, 99, 111, 110, 116, 97, 105, 110, 32, 101, 110, 111, 117, 103, 104, 32, 100, 97, 116, 97, 32, 116, 111, 32, 98, 101, 32, 118, 97, 108, 105, 100])]))

/-- 'laws.FnUnsafeConsumerGroupDescribeRequest': WHATEVER THE INPUT: true; the input reads as it did. -/
def fnUnsafeConsumerGroupDescribeRequestSpec : ChangeSpec := { name := "fnUnsafeConsumerGroupDescribeRequest", fn := fun _ => fun
  | [d1, d2] => { results := [.lit (.bool true)], args := [d1, d2] }
  | _ => none }
def fnUnsafeConsumerGroupDescribeRequestRow : OpenClaim := { program := "ytjjfpdofkdolnaadoor", sum := "ed8fda2ec103b253088793ed1a37302625a2f092923360f4fe0d663fb55f4865", func := "pub-mailsack/laws.FnUnsafeConsumerGroupDescribeRequest", spec := "fnUnsafeConsumerGroupDescribeRequest", inPlace := ["internal/reflectlite.ValueOf", "internal/reflectlite.Swapper", "(internal/reflectlite.Value).Len"], unfollowed := true, recurses := true, named := ["encoding/binary.BigEndian", "pub-mailsack/pub/kmsg/inner/kbin.ErrNotEnoughData"], apart := false, laid := [("pub-mailsack/pub/kmsg/inner/kbin.ErrNotEnoughData", laid_pub_mailsack_pub_kmsg_inner_kbin_ErrNotEnoughData)] }
def FnUnsafeConsumerGroupDescribeRequestSaid : Prop := fnUnsafeConsumerGroupDescribeRequestRow.holds Tryd.pinned (OpenSpec.ofChange fnUnsafeConsumerGroupDescribeRequestSpec)

/-- ITS FALSE NEIGHBOUR: 'it returns false'. Refute it at one input. -/
def fnUnsafeConsumerGroupDescribeRequestWrong : ChangeSpec := { name := "fnUnsafeConsumerGroupDescribeRequest", fn := fun _ => fun
  | [d1, d2] => { results := [.lit (.bool false)], args := [d1, d2] }
  | _ => none }
def FnUnsafeConsumerGroupDescribeRequestWrongFalsely : Prop := fnUnsafeConsumerGroupDescribeRequestRow.holds Tryd.pinned (OpenSpec.ofChange fnUnsafeConsumerGroupDescribeRequestWrong)

/-- 'laws.FnUnsafeListPartitionReassignmentsRequest': WHATEVER THE INPUT: true; the input reads as it did. -/
def fnUnsafeListPartitionReassignmentsRequestSpec : ChangeSpec := { name := "fnUnsafeListPartitionReassignmentsRequest", fn := fun _ => fun
  | [d1, d2] => { results := [.lit (.bool true)], args := [d1, d2] }
  | _ => none }
def fnUnsafeListPartitionReassignmentsRequestRow : OpenClaim := { program := "ytjjfpdofkdolnaadoor", sum := "ed8fda2ec103b253088793ed1a37302625a2f092923360f4fe0d663fb55f4865", func := "pub-mailsack/laws.FnUnsafeListPartitionReassignmentsRequest", spec := "fnUnsafeListPartitionReassignmentsRequest", inPlace := ["internal/reflectlite.ValueOf", "internal/reflectlite.Swapper", "(internal/reflectlite.Value).Len"], unfollowed := true, recurses := true, named := ["encoding/binary.BigEndian", "pub-mailsack/pub/kmsg/inner/kbin.ErrNotEnoughData"], apart := false, laid := [("pub-mailsack/pub/kmsg/inner/kbin.ErrNotEnoughData", laid_pub_mailsack_pub_kmsg_inner_kbin_ErrNotEnoughData)] }
def FnUnsafeListPartitionReassignmentsRequestSaid : Prop := fnUnsafeListPartitionReassignmentsRequestRow.holds Tryd.pinned (OpenSpec.ofChange fnUnsafeListPartitionReassignmentsRequestSpec)

/-- ITS FALSE NEIGHBOUR: 'it returns false'. Refute it at one input. -/
def fnUnsafeListPartitionReassignmentsRequestWrong : ChangeSpec := { name := "fnUnsafeListPartitionReassignmentsRequest", fn := fun _ => fun
  | [d1, d2] => { results := [.lit (.bool false)], args := [d1, d2] }
  | _ => none }
def FnUnsafeListPartitionReassignmentsRequestWrongFalsely : Prop := fnUnsafeListPartitionReassignmentsRequestRow.holds Tryd.pinned (OpenSpec.ofChange fnUnsafeListPartitionReassignmentsRequestWrong)

/-- 'laws.FnUnsafeListGroupsResponse': WHATEVER THE INPUT: true; the input reads as it did. -/
def fnUnsafeListGroupsResponseSpec : ChangeSpec := { name := "fnUnsafeListGroupsResponse", fn := fun _ => fun
  | [d1, d2] => { results := [.lit (.bool true)], args := [d1, d2] }
  | _ => none }
def fnUnsafeListGroupsResponseRow : OpenClaim := { program := "ytjjfpdofkdolnaadoor", sum := "ed8fda2ec103b253088793ed1a37302625a2f092923360f4fe0d663fb55f4865", func := "pub-mailsack/laws.FnUnsafeListGroupsResponse", spec := "fnUnsafeListGroupsResponse", inPlace := ["internal/reflectlite.ValueOf", "internal/reflectlite.Swapper", "(internal/reflectlite.Value).Len"], unfollowed := true, recurses := true, named := ["encoding/binary.BigEndian", "pub-mailsack/pub/kmsg/inner/kbin.ErrNotEnoughData"], apart := false, laid := [("pub-mailsack/pub/kmsg/inner/kbin.ErrNotEnoughData", laid_pub_mailsack_pub_kmsg_inner_kbin_ErrNotEnoughData)] }
def FnUnsafeListGroupsResponseSaid : Prop := fnUnsafeListGroupsResponseRow.holds Tryd.pinned (OpenSpec.ofChange fnUnsafeListGroupsResponseSpec)

/-- ITS FALSE NEIGHBOUR: 'it returns false'. Refute it at one input. -/
def fnUnsafeListGroupsResponseWrong : ChangeSpec := { name := "fnUnsafeListGroupsResponse", fn := fun _ => fun
  | [d1, d2] => { results := [.lit (.bool false)], args := [d1, d2] }
  | _ => none }
def FnUnsafeListGroupsResponseWrongFalsely : Prop := fnUnsafeListGroupsResponseRow.holds Tryd.pinned (OpenSpec.ofChange fnUnsafeListGroupsResponseWrong)

/-- 'laws.FnUnsafeAssignReplicasToDirsRequest': WHATEVER THE INPUT: true; the input reads as it did. -/
def fnUnsafeAssignReplicasToDirsRequestSpec : ChangeSpec := { name := "fnUnsafeAssignReplicasToDirsRequest", fn := fun _ => fun
  | [d1, d2] => { results := [.lit (.bool true)], args := [d1, d2] }
  | _ => none }
def fnUnsafeAssignReplicasToDirsRequestRow : OpenClaim := { program := "ytjjfpdofkdolnaadoor", sum := "ed8fda2ec103b253088793ed1a37302625a2f092923360f4fe0d663fb55f4865", func := "pub-mailsack/laws.FnUnsafeAssignReplicasToDirsRequest", spec := "fnUnsafeAssignReplicasToDirsRequest", inPlace := ["internal/reflectlite.ValueOf", "internal/reflectlite.Swapper", "(internal/reflectlite.Value).Len"], unfollowed := true, recurses := true, named := ["encoding/binary.BigEndian", "pub-mailsack/pub/kmsg/inner/kbin.ErrNotEnoughData"], apart := false, laid := [("pub-mailsack/pub/kmsg/inner/kbin.ErrNotEnoughData", laid_pub_mailsack_pub_kmsg_inner_kbin_ErrNotEnoughData)] }
def FnUnsafeAssignReplicasToDirsRequestSaid : Prop := fnUnsafeAssignReplicasToDirsRequestRow.holds Tryd.pinned (OpenSpec.ofChange fnUnsafeAssignReplicasToDirsRequestSpec)

/-- ITS FALSE NEIGHBOUR: 'it returns false'. Refute it at one input. -/
def fnUnsafeAssignReplicasToDirsRequestWrong : ChangeSpec := { name := "fnUnsafeAssignReplicasToDirsRequest", fn := fun _ => fun
  | [d1, d2] => { results := [.lit (.bool false)], args := [d1, d2] }
  | _ => none }
def FnUnsafeAssignReplicasToDirsRequestWrongFalsely : Prop := fnUnsafeAssignReplicasToDirsRequestRow.holds Tryd.pinned (OpenSpec.ofChange fnUnsafeAssignReplicasToDirsRequestWrong)

/-- 'laws.FnUnsafeCreatePartitionsRequest': WHATEVER THE INPUT: true; the input reads as it did. -/
def fnUnsafeCreatePartitionsRequestSpec : ChangeSpec := { name := "fnUnsafeCreatePartitionsRequest", fn := fun _ => fun
  | [d1, d2] => { results := [.lit (.bool true)], args := [d1, d2] }
  | _ => none }
def fnUnsafeCreatePartitionsRequestRow : OpenClaim := { program := "ytjjfpdofkdolnaadoor", sum := "ed8fda2ec103b253088793ed1a37302625a2f092923360f4fe0d663fb55f4865", func := "pub-mailsack/laws.FnUnsafeCreatePartitionsRequest", spec := "fnUnsafeCreatePartitionsRequest", inPlace := ["internal/reflectlite.ValueOf", "internal/reflectlite.Swapper", "(internal/reflectlite.Value).Len"], unfollowed := true, recurses := true, named := ["encoding/binary.BigEndian", "pub-mailsack/pub/kmsg/inner/kbin.ErrNotEnoughData"], apart := false, laid := [("pub-mailsack/pub/kmsg/inner/kbin.ErrNotEnoughData", laid_pub_mailsack_pub_kmsg_inner_kbin_ErrNotEnoughData)] }
def FnUnsafeCreatePartitionsRequestSaid : Prop := fnUnsafeCreatePartitionsRequestRow.holds Tryd.pinned (OpenSpec.ofChange fnUnsafeCreatePartitionsRequestSpec)

/-- ITS FALSE NEIGHBOUR: 'it returns false'. Refute it at one input. -/
def fnUnsafeCreatePartitionsRequestWrong : ChangeSpec := { name := "fnUnsafeCreatePartitionsRequest", fn := fun _ => fun
  | [d1, d2] => { results := [.lit (.bool false)], args := [d1, d2] }
  | _ => none }
def FnUnsafeCreatePartitionsRequestWrongFalsely : Prop := fnUnsafeCreatePartitionsRequestRow.holds Tryd.pinned (OpenSpec.ofChange fnUnsafeCreatePartitionsRequestWrong)

/-- 'laws.FnUnsafeAlterPartitionResponse': WHATEVER THE INPUT: true; the input reads as it did. -/
def fnUnsafeAlterPartitionResponseSpec : ChangeSpec := { name := "fnUnsafeAlterPartitionResponse", fn := fun _ => fun
  | [d1, d2] => { results := [.lit (.bool true)], args := [d1, d2] }
  | _ => none }
def fnUnsafeAlterPartitionResponseRow : OpenClaim := { program := "ytjjfpdofkdolnaadoor", sum := "ed8fda2ec103b253088793ed1a37302625a2f092923360f4fe0d663fb55f4865", func := "pub-mailsack/laws.FnUnsafeAlterPartitionResponse", spec := "fnUnsafeAlterPartitionResponse", inPlace := ["internal/reflectlite.ValueOf", "internal/reflectlite.Swapper", "(internal/reflectlite.Value).Len"], unfollowed := true, recurses := true, named := ["encoding/binary.BigEndian", "pub-mailsack/pub/kmsg/inner/kbin.ErrNotEnoughData"], apart := false, laid := [("pub-mailsack/pub/kmsg/inner/kbin.ErrNotEnoughData", laid_pub_mailsack_pub_kmsg_inner_kbin_ErrNotEnoughData)] }
def FnUnsafeAlterPartitionResponseSaid : Prop := fnUnsafeAlterPartitionResponseRow.holds Tryd.pinned (OpenSpec.ofChange fnUnsafeAlterPartitionResponseSpec)

/-- ITS FALSE NEIGHBOUR: 'it returns false'. Refute it at one input. -/
def fnUnsafeAlterPartitionResponseWrong : ChangeSpec := { name := "fnUnsafeAlterPartitionResponse", fn := fun _ => fun
  | [d1, d2] => { results := [.lit (.bool false)], args := [d1, d2] }
  | _ => none }
def FnUnsafeAlterPartitionResponseWrongFalsely : Prop := fnUnsafeAlterPartitionResponseRow.holds Tryd.pinned (OpenSpec.ofChange fnUnsafeAlterPartitionResponseWrong)

/-- 'laws.FnUnsafeTxnMetadataValue': WHATEVER THE INPUT: true; the input reads as it did. -/
def fnUnsafeTxnMetadataValueSpec : ChangeSpec := { name := "fnUnsafeTxnMetadataValue", fn := fun _ => fun
  | [d] => { results := [.lit (.bool true)], args := [d] }
  | _ => none }
def fnUnsafeTxnMetadataValueRow : OpenClaim := { program := "ytjjfpdofkdolnaadoor", sum := "ed8fda2ec103b253088793ed1a37302625a2f092923360f4fe0d663fb55f4865", func := "pub-mailsack/laws.FnUnsafeTxnMetadataValue", spec := "fnUnsafeTxnMetadataValue", inPlace := ["internal/reflectlite.ValueOf", "internal/reflectlite.Swapper", "(internal/reflectlite.Value).Len"], unfollowed := true, recurses := true, named := ["encoding/binary.BigEndian", "pub-mailsack/pub/kmsg/inner/kbin.ErrNotEnoughData"], apart := false, laid := [("pub-mailsack/pub/kmsg/inner/kbin.ErrNotEnoughData", laid_pub_mailsack_pub_kmsg_inner_kbin_ErrNotEnoughData)] }
def FnUnsafeTxnMetadataValueSaid : Prop := fnUnsafeTxnMetadataValueRow.holds Tryd.pinned (OpenSpec.ofChange fnUnsafeTxnMetadataValueSpec)

/-- ITS FALSE NEIGHBOUR: 'it returns false'. Refute it at one input. -/
def fnUnsafeTxnMetadataValueWrong : ChangeSpec := { name := "fnUnsafeTxnMetadataValue", fn := fun _ => fun
  | [d] => { results := [.lit (.bool false)], args := [d] }
  | _ => none }
def FnUnsafeTxnMetadataValueWrongFalsely : Prop := fnUnsafeTxnMetadataValueRow.holds Tryd.pinned (OpenSpec.ofChange fnUnsafeTxnMetadataValueWrong)

/- THE SECOND FORM. 'bulk': how many values and letters a reading holds, each counted each time it is reached (what is shared counts as often as it is met; a slice's spare places count too). A statement '..UptoSaid' is the law's where the arguments, and the package variables that the reading takes, are together of bulk at most 1048576: NARROWER than '..Said'. Prove '..Said' where nothing that the law and all that it calls make is longer than what came in: it says more and counts as full. Else prove '..UptoSaid'. A law counts once. -/
mutual
def uptoBulk {H : Type} : DataW H → Nat
  | .lit (.string bytes) => bytes.length + 1
  | .lit _ => 1
  | .nil => 1
  | .ptr d => uptoBulk d + 1
  | .slice elems spare => uptoBulkAll elems + uptoBulkAll spare + 1
  | .agg parts => uptoBulkAll parts + 1
  | .iface _ d => uptoBulk d + 1
  | .map entries => uptoBulkEntries entries + 1
  | .held _ => 1
def uptoBulkAll {H : Type} : List (DataW H) → Nat
  | [] => 0
  | d :: r => uptoBulk d + uptoBulkAll r
def uptoBulkEntries {H : Type} : List (Lit × DataW H) → Nat
  | [] => 0
  | x :: r => uptoBulkEntry x + uptoBulkEntries r
def uptoBulkEntry {H : Type} : Lit × DataW H → Nat
  | (.string bytes, d) => bytes.length + uptoBulk d + 1
  | (_, d) => uptoBulk d + 1
 end
def uptoSmall : (H : Type) → List (DataW H) → Bool := fun _ ds => decide (uptoBulkAll ds ≤ 1048576)
def OpenSpec.upto (s : _root_.Go.ChangeSpec) : _root_.Go.OpenSpec := { _root_.Go.OpenSpec.ofChange s with cond := some uptoSmall }

/-- 'laws.FnUnsafeConsumerGroupDescribeRequest', WHERE WHAT IT READS IS OF BULK AT MOST 1048576: true; the input reads as it did. -/
def fnUnsafeConsumerGroupDescribeRequestUptoRow : OpenClaim := { program := "ytjjfpdofkdolnaadoor", sum := "ed8fda2ec103b253088793ed1a37302625a2f092923360f4fe0d663fb55f4865", func := "pub-mailsack/laws.FnUnsafeConsumerGroupDescribeRequest", spec := "fnUnsafeConsumerGroupDescribeRequest", inPlace := ["internal/reflectlite.ValueOf", "internal/reflectlite.Swapper", "(internal/reflectlite.Value).Len"], unfollowed := true, recurses := true, named := ["encoding/binary.BigEndian", "pub-mailsack/pub/kmsg/inner/kbin.ErrNotEnoughData"], apart := false, laid := [("pub-mailsack/pub/kmsg/inner/kbin.ErrNotEnoughData", laid_pub_mailsack_pub_kmsg_inner_kbin_ErrNotEnoughData)], narrowed := true }
def FnUnsafeConsumerGroupDescribeRequestUptoSaid : Prop := fnUnsafeConsumerGroupDescribeRequestUptoRow.holds Tryd.pinned (OpenSpec.upto fnUnsafeConsumerGroupDescribeRequestSpec)

/-- 'laws.FnUnsafeListPartitionReassignmentsRequest', WHERE WHAT IT READS IS OF BULK AT MOST 1048576: true; the input reads as it did. -/
def fnUnsafeListPartitionReassignmentsRequestUptoRow : OpenClaim := { program := "ytjjfpdofkdolnaadoor", sum := "ed8fda2ec103b253088793ed1a37302625a2f092923360f4fe0d663fb55f4865", func := "pub-mailsack/laws.FnUnsafeListPartitionReassignmentsRequest", spec := "fnUnsafeListPartitionReassignmentsRequest", inPlace := ["internal/reflectlite.ValueOf", "internal/reflectlite.Swapper", "(internal/reflectlite.Value).Len"], unfollowed := true, recurses := true, named := ["encoding/binary.BigEndian", "pub-mailsack/pub/kmsg/inner/kbin.ErrNotEnoughData"], apart := false, laid := [("pub-mailsack/pub/kmsg/inner/kbin.ErrNotEnoughData", laid_pub_mailsack_pub_kmsg_inner_kbin_ErrNotEnoughData)], narrowed := true }
def FnUnsafeListPartitionReassignmentsRequestUptoSaid : Prop := fnUnsafeListPartitionReassignmentsRequestUptoRow.holds Tryd.pinned (OpenSpec.upto fnUnsafeListPartitionReassignmentsRequestSpec)

/-- 'laws.FnUnsafeListGroupsResponse', WHERE WHAT IT READS IS OF BULK AT MOST 1048576: true; the input reads as it did. -/
def fnUnsafeListGroupsResponseUptoRow : OpenClaim := { program := "ytjjfpdofkdolnaadoor", sum := "ed8fda2ec103b253088793ed1a37302625a2f092923360f4fe0d663fb55f4865", func := "pub-mailsack/laws.FnUnsafeListGroupsResponse", spec := "fnUnsafeListGroupsResponse", inPlace := ["internal/reflectlite.ValueOf", "internal/reflectlite.Swapper", "(internal/reflectlite.Value).Len"], unfollowed := true, recurses := true, named := ["encoding/binary.BigEndian", "pub-mailsack/pub/kmsg/inner/kbin.ErrNotEnoughData"], apart := false, laid := [("pub-mailsack/pub/kmsg/inner/kbin.ErrNotEnoughData", laid_pub_mailsack_pub_kmsg_inner_kbin_ErrNotEnoughData)], narrowed := true }
def FnUnsafeListGroupsResponseUptoSaid : Prop := fnUnsafeListGroupsResponseUptoRow.holds Tryd.pinned (OpenSpec.upto fnUnsafeListGroupsResponseSpec)

/-- 'laws.FnUnsafeAssignReplicasToDirsRequest', WHERE WHAT IT READS IS OF BULK AT MOST 1048576: true; the input reads as it did. -/
def fnUnsafeAssignReplicasToDirsRequestUptoRow : OpenClaim := { program := "ytjjfpdofkdolnaadoor", sum := "ed8fda2ec103b253088793ed1a37302625a2f092923360f4fe0d663fb55f4865", func := "pub-mailsack/laws.FnUnsafeAssignReplicasToDirsRequest", spec := "fnUnsafeAssignReplicasToDirsRequest", inPlace := ["internal/reflectlite.ValueOf", "internal/reflectlite.Swapper", "(internal/reflectlite.Value).Len"], unfollowed := true, recurses := true, named := ["encoding/binary.BigEndian", "pub-mailsack/pub/kmsg/inner/kbin.ErrNotEnoughData"], apart := false, laid := [("pub-mailsack/pub/kmsg/inner/kbin.ErrNotEnoughData", laid_pub_mailsack_pub_kmsg_inner_kbin_ErrNotEnoughData)], narrowed := true }
def FnUnsafeAssignReplicasToDirsRequestUptoSaid : Prop := fnUnsafeAssignReplicasToDirsRequestUptoRow.holds Tryd.pinned (OpenSpec.upto fnUnsafeAssignReplicasToDirsRequestSpec)

/-- 'laws.FnUnsafeCreatePartitionsRequest', WHERE WHAT IT READS IS OF BULK AT MOST 1048576: true; the input reads as it did. -/
def fnUnsafeCreatePartitionsRequestUptoRow : OpenClaim := { program := "ytjjfpdofkdolnaadoor", sum := "ed8fda2ec103b253088793ed1a37302625a2f092923360f4fe0d663fb55f4865", func := "pub-mailsack/laws.FnUnsafeCreatePartitionsRequest", spec := "fnUnsafeCreatePartitionsRequest", inPlace := ["internal/reflectlite.ValueOf", "internal/reflectlite.Swapper", "(internal/reflectlite.Value).Len"], unfollowed := true, recurses := true, named := ["encoding/binary.BigEndian", "pub-mailsack/pub/kmsg/inner/kbin.ErrNotEnoughData"], apart := false, laid := [("pub-mailsack/pub/kmsg/inner/kbin.ErrNotEnoughData", laid_pub_mailsack_pub_kmsg_inner_kbin_ErrNotEnoughData)], narrowed := true }
def FnUnsafeCreatePartitionsRequestUptoSaid : Prop := fnUnsafeCreatePartitionsRequestUptoRow.holds Tryd.pinned (OpenSpec.upto fnUnsafeCreatePartitionsRequestSpec)

/-- 'laws.FnUnsafeAlterPartitionResponse', WHERE WHAT IT READS IS OF BULK AT MOST 1048576: true; the input reads as it did. -/
def fnUnsafeAlterPartitionResponseUptoRow : OpenClaim := { program := "ytjjfpdofkdolnaadoor", sum := "ed8fda2ec103b253088793ed1a37302625a2f092923360f4fe0d663fb55f4865", func := "pub-mailsack/laws.FnUnsafeAlterPartitionResponse", spec := "fnUnsafeAlterPartitionResponse", inPlace := ["internal/reflectlite.ValueOf", "internal/reflectlite.Swapper", "(internal/reflectlite.Value).Len"], unfollowed := true, recurses := true, named := ["encoding/binary.BigEndian", "pub-mailsack/pub/kmsg/inner/kbin.ErrNotEnoughData"], apart := false, laid := [("pub-mailsack/pub/kmsg/inner/kbin.ErrNotEnoughData", laid_pub_mailsack_pub_kmsg_inner_kbin_ErrNotEnoughData)], narrowed := true }
def FnUnsafeAlterPartitionResponseUptoSaid : Prop := fnUnsafeAlterPartitionResponseUptoRow.holds Tryd.pinned (OpenSpec.upto fnUnsafeAlterPartitionResponseSpec)

/-- 'laws.FnUnsafeTxnMetadataValue', WHERE WHAT IT READS IS OF BULK AT MOST 1048576: true; the input reads as it did. -/
def fnUnsafeTxnMetadataValueUptoRow : OpenClaim := { program := "ytjjfpdofkdolnaadoor", sum := "ed8fda2ec103b253088793ed1a37302625a2f092923360f4fe0d663fb55f4865", func := "pub-mailsack/laws.FnUnsafeTxnMetadataValue", spec := "fnUnsafeTxnMetadataValue", inPlace := ["internal/reflectlite.ValueOf", "internal/reflectlite.Swapper", "(internal/reflectlite.Value).Len"], unfollowed := true, recurses := true, named := ["encoding/binary.BigEndian", "pub-mailsack/pub/kmsg/inner/kbin.ErrNotEnoughData"], apart := false, laid := [("pub-mailsack/pub/kmsg/inner/kbin.ErrNotEnoughData", laid_pub_mailsack_pub_kmsg_inner_kbin_ErrNotEnoughData)], narrowed := true }
def FnUnsafeTxnMetadataValueUptoSaid : Prop := fnUnsafeTxnMetadataValueUptoRow.holds Tryd.pinned (OpenSpec.upto fnUnsafeTxnMetadataValueSpec)

end Rows
end Go.Proofs.YtjjfpdofkdolnaaDoor
