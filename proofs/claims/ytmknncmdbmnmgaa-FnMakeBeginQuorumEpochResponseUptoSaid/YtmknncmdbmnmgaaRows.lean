/-
  NARROWER THAN 'FOR EVERY INPUT', by the rows' own cells (each row's printed sentence says how): FnMakeLeaderChangeMessage: loops · FnMakeSASLAuthenticateResponse: loops · FnMakeUpdateFeaturesRequest: loops · FnMakeOffsetForLeaderEpochRequest: loops · FnMakeIncrementalAlterConfigsResponse: loops · FnMakeDescribeClientQuotasRequest: loops · FnMakeListTransactionsResponse: loops · FnMakeDeleteRecordsResponse: loops · FnMakeDeleteTopicsResponse: loops · FnMakeAlterConfigsRequest: loops · FnMakeDescribeTransactionsResponse: loops · FnMakeBeginQuorumEpochResponse: loops.
  DERIVED. THE GIVEN ROWS OF THIS SEAT. 12 by the template 'for every input the law returns true; each argument reads behind the call as it read before'; 0 by the template 'total and deterministic' (their statements: YtmknncmdbmnmgaaTotals.lean).
  GIVEN WITH THE SEED: the statements are not yours to turn. If you find one false, say at which input.
  Laid BY PROGRAM, IN A SANDBOX (cutbox-rows.mjs): the forced cells as the released guide's own fill.sh prints them over the translation 21623eacdeacf409… (all of the seat's roots in one cut). By AI agents, Wed Nov 11 2026. No macro, syntax, notation, axiom, sorry.
-/
import Derived.Test.YtmknncmdbmnmgaaChecked
import GoSem.Claim
import GoSem.ClaimJoined
import GoSem.ClaimMapViews
import Derived.JoinedTies
import Derived.KernelRfl
namespace Go.Proofs.Ytmknncmdbmnmgaa
/- THE CELL 'sum', in the pinned program and in every row, IS THE sha256 OF THE DUMP (.gsa) THAT YtmknncmdbmnmgaaProg.lean LOADS. Nothing in Lean hashes anything: it is a label: what it is worth is what the hold of that sum in a sandbox is worth. -/
noncomputable def Try.pinned : Pinned := { name := "ytmknncmdbmnmgaa", sum := "21623eacdeacf409120461e1d769b343f930fa548fa9eb578ee26ec33321307b", checked := Try.checked }
namespace Rows
def none {H : Type} : Left H := { results := [], args := [] }

/-- 'laws.FnMakeLeaderChangeMessage': WHATEVER THE INPUT: true; the input reads as it did. -/
def fnMakeLeaderChangeMessageSpec : ChangeSpec := { name := "fnMakeLeaderChangeMessage", fn := fun _ => fun
  | [d1, d2] => { results := [.lit (.bool true)], args := [d1, d2] }
  | _ => none }
def fnMakeLeaderChangeMessageRow : OpenClaim := { program := "ytmknncmdbmnmgaa", sum := "21623eacdeacf409120461e1d769b343f930fa548fa9eb578ee26ec33321307b", func := "pub-mailsack/laws.FnMakeLeaderChangeMessage", spec := "fnMakeLeaderChangeMessage", inPlace := ["internal/reflectlite.ValueOf", "internal/reflectlite.Swapper", "(internal/reflectlite.Value).Len"], unfollowed := true, recurses := true, loops := true, apart := false }
def FnMakeLeaderChangeMessageSaid : Prop := fnMakeLeaderChangeMessageRow.holds Try.pinned (OpenSpec.ofChange fnMakeLeaderChangeMessageSpec)

/-- ITS FALSE NEIGHBOUR: 'it returns false'. Refute it at one input. -/
def fnMakeLeaderChangeMessageWrong : ChangeSpec := { name := "fnMakeLeaderChangeMessage", fn := fun _ => fun
  | [d1, d2] => { results := [.lit (.bool false)], args := [d1, d2] }
  | _ => none }
def FnMakeLeaderChangeMessageWrongFalsely : Prop := fnMakeLeaderChangeMessageRow.holds Try.pinned (OpenSpec.ofChange fnMakeLeaderChangeMessageWrong)

/-- 'laws.FnMakeSASLAuthenticateResponse': WHATEVER THE INPUT: true; the input reads as it did. -/
def fnMakeSASLAuthenticateResponseSpec : ChangeSpec := { name := "fnMakeSASLAuthenticateResponse", fn := fun _ => fun
  | [d1, d2] => { results := [.lit (.bool true)], args := [d1, d2] }
  | _ => none }
def fnMakeSASLAuthenticateResponseRow : OpenClaim := { program := "ytmknncmdbmnmgaa", sum := "21623eacdeacf409120461e1d769b343f930fa548fa9eb578ee26ec33321307b", func := "pub-mailsack/laws.FnMakeSASLAuthenticateResponse", spec := "fnMakeSASLAuthenticateResponse", inPlace := ["internal/reflectlite.ValueOf", "internal/reflectlite.Swapper", "(internal/reflectlite.Value).Len"], unfollowed := true, recurses := true, loops := true, apart := false }
def FnMakeSASLAuthenticateResponseSaid : Prop := fnMakeSASLAuthenticateResponseRow.holds Try.pinned (OpenSpec.ofChange fnMakeSASLAuthenticateResponseSpec)

/-- ITS FALSE NEIGHBOUR: 'it returns false'. Refute it at one input. -/
def fnMakeSASLAuthenticateResponseWrong : ChangeSpec := { name := "fnMakeSASLAuthenticateResponse", fn := fun _ => fun
  | [d1, d2] => { results := [.lit (.bool false)], args := [d1, d2] }
  | _ => none }
def FnMakeSASLAuthenticateResponseWrongFalsely : Prop := fnMakeSASLAuthenticateResponseRow.holds Try.pinned (OpenSpec.ofChange fnMakeSASLAuthenticateResponseWrong)

/-- 'laws.FnMakeUpdateFeaturesRequest': WHATEVER THE INPUT: true; the input reads as it did. -/
def fnMakeUpdateFeaturesRequestSpec : ChangeSpec := { name := "fnMakeUpdateFeaturesRequest", fn := fun _ => fun
  | [d1, d2] => { results := [.lit (.bool true)], args := [d1, d2] }
  | _ => none }
def fnMakeUpdateFeaturesRequestRow : OpenClaim := { program := "ytmknncmdbmnmgaa", sum := "21623eacdeacf409120461e1d769b343f930fa548fa9eb578ee26ec33321307b", func := "pub-mailsack/laws.FnMakeUpdateFeaturesRequest", spec := "fnMakeUpdateFeaturesRequest", inPlace := ["internal/reflectlite.ValueOf", "internal/reflectlite.Swapper", "(internal/reflectlite.Value).Len"], unfollowed := true, recurses := true, loops := true, apart := false }
def FnMakeUpdateFeaturesRequestSaid : Prop := fnMakeUpdateFeaturesRequestRow.holds Try.pinned (OpenSpec.ofChange fnMakeUpdateFeaturesRequestSpec)

/-- ITS FALSE NEIGHBOUR: 'it returns false'. Refute it at one input. -/
def fnMakeUpdateFeaturesRequestWrong : ChangeSpec := { name := "fnMakeUpdateFeaturesRequest", fn := fun _ => fun
  | [d1, d2] => { results := [.lit (.bool false)], args := [d1, d2] }
  | _ => none }
def FnMakeUpdateFeaturesRequestWrongFalsely : Prop := fnMakeUpdateFeaturesRequestRow.holds Try.pinned (OpenSpec.ofChange fnMakeUpdateFeaturesRequestWrong)

/-- 'laws.FnMakeOffsetForLeaderEpochRequest': WHATEVER THE INPUT: true; the input reads as it did. -/
def fnMakeOffsetForLeaderEpochRequestSpec : ChangeSpec := { name := "fnMakeOffsetForLeaderEpochRequest", fn := fun _ => fun
  | [d1, d2] => { results := [.lit (.bool true)], args := [d1, d2] }
  | _ => none }
def fnMakeOffsetForLeaderEpochRequestRow : OpenClaim := { program := "ytmknncmdbmnmgaa", sum := "21623eacdeacf409120461e1d769b343f930fa548fa9eb578ee26ec33321307b", func := "pub-mailsack/laws.FnMakeOffsetForLeaderEpochRequest", spec := "fnMakeOffsetForLeaderEpochRequest", inPlace := ["internal/reflectlite.ValueOf", "internal/reflectlite.Swapper", "(internal/reflectlite.Value).Len"], unfollowed := true, recurses := true, loops := true, apart := false }
def FnMakeOffsetForLeaderEpochRequestSaid : Prop := fnMakeOffsetForLeaderEpochRequestRow.holds Try.pinned (OpenSpec.ofChange fnMakeOffsetForLeaderEpochRequestSpec)

/-- ITS FALSE NEIGHBOUR: 'it returns false'. Refute it at one input. -/
def fnMakeOffsetForLeaderEpochRequestWrong : ChangeSpec := { name := "fnMakeOffsetForLeaderEpochRequest", fn := fun _ => fun
  | [d1, d2] => { results := [.lit (.bool false)], args := [d1, d2] }
  | _ => none }
def FnMakeOffsetForLeaderEpochRequestWrongFalsely : Prop := fnMakeOffsetForLeaderEpochRequestRow.holds Try.pinned (OpenSpec.ofChange fnMakeOffsetForLeaderEpochRequestWrong)

/-- 'laws.FnMakeIncrementalAlterConfigsResponse': WHATEVER THE INPUT: true; the input reads as it did. -/
def fnMakeIncrementalAlterConfigsResponseSpec : ChangeSpec := { name := "fnMakeIncrementalAlterConfigsResponse", fn := fun _ => fun
  | [d1, d2] => { results := [.lit (.bool true)], args := [d1, d2] }
  | _ => none }
def fnMakeIncrementalAlterConfigsResponseRow : OpenClaim := { program := "ytmknncmdbmnmgaa", sum := "21623eacdeacf409120461e1d769b343f930fa548fa9eb578ee26ec33321307b", func := "pub-mailsack/laws.FnMakeIncrementalAlterConfigsResponse", spec := "fnMakeIncrementalAlterConfigsResponse", inPlace := ["internal/reflectlite.ValueOf", "internal/reflectlite.Swapper", "(internal/reflectlite.Value).Len"], unfollowed := true, recurses := true, loops := true, apart := false }
def FnMakeIncrementalAlterConfigsResponseSaid : Prop := fnMakeIncrementalAlterConfigsResponseRow.holds Try.pinned (OpenSpec.ofChange fnMakeIncrementalAlterConfigsResponseSpec)

/-- ITS FALSE NEIGHBOUR: 'it returns false'. Refute it at one input. -/
def fnMakeIncrementalAlterConfigsResponseWrong : ChangeSpec := { name := "fnMakeIncrementalAlterConfigsResponse", fn := fun _ => fun
  | [d1, d2] => { results := [.lit (.bool false)], args := [d1, d2] }
  | _ => none }
def FnMakeIncrementalAlterConfigsResponseWrongFalsely : Prop := fnMakeIncrementalAlterConfigsResponseRow.holds Try.pinned (OpenSpec.ofChange fnMakeIncrementalAlterConfigsResponseWrong)

/-- 'laws.FnMakeDescribeClientQuotasRequest': WHATEVER THE INPUT: true; the input reads as it did. -/
def fnMakeDescribeClientQuotasRequestSpec : ChangeSpec := { name := "fnMakeDescribeClientQuotasRequest", fn := fun _ => fun
  | [d1, d2] => { results := [.lit (.bool true)], args := [d1, d2] }
  | _ => none }
def fnMakeDescribeClientQuotasRequestRow : OpenClaim := { program := "ytmknncmdbmnmgaa", sum := "21623eacdeacf409120461e1d769b343f930fa548fa9eb578ee26ec33321307b", func := "pub-mailsack/laws.FnMakeDescribeClientQuotasRequest", spec := "fnMakeDescribeClientQuotasRequest", inPlace := ["internal/reflectlite.ValueOf", "internal/reflectlite.Swapper", "(internal/reflectlite.Value).Len"], unfollowed := true, recurses := true, loops := true, apart := false }
def FnMakeDescribeClientQuotasRequestSaid : Prop := fnMakeDescribeClientQuotasRequestRow.holds Try.pinned (OpenSpec.ofChange fnMakeDescribeClientQuotasRequestSpec)

/-- ITS FALSE NEIGHBOUR: 'it returns false'. Refute it at one input. -/
def fnMakeDescribeClientQuotasRequestWrong : ChangeSpec := { name := "fnMakeDescribeClientQuotasRequest", fn := fun _ => fun
  | [d1, d2] => { results := [.lit (.bool false)], args := [d1, d2] }
  | _ => none }
def FnMakeDescribeClientQuotasRequestWrongFalsely : Prop := fnMakeDescribeClientQuotasRequestRow.holds Try.pinned (OpenSpec.ofChange fnMakeDescribeClientQuotasRequestWrong)

/-- 'laws.FnMakeListTransactionsResponse': WHATEVER THE INPUT: true; the input reads as it did. -/
def fnMakeListTransactionsResponseSpec : ChangeSpec := { name := "fnMakeListTransactionsResponse", fn := fun _ => fun
  | [d1, d2] => { results := [.lit (.bool true)], args := [d1, d2] }
  | _ => none }
def fnMakeListTransactionsResponseRow : OpenClaim := { program := "ytmknncmdbmnmgaa", sum := "21623eacdeacf409120461e1d769b343f930fa548fa9eb578ee26ec33321307b", func := "pub-mailsack/laws.FnMakeListTransactionsResponse", spec := "fnMakeListTransactionsResponse", inPlace := ["internal/reflectlite.ValueOf", "internal/reflectlite.Swapper", "(internal/reflectlite.Value).Len"], unfollowed := true, recurses := true, loops := true, apart := false }
def FnMakeListTransactionsResponseSaid : Prop := fnMakeListTransactionsResponseRow.holds Try.pinned (OpenSpec.ofChange fnMakeListTransactionsResponseSpec)

/-- ITS FALSE NEIGHBOUR: 'it returns false'. Refute it at one input. -/
def fnMakeListTransactionsResponseWrong : ChangeSpec := { name := "fnMakeListTransactionsResponse", fn := fun _ => fun
  | [d1, d2] => { results := [.lit (.bool false)], args := [d1, d2] }
  | _ => none }
def FnMakeListTransactionsResponseWrongFalsely : Prop := fnMakeListTransactionsResponseRow.holds Try.pinned (OpenSpec.ofChange fnMakeListTransactionsResponseWrong)

/-- 'laws.FnMakeDeleteRecordsResponse': WHATEVER THE INPUT: true; the input reads as it did. -/
def fnMakeDeleteRecordsResponseSpec : ChangeSpec := { name := "fnMakeDeleteRecordsResponse", fn := fun _ => fun
  | [d1, d2] => { results := [.lit (.bool true)], args := [d1, d2] }
  | _ => none }
def fnMakeDeleteRecordsResponseRow : OpenClaim := { program := "ytmknncmdbmnmgaa", sum := "21623eacdeacf409120461e1d769b343f930fa548fa9eb578ee26ec33321307b", func := "pub-mailsack/laws.FnMakeDeleteRecordsResponse", spec := "fnMakeDeleteRecordsResponse", inPlace := ["internal/reflectlite.ValueOf", "internal/reflectlite.Swapper", "(internal/reflectlite.Value).Len"], unfollowed := true, recurses := true, loops := true, apart := false }
def FnMakeDeleteRecordsResponseSaid : Prop := fnMakeDeleteRecordsResponseRow.holds Try.pinned (OpenSpec.ofChange fnMakeDeleteRecordsResponseSpec)

/-- ITS FALSE NEIGHBOUR: 'it returns false'. Refute it at one input. -/
def fnMakeDeleteRecordsResponseWrong : ChangeSpec := { name := "fnMakeDeleteRecordsResponse", fn := fun _ => fun
  | [d1, d2] => { results := [.lit (.bool false)], args := [d1, d2] }
  | _ => none }
def FnMakeDeleteRecordsResponseWrongFalsely : Prop := fnMakeDeleteRecordsResponseRow.holds Try.pinned (OpenSpec.ofChange fnMakeDeleteRecordsResponseWrong)

/-- 'laws.FnMakeDeleteTopicsResponse': WHATEVER THE INPUT: true; the input reads as it did. -/
def fnMakeDeleteTopicsResponseSpec : ChangeSpec := { name := "fnMakeDeleteTopicsResponse", fn := fun _ => fun
  | [d1, d2] => { results := [.lit (.bool true)], args := [d1, d2] }
  | _ => none }
def fnMakeDeleteTopicsResponseRow : OpenClaim := { program := "ytmknncmdbmnmgaa", sum := "21623eacdeacf409120461e1d769b343f930fa548fa9eb578ee26ec33321307b", func := "pub-mailsack/laws.FnMakeDeleteTopicsResponse", spec := "fnMakeDeleteTopicsResponse", inPlace := ["internal/reflectlite.ValueOf", "internal/reflectlite.Swapper", "(internal/reflectlite.Value).Len"], unfollowed := true, recurses := true, loops := true, apart := false }
def FnMakeDeleteTopicsResponseSaid : Prop := fnMakeDeleteTopicsResponseRow.holds Try.pinned (OpenSpec.ofChange fnMakeDeleteTopicsResponseSpec)

/-- ITS FALSE NEIGHBOUR: 'it returns false'. Refute it at one input. -/
def fnMakeDeleteTopicsResponseWrong : ChangeSpec := { name := "fnMakeDeleteTopicsResponse", fn := fun _ => fun
  | [d1, d2] => { results := [.lit (.bool false)], args := [d1, d2] }
  | _ => none }
def FnMakeDeleteTopicsResponseWrongFalsely : Prop := fnMakeDeleteTopicsResponseRow.holds Try.pinned (OpenSpec.ofChange fnMakeDeleteTopicsResponseWrong)

/-- 'laws.FnMakeAlterConfigsRequest': WHATEVER THE INPUT: true; the input reads as it did. -/
def fnMakeAlterConfigsRequestSpec : ChangeSpec := { name := "fnMakeAlterConfigsRequest", fn := fun _ => fun
  | [d1, d2] => { results := [.lit (.bool true)], args := [d1, d2] }
  | _ => none }
def fnMakeAlterConfigsRequestRow : OpenClaim := { program := "ytmknncmdbmnmgaa", sum := "21623eacdeacf409120461e1d769b343f930fa548fa9eb578ee26ec33321307b", func := "pub-mailsack/laws.FnMakeAlterConfigsRequest", spec := "fnMakeAlterConfigsRequest", inPlace := ["internal/reflectlite.ValueOf", "internal/reflectlite.Swapper", "(internal/reflectlite.Value).Len"], unfollowed := true, recurses := true, loops := true, apart := false }
def FnMakeAlterConfigsRequestSaid : Prop := fnMakeAlterConfigsRequestRow.holds Try.pinned (OpenSpec.ofChange fnMakeAlterConfigsRequestSpec)

/-- ITS FALSE NEIGHBOUR: 'it returns false'. Refute it at one input. -/
def fnMakeAlterConfigsRequestWrong : ChangeSpec := { name := "fnMakeAlterConfigsRequest", fn := fun _ => fun
  | [d1, d2] => { results := [.lit (.bool false)], args := [d1, d2] }
  | _ => none }
def FnMakeAlterConfigsRequestWrongFalsely : Prop := fnMakeAlterConfigsRequestRow.holds Try.pinned (OpenSpec.ofChange fnMakeAlterConfigsRequestWrong)

/-- 'laws.FnMakeDescribeTransactionsResponse': WHATEVER THE INPUT: true; the input reads as it did. -/
def fnMakeDescribeTransactionsResponseSpec : ChangeSpec := { name := "fnMakeDescribeTransactionsResponse", fn := fun _ => fun
  | [d1, d2] => { results := [.lit (.bool true)], args := [d1, d2] }
  | _ => none }
def fnMakeDescribeTransactionsResponseRow : OpenClaim := { program := "ytmknncmdbmnmgaa", sum := "21623eacdeacf409120461e1d769b343f930fa548fa9eb578ee26ec33321307b", func := "pub-mailsack/laws.FnMakeDescribeTransactionsResponse", spec := "fnMakeDescribeTransactionsResponse", inPlace := ["internal/reflectlite.ValueOf", "internal/reflectlite.Swapper", "(internal/reflectlite.Value).Len"], unfollowed := true, recurses := true, loops := true, apart := false }
def FnMakeDescribeTransactionsResponseSaid : Prop := fnMakeDescribeTransactionsResponseRow.holds Try.pinned (OpenSpec.ofChange fnMakeDescribeTransactionsResponseSpec)

/-- ITS FALSE NEIGHBOUR: 'it returns false'. Refute it at one input. -/
def fnMakeDescribeTransactionsResponseWrong : ChangeSpec := { name := "fnMakeDescribeTransactionsResponse", fn := fun _ => fun
  | [d1, d2] => { results := [.lit (.bool false)], args := [d1, d2] }
  | _ => none }
def FnMakeDescribeTransactionsResponseWrongFalsely : Prop := fnMakeDescribeTransactionsResponseRow.holds Try.pinned (OpenSpec.ofChange fnMakeDescribeTransactionsResponseWrong)

/-- 'laws.FnMakeBeginQuorumEpochResponse': WHATEVER THE INPUT: true; the input reads as it did. -/
def fnMakeBeginQuorumEpochResponseSpec : ChangeSpec := { name := "fnMakeBeginQuorumEpochResponse", fn := fun _ => fun
  | [d1, d2] => { results := [.lit (.bool true)], args := [d1, d2] }
  | _ => none }
def fnMakeBeginQuorumEpochResponseRow : OpenClaim := { program := "ytmknncmdbmnmgaa", sum := "21623eacdeacf409120461e1d769b343f930fa548fa9eb578ee26ec33321307b", func := "pub-mailsack/laws.FnMakeBeginQuorumEpochResponse", spec := "fnMakeBeginQuorumEpochResponse", inPlace := ["internal/reflectlite.ValueOf", "internal/reflectlite.Swapper", "(internal/reflectlite.Value).Len"], unfollowed := true, recurses := true, loops := true, apart := false }
def FnMakeBeginQuorumEpochResponseSaid : Prop := fnMakeBeginQuorumEpochResponseRow.holds Try.pinned (OpenSpec.ofChange fnMakeBeginQuorumEpochResponseSpec)

/-- ITS FALSE NEIGHBOUR: 'it returns false'. Refute it at one input. -/
def fnMakeBeginQuorumEpochResponseWrong : ChangeSpec := { name := "fnMakeBeginQuorumEpochResponse", fn := fun _ => fun
  | [d1, d2] => { results := [.lit (.bool false)], args := [d1, d2] }
  | _ => none }
def FnMakeBeginQuorumEpochResponseWrongFalsely : Prop := fnMakeBeginQuorumEpochResponseRow.holds Try.pinned (OpenSpec.ofChange fnMakeBeginQuorumEpochResponseWrong)

/- THE SECOND FORM. 'bulk': how many values and letters a reading holds, each counted each time it is reached (what is shared counts as often as it is met; a slice's spare places count too). A statement '..UptoSaid' is the law's where the arguments, and the package variables that the reading takes, are together of bulk at most 1048576: NARROWER than '..Said'. Prove '..Said' where nothing that the law and all that it calls make is longer than what came in: it says more and counts as full. Else prove '..UptoSaid'. A law counts once. -/
mutual
def uptoBulk {H : Type} : DataW H → Nat
  | .lit (.string bytes) => bytes.length + 1
  | .lit _ => 1
  | .nil => 1
  | .ptr d => uptoBulk d + 1
  | .slice elems spare => uptoBulkAll elems + uptoBulkAll spare + 1
  | .agg parts => uptoBulkAll parts + 1
  | .iface _ d => uptoBulk d + 1
  | .map entries => uptoBulkEntries entries + 1
  | .held _ => 1
def uptoBulkAll {H : Type} : List (DataW H) → Nat
  | [] => 0
  | d :: r => uptoBulk d + uptoBulkAll r
def uptoBulkEntries {H : Type} : List (Lit × DataW H) → Nat
  | [] => 0
  | x :: r => uptoBulkEntry x + uptoBulkEntries r
def uptoBulkEntry {H : Type} : Lit × DataW H → Nat
  | (.string bytes, d) => bytes.length + uptoBulk d + 1
  | (_, d) => uptoBulk d + 1
 end
def uptoSmall : (H : Type) → List (DataW H) → Bool := fun _ ds => decide (uptoBulkAll ds ≤ 1048576)
def OpenSpec.upto (s : _root_.Go.ChangeSpec) : _root_.Go.OpenSpec := { _root_.Go.OpenSpec.ofChange s with cond := some uptoSmall }

/-- 'laws.FnMakeLeaderChangeMessage', WHERE WHAT IT READS IS OF BULK AT MOST 1048576: true; the input reads as it did. -/
def fnMakeLeaderChangeMessageUptoRow : OpenClaim := { program := "ytmknncmdbmnmgaa", sum := "21623eacdeacf409120461e1d769b343f930fa548fa9eb578ee26ec33321307b", func := "pub-mailsack/laws.FnMakeLeaderChangeMessage", spec := "fnMakeLeaderChangeMessage", inPlace := ["internal/reflectlite.ValueOf", "internal/reflectlite.Swapper", "(internal/reflectlite.Value).Len"], unfollowed := true, recurses := true, loops := true, apart := false, narrowed := true }
def FnMakeLeaderChangeMessageUptoSaid : Prop := fnMakeLeaderChangeMessageUptoRow.holds Try.pinned (OpenSpec.upto fnMakeLeaderChangeMessageSpec)

/-- 'laws.FnMakeSASLAuthenticateResponse', WHERE WHAT IT READS IS OF BULK AT MOST 1048576: true; the input reads as it did. -/
def fnMakeSASLAuthenticateResponseUptoRow : OpenClaim := { program := "ytmknncmdbmnmgaa", sum := "21623eacdeacf409120461e1d769b343f930fa548fa9eb578ee26ec33321307b", func := "pub-mailsack/laws.FnMakeSASLAuthenticateResponse", spec := "fnMakeSASLAuthenticateResponse", inPlace := ["internal/reflectlite.ValueOf", "internal/reflectlite.Swapper", "(internal/reflectlite.Value).Len"], unfollowed := true, recurses := true, loops := true, apart := false, narrowed := true }
def FnMakeSASLAuthenticateResponseUptoSaid : Prop := fnMakeSASLAuthenticateResponseUptoRow.holds Try.pinned (OpenSpec.upto fnMakeSASLAuthenticateResponseSpec)

/-- 'laws.FnMakeUpdateFeaturesRequest', WHERE WHAT IT READS IS OF BULK AT MOST 1048576: true; the input reads as it did. -/
def fnMakeUpdateFeaturesRequestUptoRow : OpenClaim := { program := "ytmknncmdbmnmgaa", sum := "21623eacdeacf409120461e1d769b343f930fa548fa9eb578ee26ec33321307b", func := "pub-mailsack/laws.FnMakeUpdateFeaturesRequest", spec := "fnMakeUpdateFeaturesRequest", inPlace := ["internal/reflectlite.ValueOf", "internal/reflectlite.Swapper", "(internal/reflectlite.Value).Len"], unfollowed := true, recurses := true, loops := true, apart := false, narrowed := true }
def FnMakeUpdateFeaturesRequestUptoSaid : Prop := fnMakeUpdateFeaturesRequestUptoRow.holds Try.pinned (OpenSpec.upto fnMakeUpdateFeaturesRequestSpec)

/-- 'laws.FnMakeOffsetForLeaderEpochRequest', WHERE WHAT IT READS IS OF BULK AT MOST 1048576: true; the input reads as it did. -/
def fnMakeOffsetForLeaderEpochRequestUptoRow : OpenClaim := { program := "ytmknncmdbmnmgaa", sum := "21623eacdeacf409120461e1d769b343f930fa548fa9eb578ee26ec33321307b", func := "pub-mailsack/laws.FnMakeOffsetForLeaderEpochRequest", spec := "fnMakeOffsetForLeaderEpochRequest", inPlace := ["internal/reflectlite.ValueOf", "internal/reflectlite.Swapper", "(internal/reflectlite.Value).Len"], unfollowed := true, recurses := true, loops := true, apart := false, narrowed := true }
def FnMakeOffsetForLeaderEpochRequestUptoSaid : Prop := fnMakeOffsetForLeaderEpochRequestUptoRow.holds Try.pinned (OpenSpec.upto fnMakeOffsetForLeaderEpochRequestSpec)

/-- 'laws.FnMakeIncrementalAlterConfigsResponse', WHERE WHAT IT READS IS OF BULK AT MOST 1048576: true; the input reads as it did. -/
def fnMakeIncrementalAlterConfigsResponseUptoRow : OpenClaim := { program := "ytmknncmdbmnmgaa", sum := "21623eacdeacf409120461e1d769b343f930fa548fa9eb578ee26ec33321307b", func := "pub-mailsack/laws.FnMakeIncrementalAlterConfigsResponse", spec := "fnMakeIncrementalAlterConfigsResponse", inPlace := ["internal/reflectlite.ValueOf", "internal/reflectlite.Swapper", "(internal/reflectlite.Value).Len"], unfollowed := true, recurses := true, loops := true, apart := false, narrowed := true }
def FnMakeIncrementalAlterConfigsResponseUptoSaid : Prop := fnMakeIncrementalAlterConfigsResponseUptoRow.holds Try.pinned (OpenSpec.upto fnMakeIncrementalAlterConfigsResponseSpec)

/-- 'laws.FnMakeDescribeClientQuotasRequest', WHERE WHAT IT READS IS OF BULK AT MOST 1048576: true; the input reads as it did. -/
def fnMakeDescribeClientQuotasRequestUptoRow : OpenClaim := { program := "ytmknncmdbmnmgaa", sum := "21623eacdeacf409120461e1d769b343f930fa548fa9eb578ee26ec33321307b", func := "pub-mailsack/laws.FnMakeDescribeClientQuotasRequest", spec := "fnMakeDescribeClientQuotasRequest", inPlace := ["internal/reflectlite.ValueOf", "internal/reflectlite.Swapper", "(internal/reflectlite.Value).Len"], unfollowed := true, recurses := true, loops := true, apart := false, narrowed := true }
def FnMakeDescribeClientQuotasRequestUptoSaid : Prop := fnMakeDescribeClientQuotasRequestUptoRow.holds Try.pinned (OpenSpec.upto fnMakeDescribeClientQuotasRequestSpec)

/-- 'laws.FnMakeListTransactionsResponse', WHERE WHAT IT READS IS OF BULK AT MOST 1048576: true; the input reads as it did. -/
def fnMakeListTransactionsResponseUptoRow : OpenClaim := { program := "ytmknncmdbmnmgaa", sum := "21623eacdeacf409120461e1d769b343f930fa548fa9eb578ee26ec33321307b", func := "pub-mailsack/laws.FnMakeListTransactionsResponse", spec := "fnMakeListTransactionsResponse", inPlace := ["internal/reflectlite.ValueOf", "internal/reflectlite.Swapper", "(internal/reflectlite.Value).Len"], unfollowed := true, recurses := true, loops := true, apart := false, narrowed := true }
def FnMakeListTransactionsResponseUptoSaid : Prop := fnMakeListTransactionsResponseUptoRow.holds Try.pinned (OpenSpec.upto fnMakeListTransactionsResponseSpec)

/-- 'laws.FnMakeDeleteRecordsResponse', WHERE WHAT IT READS IS OF BULK AT MOST 1048576: true; the input reads as it did. -/
def fnMakeDeleteRecordsResponseUptoRow : OpenClaim := { program := "ytmknncmdbmnmgaa", sum := "21623eacdeacf409120461e1d769b343f930fa548fa9eb578ee26ec33321307b", func := "pub-mailsack/laws.FnMakeDeleteRecordsResponse", spec := "fnMakeDeleteRecordsResponse", inPlace := ["internal/reflectlite.ValueOf", "internal/reflectlite.Swapper", "(internal/reflectlite.Value).Len"], unfollowed := true, recurses := true, loops := true, apart := false, narrowed := true }
def FnMakeDeleteRecordsResponseUptoSaid : Prop := fnMakeDeleteRecordsResponseUptoRow.holds Try.pinned (OpenSpec.upto fnMakeDeleteRecordsResponseSpec)

/-- 'laws.FnMakeDeleteTopicsResponse', WHERE WHAT IT READS IS OF BULK AT MOST 1048576: true; the input reads as it did. -/
def fnMakeDeleteTopicsResponseUptoRow : OpenClaim := { program := "ytmknncmdbmnmgaa", sum := "21623eacdeacf409120461e1d769b343f930fa548fa9eb578ee26ec33321307b", func := "pub-mailsack/laws.FnMakeDeleteTopicsResponse", spec := "fnMakeDeleteTopicsResponse", inPlace := ["internal/reflectlite.ValueOf", "internal/reflectlite.Swapper", "(internal/reflectlite.Value).Len"], unfollowed := true, recurses := true, loops := true, apart := false, narrowed := true }
def FnMakeDeleteTopicsResponseUptoSaid : Prop := fnMakeDeleteTopicsResponseUptoRow.holds Try.pinned (OpenSpec.upto fnMakeDeleteTopicsResponseSpec)

/-- 'laws.FnMakeAlterConfigsRequest', WHERE WHAT IT READS IS OF BULK AT MOST 1048576: true; the input reads as it did. -/
def fnMakeAlterConfigsRequestUptoRow : OpenClaim := { program := "ytmknncmdbmnmgaa", sum := "21623eacdeacf409120461e1d769b343f930fa548fa9eb578ee26ec33321307b", func := "pub-mailsack/laws.FnMakeAlterConfigsRequest", spec := "fnMakeAlterConfigsRequest", inPlace := ["internal/reflectlite.ValueOf", "internal/reflectlite.Swapper", "(internal/reflectlite.Value).Len"], unfollowed := true, recurses := true, loops := true, apart := false, narrowed := true }
def FnMakeAlterConfigsRequestUptoSaid : Prop := fnMakeAlterConfigsRequestUptoRow.holds Try.pinned (OpenSpec.upto fnMakeAlterConfigsRequestSpec)

/-- 'laws.FnMakeDescribeTransactionsResponse', WHERE WHAT IT READS IS OF BULK AT MOST 1048576: true; the input reads as it did. -/
def fnMakeDescribeTransactionsResponseUptoRow : OpenClaim := { program := "ytmknncmdbmnmgaa", sum := "21623eacdeacf409120461e1d769b343f930fa548fa9eb578ee26ec33321307b", func := "pub-mailsack/laws.FnMakeDescribeTransactionsResponse", spec := "fnMakeDescribeTransactionsResponse", inPlace := ["internal/reflectlite.ValueOf", "internal/reflectlite.Swapper", "(internal/reflectlite.Value).Len"], unfollowed := true, recurses := true, loops := true, apart := false, narrowed := true }
def FnMakeDescribeTransactionsResponseUptoSaid : Prop := fnMakeDescribeTransactionsResponseUptoRow.holds Try.pinned (OpenSpec.upto fnMakeDescribeTransactionsResponseSpec)

/-- 'laws.FnMakeBeginQuorumEpochResponse', WHERE WHAT IT READS IS OF BULK AT MOST 1048576: true; the input reads as it did. -/
def fnMakeBeginQuorumEpochResponseUptoRow : OpenClaim := { program := "ytmknncmdbmnmgaa", sum := "21623eacdeacf409120461e1d769b343f930fa548fa9eb578ee26ec33321307b", func := "pub-mailsack/laws.FnMakeBeginQuorumEpochResponse", spec := "fnMakeBeginQuorumEpochResponse", inPlace := ["internal/reflectlite.ValueOf", "internal/reflectlite.Swapper", "(internal/reflectlite.Value).Len"], unfollowed := true, recurses := true, loops := true, apart := false, narrowed := true }
def FnMakeBeginQuorumEpochResponseUptoSaid : Prop := fnMakeBeginQuorumEpochResponseUptoRow.holds Try.pinned (OpenSpec.upto fnMakeBeginQuorumEpochResponseSpec)

end Rows
end Go.Proofs.Ytmknncmdbmnmgaa
