/-
  NARROWER THAN 'FOR EVERY INPUT', by the rows' own cells (each row's printed sentence says how): FnMakeFetchSnapshotRequest: loops · FnMakeCreateTopicsResponse: loops · FnMakeShareFetchResponse: loops · FnMakeDescribeQuorumResponse: loops.
  DERIVED. THE GIVEN ROWS OF THIS SEAT. 4 by the template 'for every input the law returns true; each argument reads behind the call as it read before'; 0 by the template 'total and deterministic' (their statements: YtmknncmdbmnmgabGreatTotals.lean).
  GIVEN WITH THE SEED: the statements are not yours to turn. If you find one false, say at which input.
  Laid BY PROGRAM, IN A SANDBOX (cutbox-rows.mjs): the forced cells as the released guide's own fill.sh prints them over the translation f1fea78d229726b5… (all of the seat's roots in one cut). By AI agents, Wed Nov 11 2026. No macro, syntax, notation, axiom, sorry.
-/
import Derived.Test.YtmknncmdbmnmgabGreatChecked
import GoSem.Claim
import GoSem.ClaimJoined
import GoSem.ClaimMapViews
import Derived.JoinedTies
import Derived.KernelRfl
namespace Go.Proofs.YtmknncmdbmnmgabGreat
/- THE CELL 'sum', in the pinned program and in every row, IS THE sha256 OF THE DUMP (.gsa) THAT YtmknncmdbmnmgabGreatProg.lean LOADS. Nothing in Lean hashes anything: it is a label: what it is worth is what the hold of that sum in a sandbox is worth. -/
noncomputable def Tryz.pinned : Pinned := { name := "ytmknncmdbmnmgabgreat", sum := "f1fea78d229726b5a24b416cd1601b0e0039638fbc2abc23ac38b4b290ceb30a", checked := Tryz.checked }
namespace Rows
def none {H : Type} : Left H := { results := [], args := [] }

/-- 'laws.FnMakeFetchSnapshotRequest': WHATEVER THE INPUT: true; the input reads as it did. -/
def fnMakeFetchSnapshotRequestSpec : ChangeSpec := { name := "fnMakeFetchSnapshotRequest", fn := fun _ => fun
  | [d1, d2] => { results := [.lit (.bool true)], args := [d1, d2] }
  | _ => none }
def fnMakeFetchSnapshotRequestRow : OpenClaim := { program := "ytmknncmdbmnmgabgreat", sum := "f1fea78d229726b5a24b416cd1601b0e0039638fbc2abc23ac38b4b290ceb30a", func := "pub-mailsack/laws.FnMakeFetchSnapshotRequest", spec := "fnMakeFetchSnapshotRequest", inPlace := ["internal/reflectlite.ValueOf", "internal/reflectlite.Swapper", "(internal/reflectlite.Value).Len"], unfollowed := true, recurses := true, loops := true, apart := false }
def FnMakeFetchSnapshotRequestSaid : Prop := fnMakeFetchSnapshotRequestRow.holds Tryz.pinned (OpenSpec.ofChange fnMakeFetchSnapshotRequestSpec)

/-- ITS FALSE NEIGHBOUR: 'it returns false'. Refute it at one input. -/
def fnMakeFetchSnapshotRequestWrong : ChangeSpec := { name := "fnMakeFetchSnapshotRequest", fn := fun _ => fun
  | [d1, d2] => { results := [.lit (.bool false)], args := [d1, d2] }
  | _ => none }
def FnMakeFetchSnapshotRequestWrongFalsely : Prop := fnMakeFetchSnapshotRequestRow.holds Tryz.pinned (OpenSpec.ofChange fnMakeFetchSnapshotRequestWrong)

/-- 'laws.FnMakeCreateTopicsResponse': WHATEVER THE INPUT: true; the input reads as it did. -/
def fnMakeCreateTopicsResponseSpec : ChangeSpec := { name := "fnMakeCreateTopicsResponse", fn := fun _ => fun
  | [d1, d2] => { results := [.lit (.bool true)], args := [d1, d2] }
  | _ => none }
def fnMakeCreateTopicsResponseRow : OpenClaim := { program := "ytmknncmdbmnmgabgreat", sum := "f1fea78d229726b5a24b416cd1601b0e0039638fbc2abc23ac38b4b290ceb30a", func := "pub-mailsack/laws.FnMakeCreateTopicsResponse", spec := "fnMakeCreateTopicsResponse", inPlace := ["internal/reflectlite.ValueOf", "internal/reflectlite.Swapper", "(internal/reflectlite.Value).Len"], unfollowed := true, recurses := true, loops := true, apart := false }
def FnMakeCreateTopicsResponseSaid : Prop := fnMakeCreateTopicsResponseRow.holds Tryz.pinned (OpenSpec.ofChange fnMakeCreateTopicsResponseSpec)

/-- ITS FALSE NEIGHBOUR: 'it returns false'. Refute it at one input. -/
def fnMakeCreateTopicsResponseWrong : ChangeSpec := { name := "fnMakeCreateTopicsResponse", fn := fun _ => fun
  | [d1, d2] => { results := [.lit (.bool false)], args := [d1, d2] }
  | _ => none }
def FnMakeCreateTopicsResponseWrongFalsely : Prop := fnMakeCreateTopicsResponseRow.holds Tryz.pinned (OpenSpec.ofChange fnMakeCreateTopicsResponseWrong)

/-- 'laws.FnMakeShareFetchResponse': WHATEVER THE INPUT: true; the input reads as it did. -/
def fnMakeShareFetchResponseSpec : ChangeSpec := { name := "fnMakeShareFetchResponse", fn := fun _ => fun
  | [d1, d2] => { results := [.lit (.bool true)], args := [d1, d2] }
  | _ => none }
def fnMakeShareFetchResponseRow : OpenClaim := { program := "ytmknncmdbmnmgabgreat", sum := "f1fea78d229726b5a24b416cd1601b0e0039638fbc2abc23ac38b4b290ceb30a", func := "pub-mailsack/laws.FnMakeShareFetchResponse", spec := "fnMakeShareFetchResponse", inPlace := ["internal/reflectlite.ValueOf", "internal/reflectlite.Swapper", "(internal/reflectlite.Value).Len"], unfollowed := true, recurses := true, loops := true, apart := false }
def FnMakeShareFetchResponseSaid : Prop := fnMakeShareFetchResponseRow.holds Tryz.pinned (OpenSpec.ofChange fnMakeShareFetchResponseSpec)

/-- ITS FALSE NEIGHBOUR: 'it returns false'. Refute it at one input. -/
def fnMakeShareFetchResponseWrong : ChangeSpec := { name := "fnMakeShareFetchResponse", fn := fun _ => fun
  | [d1, d2] => { results := [.lit (.bool false)], args := [d1, d2] }
  | _ => none }
def FnMakeShareFetchResponseWrongFalsely : Prop := fnMakeShareFetchResponseRow.holds Tryz.pinned (OpenSpec.ofChange fnMakeShareFetchResponseWrong)

/-- 'laws.FnMakeDescribeQuorumResponse': WHATEVER THE INPUT: true; the input reads as it did. -/
def fnMakeDescribeQuorumResponseSpec : ChangeSpec := { name := "fnMakeDescribeQuorumResponse", fn := fun _ => fun
  | [d1, d2] => { results := [.lit (.bool true)], args := [d1, d2] }
  | _ => none }
def fnMakeDescribeQuorumResponseRow : OpenClaim := { program := "ytmknncmdbmnmgabgreat", sum := "f1fea78d229726b5a24b416cd1601b0e0039638fbc2abc23ac38b4b290ceb30a", func := "pub-mailsack/laws.FnMakeDescribeQuorumResponse", spec := "fnMakeDescribeQuorumResponse", inPlace := ["internal/reflectlite.ValueOf", "internal/reflectlite.Swapper", "(internal/reflectlite.Value).Len"], unfollowed := true, recurses := true, loops := true, apart := false }
def FnMakeDescribeQuorumResponseSaid : Prop := fnMakeDescribeQuorumResponseRow.holds Tryz.pinned (OpenSpec.ofChange fnMakeDescribeQuorumResponseSpec)

/-- ITS FALSE NEIGHBOUR: 'it returns false'. Refute it at one input. -/
def fnMakeDescribeQuorumResponseWrong : ChangeSpec := { name := "fnMakeDescribeQuorumResponse", fn := fun _ => fun
  | [d1, d2] => { results := [.lit (.bool false)], args := [d1, d2] }
  | _ => none }
def FnMakeDescribeQuorumResponseWrongFalsely : Prop := fnMakeDescribeQuorumResponseRow.holds Tryz.pinned (OpenSpec.ofChange fnMakeDescribeQuorumResponseWrong)

/- THE SECOND FORM. 'bulk': how many values and letters a reading holds, each counted each time it is reached (what is shared counts as often as it is met; a slice's spare places count too). A statement '..UptoSaid' is the law's where the arguments, and the package variables that the reading takes, are together of bulk at most 1048576: NARROWER than '..Said'. Prove '..Said' where nothing that the law and all that it calls make is longer than what came in: it says more and counts as full. Else prove '..UptoSaid'. A law counts once. -/
mutual
def uptoBulk {H : Type} : DataW H → Nat
  | .lit (.string bytes) => bytes.length + 1
  | .lit _ => 1
  | .nil => 1
  | .ptr d => uptoBulk d + 1
  | .slice elems spare => uptoBulkAll elems + uptoBulkAll spare + 1
  | .agg parts => uptoBulkAll parts + 1
  | .iface _ d => uptoBulk d + 1
  | .map entries => uptoBulkEntries entries + 1
  | .held _ => 1
def uptoBulkAll {H : Type} : List (DataW H) → Nat
  | [] => 0
  | d :: r => uptoBulk d + uptoBulkAll r
def uptoBulkEntries {H : Type} : List (Lit × DataW H) → Nat
  | [] => 0
  | x :: r => uptoBulkEntry x + uptoBulkEntries r
def uptoBulkEntry {H : Type} : Lit × DataW H → Nat
  | (.string bytes, d) => bytes.length + uptoBulk d + 1
  | (_, d) => uptoBulk d + 1
 end
def uptoSmall : (H : Type) → List (DataW H) → Bool := fun _ ds => decide (uptoBulkAll ds ≤ 1048576)
def OpenSpec.upto (s : _root_.Go.ChangeSpec) : _root_.Go.OpenSpec := { _root_.Go.OpenSpec.ofChange s with cond := some uptoSmall }

/-- 'laws.FnMakeFetchSnapshotRequest', WHERE WHAT IT READS IS OF BULK AT MOST 1048576: true; the input reads as it did. -/
def fnMakeFetchSnapshotRequestUptoRow : OpenClaim := { program := "ytmknncmdbmnmgabgreat", sum := "f1fea78d229726b5a24b416cd1601b0e0039638fbc2abc23ac38b4b290ceb30a", func := "pub-mailsack/laws.FnMakeFetchSnapshotRequest", spec := "fnMakeFetchSnapshotRequest", inPlace := ["internal/reflectlite.ValueOf", "internal/reflectlite.Swapper", "(internal/reflectlite.Value).Len"], unfollowed := true, recurses := true, loops := true, apart := false, narrowed := true }
def FnMakeFetchSnapshotRequestUptoSaid : Prop := fnMakeFetchSnapshotRequestUptoRow.holds Tryz.pinned (OpenSpec.upto fnMakeFetchSnapshotRequestSpec)

/-- 'laws.FnMakeCreateTopicsResponse', WHERE WHAT IT READS IS OF BULK AT MOST 1048576: true; the input reads as it did. -/
def fnMakeCreateTopicsResponseUptoRow : OpenClaim := { program := "ytmknncmdbmnmgabgreat", sum := "f1fea78d229726b5a24b416cd1601b0e0039638fbc2abc23ac38b4b290ceb30a", func := "pub-mailsack/laws.FnMakeCreateTopicsResponse", spec := "fnMakeCreateTopicsResponse", inPlace := ["internal/reflectlite.ValueOf", "internal/reflectlite.Swapper", "(internal/reflectlite.Value).Len"], unfollowed := true, recurses := true, loops := true, apart := false, narrowed := true }
def FnMakeCreateTopicsResponseUptoSaid : Prop := fnMakeCreateTopicsResponseUptoRow.holds Tryz.pinned (OpenSpec.upto fnMakeCreateTopicsResponseSpec)

/-- 'laws.FnMakeShareFetchResponse', WHERE WHAT IT READS IS OF BULK AT MOST 1048576: true; the input reads as it did. -/
def fnMakeShareFetchResponseUptoRow : OpenClaim := { program := "ytmknncmdbmnmgabgreat", sum := "f1fea78d229726b5a24b416cd1601b0e0039638fbc2abc23ac38b4b290ceb30a", func := "pub-mailsack/laws.FnMakeShareFetchResponse", spec := "fnMakeShareFetchResponse", inPlace := ["internal/reflectlite.ValueOf", "internal/reflectlite.Swapper", "(internal/reflectlite.Value).Len"], unfollowed := true, recurses := true, loops := true, apart := false, narrowed := true }
def FnMakeShareFetchResponseUptoSaid : Prop := fnMakeShareFetchResponseUptoRow.holds Tryz.pinned (OpenSpec.upto fnMakeShareFetchResponseSpec)

/-- 'laws.FnMakeDescribeQuorumResponse', WHERE WHAT IT READS IS OF BULK AT MOST 1048576: true; the input reads as it did. -/
def fnMakeDescribeQuorumResponseUptoRow : OpenClaim := { program := "ytmknncmdbmnmgabgreat", sum := "f1fea78d229726b5a24b416cd1601b0e0039638fbc2abc23ac38b4b290ceb30a", func := "pub-mailsack/laws.FnMakeDescribeQuorumResponse", spec := "fnMakeDescribeQuorumResponse", inPlace := ["internal/reflectlite.ValueOf", "internal/reflectlite.Swapper", "(internal/reflectlite.Value).Len"], unfollowed := true, recurses := true, loops := true, apart := false, narrowed := true }
def FnMakeDescribeQuorumResponseUptoSaid : Prop := fnMakeDescribeQuorumResponseUptoRow.holds Tryz.pinned (OpenSpec.upto fnMakeDescribeQuorumResponseSpec)

end Rows
end Go.Proofs.YtmknncmdbmnmgabGreat
