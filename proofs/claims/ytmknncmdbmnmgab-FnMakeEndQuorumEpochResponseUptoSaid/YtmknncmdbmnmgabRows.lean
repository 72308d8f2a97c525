/-
  NARROWER THAN 'FOR EVERY INPUT', by the rows' own cells (each row's printed sentence says how): FnMakeEndQuorumEpochResponse: loops · FnMakeOffsetCommitRequest: loops · FnMakeTxnOffsetCommitRequest: loops.
  DERIVED. THE GIVEN ROWS OF THIS SEAT. 3 by the template 'for every input the law returns true; each argument reads behind the call as it read before'; 0 by the template 'total and deterministic' (their statements: YtmknncmdbmnmgabTotals.lean).
  GIVEN WITH THE SEED: the statements are not yours to turn. If you find one false, say at which input.
  Laid BY PROGRAM, IN A SANDBOX (cutbox-rows.mjs): the forced cells as the released guide's own fill.sh prints them over the translation db65d577ce429281… (all of the seat's roots in one cut). By AI agents, Wed Nov 11 2026. No macro, syntax, notation, axiom, sorry.
-/
import Derived.Test.YtmknncmdbmnmgabChecked
import GoSem.Claim
import GoSem.ClaimJoined
import GoSem.ClaimMapViews
import Derived.JoinedTies
import Derived.KernelRfl
namespace Go.Proofs.Ytmknncmdbmnmgab
/- THE CELL 'sum', in the pinned program and in every row, IS THE sha256 OF THE DUMP (.gsa) THAT YtmknncmdbmnmgabProg.lean LOADS. Nothing in Lean hashes anything: it is a label: what it is worth is what the hold of that sum in a sandbox is worth. -/
noncomputable def Try.pinned : Pinned := { name := "ytmknncmdbmnmgab", sum := "db65d577ce429281dd9d68ad0b2a7ad6d7a1d484bdcc265555de492d52ec2c9c", checked := Try.checked }
namespace Rows
def none {H : Type} : Left H := { results := [], args := [] }

/-- 'laws.FnMakeEndQuorumEpochResponse': WHATEVER THE INPUT: true; the input reads as it did. -/
def fnMakeEndQuorumEpochResponseSpec : ChangeSpec := { name := "fnMakeEndQuorumEpochResponse", fn := fun _ => fun
  | [d1, d2] => { results := [.lit (.bool true)], args := [d1, d2] }
  | _ => none }
def fnMakeEndQuorumEpochResponseRow : OpenClaim := { program := "ytmknncmdbmnmgab", sum := "db65d577ce429281dd9d68ad0b2a7ad6d7a1d484bdcc265555de492d52ec2c9c", func := "pub-mailsack/laws.FnMakeEndQuorumEpochResponse", spec := "fnMakeEndQuorumEpochResponse", inPlace := ["internal/reflectlite.ValueOf", "internal/reflectlite.Swapper", "(internal/reflectlite.Value).Len"], unfollowed := true, recurses := true, loops := true, apart := false }
def FnMakeEndQuorumEpochResponseSaid : Prop := fnMakeEndQuorumEpochResponseRow.holds Try.pinned (OpenSpec.ofChange fnMakeEndQuorumEpochResponseSpec)

/-- ITS FALSE NEIGHBOUR: 'it returns false'. Refute it at one input. -/
def fnMakeEndQuorumEpochResponseWrong : ChangeSpec := { name := "fnMakeEndQuorumEpochResponse", fn := fun _ => fun
  | [d1, d2] => { results := [.lit (.bool false)], args := [d1, d2] }
  | _ => none }
def FnMakeEndQuorumEpochResponseWrongFalsely : Prop := fnMakeEndQuorumEpochResponseRow.holds Try.pinned (OpenSpec.ofChange fnMakeEndQuorumEpochResponseWrong)

/-- 'laws.FnMakeOffsetCommitRequest': WHATEVER THE INPUT: true; the input reads as it did. -/
def fnMakeOffsetCommitRequestSpec : ChangeSpec := { name := "fnMakeOffsetCommitRequest", fn := fun _ => fun
  | [d1, d2] => { results := [.lit (.bool true)], args := [d1, d2] }
  | _ => none }
def fnMakeOffsetCommitRequestRow : OpenClaim := { program := "ytmknncmdbmnmgab", sum := "db65d577ce429281dd9d68ad0b2a7ad6d7a1d484bdcc265555de492d52ec2c9c", func := "pub-mailsack/laws.FnMakeOffsetCommitRequest", spec := "fnMakeOffsetCommitRequest", inPlace := ["internal/reflectlite.ValueOf", "internal/reflectlite.Swapper", "(internal/reflectlite.Value).Len"], unfollowed := true, recurses := true, loops := true, apart := false }
def FnMakeOffsetCommitRequestSaid : Prop := fnMakeOffsetCommitRequestRow.holds Try.pinned (OpenSpec.ofChange fnMakeOffsetCommitRequestSpec)

/-- ITS FALSE NEIGHBOUR: 'it returns false'. Refute it at one input. -/
def fnMakeOffsetCommitRequestWrong : ChangeSpec := { name := "fnMakeOffsetCommitRequest", fn := fun _ => fun
  | [d1, d2] => { results := [.lit (.bool false)], args := [d1, d2] }
  | _ => none }
def FnMakeOffsetCommitRequestWrongFalsely : Prop := fnMakeOffsetCommitRequestRow.holds Try.pinned (OpenSpec.ofChange fnMakeOffsetCommitRequestWrong)

/-- 'laws.FnMakeTxnOffsetCommitRequest': WHATEVER THE INPUT: true; the input reads as it did. -/
def fnMakeTxnOffsetCommitRequestSpec : ChangeSpec := { name := "fnMakeTxnOffsetCommitRequest", fn := fun _ => fun
  | [d1, d2] => { results := [.lit (.bool true)], args := [d1, d2] }
  | _ => none }
def fnMakeTxnOffsetCommitRequestRow : OpenClaim := { program := "ytmknncmdbmnmgab", sum := "db65d577ce429281dd9d68ad0b2a7ad6d7a1d484bdcc265555de492d52ec2c9c", func := "pub-mailsack/laws.FnMakeTxnOffsetCommitRequest", spec := "fnMakeTxnOffsetCommitRequest", inPlace := ["internal/reflectlite.ValueOf", "internal/reflectlite.Swapper", "(internal/reflectlite.Value).Len"], unfollowed := true, recurses := true, loops := true, apart := false }
def FnMakeTxnOffsetCommitRequestSaid : Prop := fnMakeTxnOffsetCommitRequestRow.holds Try.pinned (OpenSpec.ofChange fnMakeTxnOffsetCommitRequestSpec)

/-- ITS FALSE NEIGHBOUR: 'it returns false'. Refute it at one input. -/
def fnMakeTxnOffsetCommitRequestWrong : ChangeSpec := { name := "fnMakeTxnOffsetCommitRequest", fn := fun _ => fun
  | [d1, d2] => { results := [.lit (.bool false)], args := [d1, d2] }
  | _ => none }
def FnMakeTxnOffsetCommitRequestWrongFalsely : Prop := fnMakeTxnOffsetCommitRequestRow.holds Try.pinned (OpenSpec.ofChange fnMakeTxnOffsetCommitRequestWrong)

/- THE SECOND FORM. 'bulk': how many values and letters a reading holds, each counted each time it is reached (what is shared counts as often as it is met; a slice's spare places count too). A statement '..UptoSaid' is the law's where the arguments, and the package variables that the reading takes, are together of bulk at most 1048576: NARROWER than '..Said'. Prove '..Said' where nothing that the law and all that it calls make is longer than what came in: it says more and counts as full. Else prove '..UptoSaid'. A law counts once. -/
mutual
def uptoBulk {H : Type} : DataW H → Nat
  | .lit (.string bytes) => bytes.length + 1
  | .lit _ => 1
  | .nil => 1
  | .ptr d => uptoBulk d + 1
  | .slice elems spare => uptoBulkAll elems + uptoBulkAll spare + 1
  | .agg parts => uptoBulkAll parts + 1
  | .iface _ d => uptoBulk d + 1
  | .map entries => uptoBulkEntries entries + 1
  | .held _ => 1
def uptoBulkAll {H : Type} : List (DataW H) → Nat
  | [] => 0
  | d :: r => uptoBulk d + uptoBulkAll r
def uptoBulkEntries {H : Type} : List (Lit × DataW H) → Nat
  | [] => 0
  | x :: r => uptoBulkEntry x + uptoBulkEntries r
def uptoBulkEntry {H : Type} : Lit × DataW H → Nat
  | (.string bytes, d) => bytes.length + uptoBulk d + 1
  | (_, d) => uptoBulk d + 1
 end
def uptoSmall : (H : Type) → List (DataW H) → Bool := fun _ ds => decide (uptoBulkAll ds ≤ 1048576)
def OpenSpec.upto (s : _root_.Go.ChangeSpec) : _root_.Go.OpenSpec := { _root_.Go.OpenSpec.ofChange s with cond := some uptoSmall }

/-- 'laws.FnMakeEndQuorumEpochResponse', WHERE WHAT IT READS IS OF BULK AT MOST 1048576: true; the input reads as it did. -/
def fnMakeEndQuorumEpochResponseUptoRow : OpenClaim := { program := "ytmknncmdbmnmgab", sum := "db65d577ce429281dd9d68ad0b2a7ad6d7a1d484bdcc265555de492d52ec2c9c", func := "pub-mailsack/laws.FnMakeEndQuorumEpochResponse", spec := "fnMakeEndQuorumEpochResponse", inPlace := ["internal/reflectlite.ValueOf", "internal/reflectlite.Swapper", "(internal/reflectlite.Value).Len"], unfollowed := true, recurses := true, loops := true, apart := false, narrowed := true }
def FnMakeEndQuorumEpochResponseUptoSaid : Prop := fnMakeEndQuorumEpochResponseUptoRow.holds Try.pinned (OpenSpec.upto fnMakeEndQuorumEpochResponseSpec)

/-- 'laws.FnMakeOffsetCommitRequest', WHERE WHAT IT READS IS OF BULK AT MOST 1048576: true; the input reads as it did. -/
def fnMakeOffsetCommitRequestUptoRow : OpenClaim := { program := "ytmknncmdbmnmgab", sum := "db65d577ce429281dd9d68ad0b2a7ad6d7a1d484bdcc265555de492d52ec2c9c", func := "pub-mailsack/laws.FnMakeOffsetCommitRequest", spec := "fnMakeOffsetCommitRequest", inPlace := ["internal/reflectlite.ValueOf", "internal/reflectlite.Swapper", "(internal/reflectlite.Value).Len"], unfollowed := true, recurses := true, loops := true, apart := false, narrowed := true }
def FnMakeOffsetCommitRequestUptoSaid : Prop := fnMakeOffsetCommitRequestUptoRow.holds Try.pinned (OpenSpec.upto fnMakeOffsetCommitRequestSpec)

/-- 'laws.FnMakeTxnOffsetCommitRequest', WHERE WHAT IT READS IS OF BULK AT MOST 1048576: true; the input reads as it did. -/
def fnMakeTxnOffsetCommitRequestUptoRow : OpenClaim := { program := "ytmknncmdbmnmgab", sum := "db65d577ce429281dd9d68ad0b2a7ad6d7a1d484bdcc265555de492d52ec2c9c", func := "pub-mailsack/laws.FnMakeTxnOffsetCommitRequest", spec := "fnMakeTxnOffsetCommitRequest", inPlace := ["internal/reflectlite.ValueOf", "internal/reflectlite.Swapper", "(internal/reflectlite.Value).Len"], unfollowed := true, recurses := true, loops := true, apart := false, narrowed := true }
def FnMakeTxnOffsetCommitRequestUptoSaid : Prop := fnMakeTxnOffsetCommitRequestUptoRow.holds Try.pinned (OpenSpec.upto fnMakeTxnOffsetCommitRequestSpec)

end Rows
end Go.Proofs.Ytmknncmdbmnmgab
