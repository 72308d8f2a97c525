/-
  NARROWER THAN 'FOR EVERY INPUT', by the rows' own cells (each row's printed sentence says how): FnMakeAddOffsetsToTxnResponse: loops · FnMakeExpireDelegationTokenResponse: loops · FnMakeRenewDelegationTokenRequest: loops · FnMakeEnvelopeRequest: loops · FnMakeHeartbeatRequest: loops.
  DERIVED. THE GIVEN ROWS OF THIS SEAT. 5 by the template 'for every input the law returns true; each argument reads behind the call as it read before'; 0 by the template 'total and deterministic' (their statements: YtoledocfkjohhaaTotals.lean).
  GIVEN WITH THE SEED: the statements are not yours to turn. If you find one false, say at which input.
  Laid BY PROGRAM, IN A SANDBOX (cutbox-rows.mjs): the forced cells as the released guide's own fill.sh prints them over the translation bf2fe8500fba9b49… (all of the seat's roots in one cut). By AI agents, Wed Nov 11 2026. No macro, syntax, notation, axiom, sorry.
-/
import Derived.Test.YtoledocfkjohhaaChecked
import GoSem.Claim
import GoSem.ClaimJoined
import GoSem.ClaimMapViews
import Derived.JoinedTies
import Derived.KernelRfl
namespace Go.Proofs.Ytoledocfkjohhaa
/- THE CELL 'sum', in the pinned program and in every row, IS THE sha256 OF THE DUMP (.gsa) THAT YtoledocfkjohhaaProg.lean LOADS. Nothing in Lean hashes anything: it is a label: what it is worth is what the hold of that sum in a sandbox is worth. -/
noncomputable def Try.pinned : Pinned := { name := "ytoledocfkjohhaa", sum := "bf2fe8500fba9b4969fe24b7d5a84b2a464e26cbb80db2314cb37c7b4032b26d", checked := Try.checked }
namespace Rows
def none {H : Type} : Left H := { results := [], args := [] }

/-- 'laws.FnMakeAddOffsetsToTxnResponse': WHATEVER THE INPUT: true; the input reads as it did. -/
def fnMakeAddOffsetsToTxnResponseSpec : ChangeSpec := { name := "fnMakeAddOffsetsToTxnResponse", fn := fun _ => fun
  | [d1, d2] => { results := [.lit (.bool true)], args := [d1, d2] }
  | _ => none }
def fnMakeAddOffsetsToTxnResponseRow : OpenClaim := { program := "ytoledocfkjohhaa", sum := "bf2fe8500fba9b4969fe24b7d5a84b2a464e26cbb80db2314cb37c7b4032b26d", func := "pub-mailsack/laws.FnMakeAddOffsetsToTxnResponse", spec := "fnMakeAddOffsetsToTxnResponse", inPlace := ["internal/reflectlite.ValueOf", "internal/reflectlite.Swapper", "(internal/reflectlite.Value).Len"], unfollowed := true, recurses := true, loops := true, apart := false }
def FnMakeAddOffsetsToTxnResponseSaid : Prop := fnMakeAddOffsetsToTxnResponseRow.holds Try.pinned (OpenSpec.ofChange fnMakeAddOffsetsToTxnResponseSpec)

/-- ITS FALSE NEIGHBOUR: 'it returns false'. Refute it at one input. -/
def fnMakeAddOffsetsToTxnResponseWrong : ChangeSpec := { name := "fnMakeAddOffsetsToTxnResponse", fn := fun _ => fun
  | [d1, d2] => { results := [.lit (.bool false)], args := [d1, d2] }
  | _ => none }
def FnMakeAddOffsetsToTxnResponseWrongFalsely : Prop := fnMakeAddOffsetsToTxnResponseRow.holds Try.pinned (OpenSpec.ofChange fnMakeAddOffsetsToTxnResponseWrong)

/-- 'laws.FnMakeExpireDelegationTokenResponse': WHATEVER THE INPUT: true; the input reads as it did. -/
def fnMakeExpireDelegationTokenResponseSpec : ChangeSpec := { name := "fnMakeExpireDelegationTokenResponse", fn := fun _ => fun
  | [d1, d2] => { results := [.lit (.bool true)], args := [d1, d2] }
  | _ => none }
def fnMakeExpireDelegationTokenResponseRow : OpenClaim := { program := "ytoledocfkjohhaa", sum := "bf2fe8500fba9b4969fe24b7d5a84b2a464e26cbb80db2314cb37c7b4032b26d", func := "pub-mailsack/laws.FnMakeExpireDelegationTokenResponse", spec := "fnMakeExpireDelegationTokenResponse", inPlace := ["internal/reflectlite.ValueOf", "internal/reflectlite.Swapper", "(internal/reflectlite.Value).Len"], unfollowed := true, recurses := true, loops := true, apart := false }
def FnMakeExpireDelegationTokenResponseSaid : Prop := fnMakeExpireDelegationTokenResponseRow.holds Try.pinned (OpenSpec.ofChange fnMakeExpireDelegationTokenResponseSpec)

/-- ITS FALSE NEIGHBOUR: 'it returns false'. Refute it at one input. -/
def fnMakeExpireDelegationTokenResponseWrong : ChangeSpec := { name := "fnMakeExpireDelegationTokenResponse", fn := fun _ => fun
  | [d1, d2] => { results := [.lit (.bool false)], args := [d1, d2] }
  | _ => none }
def FnMakeExpireDelegationTokenResponseWrongFalsely : Prop := fnMakeExpireDelegationTokenResponseRow.holds Try.pinned (OpenSpec.ofChange fnMakeExpireDelegationTokenResponseWrong)

/-- 'laws.FnMakeRenewDelegationTokenRequest': WHATEVER THE INPUT: true; the input reads as it did. -/
def fnMakeRenewDelegationTokenRequestSpec : ChangeSpec := { name := "fnMakeRenewDelegationTokenRequest", fn := fun _ => fun
  | [d1, d2] => { results := [.lit (.bool true)], args := [d1, d2] }
  | _ => none }
def fnMakeRenewDelegationTokenRequestRow : OpenClaim := { program := "ytoledocfkjohhaa", sum := "bf2fe8500fba9b4969fe24b7d5a84b2a464e26cbb80db2314cb37c7b4032b26d", func := "pub-mailsack/laws.FnMakeRenewDelegationTokenRequest", spec := "fnMakeRenewDelegationTokenRequest", inPlace := ["internal/reflectlite.ValueOf", "internal/reflectlite.Swapper", "(internal/reflectlite.Value).Len"], unfollowed := true, recurses := true, loops := true, apart := false }
def FnMakeRenewDelegationTokenRequestSaid : Prop := fnMakeRenewDelegationTokenRequestRow.holds Try.pinned (OpenSpec.ofChange fnMakeRenewDelegationTokenRequestSpec)

/-- ITS FALSE NEIGHBOUR: 'it returns false'. Refute it at one input. -/
def fnMakeRenewDelegationTokenRequestWrong : ChangeSpec := { name := "fnMakeRenewDelegationTokenRequest", fn := fun _ => fun
  | [d1, d2] => { results := [.lit (.bool false)], args := [d1, d2] }
  | _ => none }
def FnMakeRenewDelegationTokenRequestWrongFalsely : Prop := fnMakeRenewDelegationTokenRequestRow.holds Try.pinned (OpenSpec.ofChange fnMakeRenewDelegationTokenRequestWrong)

/-- 'laws.FnMakeEnvelopeRequest': WHATEVER THE INPUT: true; the input reads as it did. -/
def fnMakeEnvelopeRequestSpec : ChangeSpec := { name := "fnMakeEnvelopeRequest", fn := fun _ => fun
  | [d1, d2] => { results := [.lit (.bool true)], args := [d1, d2] }
  | _ => none }
def fnMakeEnvelopeRequestRow : OpenClaim := { program := "ytoledocfkjohhaa", sum := "bf2fe8500fba9b4969fe24b7d5a84b2a464e26cbb80db2314cb37c7b4032b26d", func := "pub-mailsack/laws.FnMakeEnvelopeRequest", spec := "fnMakeEnvelopeRequest", inPlace := ["internal/reflectlite.ValueOf", "internal/reflectlite.Swapper", "(internal/reflectlite.Value).Len"], unfollowed := true, recurses := true, loops := true, apart := false }
def FnMakeEnvelopeRequestSaid : Prop := fnMakeEnvelopeRequestRow.holds Try.pinned (OpenSpec.ofChange fnMakeEnvelopeRequestSpec)

/-- ITS FALSE NEIGHBOUR: 'it returns false'. Refute it at one input. -/
def fnMakeEnvelopeRequestWrong : ChangeSpec := { name := "fnMakeEnvelopeRequest", fn := fun _ => fun
  | [d1, d2] => { results := [.lit (.bool false)], args := [d1, d2] }
  | _ => none }
def FnMakeEnvelopeRequestWrongFalsely : Prop := fnMakeEnvelopeRequestRow.holds Try.pinned (OpenSpec.ofChange fnMakeEnvelopeRequestWrong)

/-- 'laws.FnMakeHeartbeatRequest': WHATEVER THE INPUT: true; the input reads as it did. -/
def fnMakeHeartbeatRequestSpec : ChangeSpec := { name := "fnMakeHeartbeatRequest", fn := fun _ => fun
  | [d1, d2] => { results := [.lit (.bool true)], args := [d1, d2] }
  | _ => none }
def fnMakeHeartbeatRequestRow : OpenClaim := { program := "ytoledocfkjohhaa", sum := "bf2fe8500fba9b4969fe24b7d5a84b2a464e26cbb80db2314cb37c7b4032b26d", func := "pub-mailsack/laws.FnMakeHeartbeatRequest", spec := "fnMakeHeartbeatRequest", inPlace := ["internal/reflectlite.ValueOf", "internal/reflectlite.Swapper", "(internal/reflectlite.Value).Len"], unfollowed := true, recurses := true, loops := true, apart := false }
def FnMakeHeartbeatRequestSaid : Prop := fnMakeHeartbeatRequestRow.holds Try.pinned (OpenSpec.ofChange fnMakeHeartbeatRequestSpec)

/-- ITS FALSE NEIGHBOUR: 'it returns false'. Refute it at one input. -/
def fnMakeHeartbeatRequestWrong : ChangeSpec := { name := "fnMakeHeartbeatRequest", fn := fun _ => fun
  | [d1, d2] => { results := [.lit (.bool false)], args := [d1, d2] }
  | _ => none }
def FnMakeHeartbeatRequestWrongFalsely : Prop := fnMakeHeartbeatRequestRow.holds Try.pinned (OpenSpec.ofChange fnMakeHeartbeatRequestWrong)

/- THE SECOND FORM. 'bulk': how many values and letters a reading holds, each counted each time it is reached (what is shared counts as often as it is met; a slice's spare places count too). A statement '..UptoSaid' is the law's where the arguments, and the package variables that the reading takes, are together of bulk at most 1048576: NARROWER than '..Said'. Prove '..Said' where nothing that the law and all that it calls make is longer than what came in: it says more and counts as full. Else prove '..UptoSaid'. A law counts once. -/
mutual
def uptoBulk {H : Type} : DataW H → Nat
  | .lit (.string bytes) => bytes.length + 1
  | .lit _ => 1
  | .nil => 1
  | .ptr d => uptoBulk d + 1
  | .slice elems spare => uptoBulkAll elems + uptoBulkAll spare + 1
  | .agg parts => uptoBulkAll parts + 1
  | .iface _ d => uptoBulk d + 1
  | .map entries => uptoBulkEntries entries + 1
  | .held _ => 1
def uptoBulkAll {H : Type} : List (DataW H) → Nat
  | [] => 0
  | d :: r => uptoBulk d + uptoBulkAll r
def uptoBulkEntries {H : Type} : List (Lit × DataW H) → Nat
  | [] => 0
  | x :: r => uptoBulkEntry x + uptoBulkEntries r
def uptoBulkEntry {H : Type} : Lit × DataW H → Nat
  | (.string bytes, d) => bytes.length + uptoBulk d + 1
  | (_, d) => uptoBulk d + 1
 end
def uptoSmall : (H : Type) → List (DataW H) → Bool := fun _ ds => decide (uptoBulkAll ds ≤ 1048576)
def OpenSpec.upto (s : _root_.Go.ChangeSpec) : _root_.Go.OpenSpec := { _root_.Go.OpenSpec.ofChange s with cond := some uptoSmall }

/-- 'laws.FnMakeAddOffsetsToTxnResponse', WHERE WHAT IT READS IS OF BULK AT MOST 1048576: true; the input reads as it did. -/
def fnMakeAddOffsetsToTxnResponseUptoRow : OpenClaim := { program := "ytoledocfkjohhaa", sum := "bf2fe8500fba9b4969fe24b7d5a84b2a464e26cbb80db2314cb37c7b4032b26d", func := "pub-mailsack/laws.FnMakeAddOffsetsToTxnResponse", spec := "fnMakeAddOffsetsToTxnResponse", inPlace := ["internal/reflectlite.ValueOf", "internal/reflectlite.Swapper", "(internal/reflectlite.Value).Len"], unfollowed := true, recurses := true, loops := true, apart := false, narrowed := true }
def FnMakeAddOffsetsToTxnResponseUptoSaid : Prop := fnMakeAddOffsetsToTxnResponseUptoRow.holds Try.pinned (OpenSpec.upto fnMakeAddOffsetsToTxnResponseSpec)

/-- 'laws.FnMakeExpireDelegationTokenResponse', WHERE WHAT IT READS IS OF BULK AT MOST 1048576: true; the input reads as it did. -/
def fnMakeExpireDelegationTokenResponseUptoRow : OpenClaim := { program := "ytoledocfkjohhaa", sum := "bf2fe8500fba9b4969fe24b7d5a84b2a464e26cbb80db2314cb37c7b4032b26d", func := "pub-mailsack/laws.FnMakeExpireDelegationTokenResponse", spec := "fnMakeExpireDelegationTokenResponse", inPlace := ["internal/reflectlite.ValueOf", "internal/reflectlite.Swapper", "(internal/reflectlite.Value).Len"], unfollowed := true, recurses := true, loops := true, apart := false, narrowed := true }
def FnMakeExpireDelegationTokenResponseUptoSaid : Prop := fnMakeExpireDelegationTokenResponseUptoRow.holds Try.pinned (OpenSpec.upto fnMakeExpireDelegationTokenResponseSpec)

/-- 'laws.FnMakeRenewDelegationTokenRequest', WHERE WHAT IT READS IS OF BULK AT MOST 1048576: true; the input reads as it did. -/
def fnMakeRenewDelegationTokenRequestUptoRow : OpenClaim := { program := "ytoledocfkjohhaa", sum := "bf2fe8500fba9b4969fe24b7d5a84b2a464e26cbb80db2314cb37c7b4032b26d", func := "pub-mailsack/laws.FnMakeRenewDelegationTokenRequest", spec := "fnMakeRenewDelegationTokenRequest", inPlace := ["internal/reflectlite.ValueOf", "internal/reflectlite.Swapper", "(internal/reflectlite.Value).Len"], unfollowed := true, recurses := true, loops := true, apart := false, narrowed := true }
def FnMakeRenewDelegationTokenRequestUptoSaid : Prop := fnMakeRenewDelegationTokenRequestUptoRow.holds Try.pinned (OpenSpec.upto fnMakeRenewDelegationTokenRequestSpec)

/-- 'laws.FnMakeEnvelopeRequest', WHERE WHAT IT READS IS OF BULK AT MOST 1048576: true; the input reads as it did. -/
def fnMakeEnvelopeRequestUptoRow : OpenClaim := { program := "ytoledocfkjohhaa", sum := "bf2fe8500fba9b4969fe24b7d5a84b2a464e26cbb80db2314cb37c7b4032b26d", func := "pub-mailsack/laws.FnMakeEnvelopeRequest", spec := "fnMakeEnvelopeRequest", inPlace := ["internal/reflectlite.ValueOf", "internal/reflectlite.Swapper", "(internal/reflectlite.Value).Len"], unfollowed := true, recurses := true, loops := true, apart := false, narrowed := true }
def FnMakeEnvelopeRequestUptoSaid : Prop := fnMakeEnvelopeRequestUptoRow.holds Try.pinned (OpenSpec.upto fnMakeEnvelopeRequestSpec)

/-- 'laws.FnMakeHeartbeatRequest', WHERE WHAT IT READS IS OF BULK AT MOST 1048576: true; the input reads as it did. -/
def fnMakeHeartbeatRequestUptoRow : OpenClaim := { program := "ytoledocfkjohhaa", sum := "bf2fe8500fba9b4969fe24b7d5a84b2a464e26cbb80db2314cb37c7b4032b26d", func := "pub-mailsack/laws.FnMakeHeartbeatRequest", spec := "fnMakeHeartbeatRequest", inPlace := ["internal/reflectlite.ValueOf", "internal/reflectlite.Swapper", "(internal/reflectlite.Value).Len"], unfollowed := true, recurses := true, loops := true, apart := false, narrowed := true }
def FnMakeHeartbeatRequestUptoSaid : Prop := fnMakeHeartbeatRequestUptoRow.holds Try.pinned (OpenSpec.upto fnMakeHeartbeatRequestSpec)

end Rows
end Go.Proofs.Ytoledocfkjohhaa
