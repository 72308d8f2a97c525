import Derived.Test.YtoledocfkjohhaaM5
import Derived.Test.YtoledocfkjohhaaP1
set_option linter.unusedVariables false
set_option linter.unusedSimpArgs false
namespace Go.Proofs.Ytoledocfkjohhaa
namespace K
open Go Go.Lib
theorem RUs.keys {s : Vw} : ∀ {u : Tags} {cs : List Value}, RUs s u cs → ∀ y ∈ u, y.1 < 4294967296
  | [], _, _, y, hy => by simp at hy
  | (k, b) :: r, cs, ⟨v, c', h1, h2, h3, h4⟩, y, hy => by
    rcases List.mem_cons.1 hy with rfl | hy
    · exact h2
    · exact RUs.keys h4 y hy
theorem fn_AddOffsetsToTxnResponse (t : Vw) (n : Nat) (x : Tre) (cs : List Value) (hn : n < 256) (hx : RT t x cs) (hsm : smT x) : CS Try.prog 3 [.int .u8 (n : Int), .agg cs.toArray] t (.bool true) := by
  obtain ⟨_, _, _, _, _, _, _, uc, _, hUs⟩ := hx.open
  have hk := hUs.keys
  have hfl : ∀ f ∈ F_AddOffsetsToTxnResponse, flatF f = true := by decide
  have hok := ok_F_AddOffsetsToTxnResponse
  exact law_AddOffsetsToTxnResponse tags_AppendEach t n x cs hn hx hsm (smT_fitT _ _ x hok.1 hok.2.2 hsm) (keys_nodup (srt_cut (unkn_sorted _ _))) (fit_ok _ x hfl hk) (write_fit _ _ x hfl) (write_le _ _ x hfl hk (by decide))
theorem fn_ExpireDelegationTokenResponse (t : Vw) (n : Nat) (x : Tre) (cs : List Value) (hn : n < 256) (hx : RT t x cs) (hsm : smT x) : CS Try.prog 4 [.int .u8 (n : Int), .agg cs.toArray] t (.bool true) := by
  obtain ⟨_, _, _, _, _, _, _, uc, _, hUs⟩ := hx.open
  have hk := hUs.keys
  have hfl : ∀ f ∈ F_ExpireDelegationTokenResponse, flatF f = true := by decide
  have hok := ok_F_ExpireDelegationTokenResponse
  exact law_ExpireDelegationTokenResponse tags_AppendEach t n x cs hn hx hsm (smT_fitT _ _ x hok.1 hok.2.2 hsm) (keys_nodup (srt_cut (unkn_sorted _ _))) (fit_ok _ x hfl hk) (write_fit _ _ x hfl) (write_le _ _ x hfl hk (by decide))
theorem fn_RenewDelegationTokenRequest (t : Vw) (n : Nat) (x : Tre) (cs : List Value) (hn : n < 256) (hx : RT t x cs) (hsm : smT x) : CS Try.prog 5 [.int .u8 (n : Int), .agg cs.toArray] t (.bool true) := by
  obtain ⟨_, _, _, _, _, _, _, uc, _, hUs⟩ := hx.open
  have hk := hUs.keys
  have hfl : ∀ f ∈ F_RenewDelegationTokenRequest, flatF f = true := by decide
  have hok := ok_F_RenewDelegationTokenRequest
  exact law_RenewDelegationTokenRequest tags_AppendEach t n x cs hn hx hsm (smT_fitT _ _ x hok.1 hok.2.2 hsm) (keys_nodup (srt_cut (unkn_sorted _ _))) (fit_ok _ x hfl hk) (write_fit _ _ x hfl) (write_le _ _ x hfl hk (by decide))
theorem fn_EnvelopeRequest (t : Vw) (n : Nat) (x : Tre) (cs : List Value) (hn : n < 256) (hx : RT t x cs) (hsm : smT x) : CS Try.prog 6 [.int .u8 (n : Int), .agg cs.toArray] t (.bool true) := by
  obtain ⟨_, _, _, _, _, _, _, uc, _, hUs⟩ := hx.open
  have hk := hUs.keys
  have hfl : ∀ f ∈ F_EnvelopeRequest, flatF f = true := by decide
  have hok := ok_F_EnvelopeRequest
  exact law_EnvelopeRequest tags_AppendEach t n x cs hn hx hsm (smT_fitT _ _ x hok.1 hok.2.2 hsm) (keys_nodup (srt_cut (unkn_sorted _ _))) (fit_ok _ x hfl hk) (write_fit _ _ x hfl) (write_le _ _ x hfl hk (by decide))
theorem fn_HeartbeatRequest (t : Vw) (n : Nat) (x : Tre) (cs : List Value) (hn : n < 256) (hx : RT t x cs) (hsm : smT x) : CS Try.prog 7 [.int .u8 (n : Int), .agg cs.toArray] t (.bool true) := by
  obtain ⟨_, _, _, _, _, _, _, uc, _, hUs⟩ := hx.open
  have hk := hUs.keys
  have hfl : ∀ f ∈ F_HeartbeatRequest, flatF f = true := by decide
  have hok := ok_F_HeartbeatRequest
  exact law_HeartbeatRequest tags_AppendEach t n x cs hn hx hsm (smT_fitT _ _ x hok.1 hok.2.2 hsm) (keys_nodup (srt_cut (unkn_sorted _ _))) (fit_ok _ x hfl hk) (write_fit _ _ x hfl) (write_le _ _ x hfl hk (by decide))
end K
end Go.Proofs.Ytoledocfkjohhaa
