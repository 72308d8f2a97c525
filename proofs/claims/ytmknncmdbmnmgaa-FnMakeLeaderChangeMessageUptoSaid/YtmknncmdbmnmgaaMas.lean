import Derived.Test.YtmknncmdbmnmgaaQ0
set_option linter.unusedVariables false
set_option linter.unusedSimpArgs false
namespace Go.Proofs.Ytmknncmdbmnmgaa
namespace K
open Go Go.Lib
def F_sLeaderChangeMessageVoter : List Fld := [.mk 3 0 (-1) (-1) (-1) 0 0 [], .mk 7 1 (-1) (-1) (-1) 0 0 []]
theorem sch_F_sLeaderChangeMessageVoter (t : Vw) : CA Try.prog 58 [] t fun u r => ∃ lc, RS u 8 r F_sLeaderChangeMessageVoter.length lc ∧ RFs u F_sLeaderChangeMessageVoter lc := by
  refine ca_enter Try.func58 rfl Try.ntmps58 rfl ?_
  refine cd_sr ?_
  refine ln_pv (pv_assign rfl) rfl ?_
  refine ln_cd ?_
  refine cd_sr ?_
  refine ln_pv (pv_struct [(0, 1), (1, 1), (2, 1), (3, 1), (4, 1), (5, 1), (6, 1), (7, 1)] (l := [_, _, _, _, _, _, _, _]) rfl Try.underlying46 tispec_Field (by kernel_rfl) rfl rfl) rfl ?_
  refine ln_pv (pv_struct [(0, 1), (1, 1), (2, 1), (3, 1), (4, 1), (5, 1), (6, 1), (7, 1)] (l := [_, _, _, _, _, _, _, _]) rfl Try.underlying46 tispec_Field (by kernel_rfl) rfl rfl) rfl ?_
  refine ln_lit (vs := [_, _]) Try.underlying28 tispec_Field rfl (by decide) rfl rfl rfl rfl rfl rfl (fun b1 => ?_)
  refine ln_pv (pv_assign rfl) rfl ?_
  refine ln_cd ?_
  refine cd_ret ?_
  refine at_retA rfl rfl (fun w hS => ?_)
  exact ⟨_, obj_rs hS (i := 0) (m := 2) (sz := 8) rfl rfl (by simp [flat, Value.cells]), (RFs.leaf (RFs.leaf rfl))⟩

def F_LeaderChangeMessage : List Fld := [.mk 3 0 (-1) (-1) (-1) 0 0 [], .mk 11 0 (-1) (-1) (-1) 0 10 F_sLeaderChangeMessageVoter, .mk 11 0 (-1) (-1) (-1) 0 10 F_sLeaderChangeMessageVoter]
theorem sch_F_LeaderChangeMessage (t : Vw) : CA Try.prog 16 [] t fun u r => ∃ sv lc, r = .agg #[sv, .int .i64 (0)] ∧ RS u 8 sv F_LeaderChangeMessage.length lc ∧ RFs u F_LeaderChangeMessage lc := by
  refine ca_enter Try.func16 rfl Try.ntmps16 rfl ?_
  refine cd_sr ?_
  refine ln_alloc tispec_Message rfl rfl (fun b1 => ?_)
  refine ln_cd ?_
  refine cd_sr ?_
  refine ln_pv (pv_struct [(0, 1), (1, 1), (2, 1), (3, 1), (4, 1), (5, 1), (6, 1), (7, 1)] (l := [_, _, _, _, _, _, _, _]) rfl Try.underlying46 tispec_Field (by kernel_rfl) rfl rfl) rfl ?_
  refine ln_callA en_58 rfl (fun u hu => sch_F_sLeaderChangeMessageVoter u) rfl (fun u1 v1 ht1 hR1 => ?_)
  obtain ⟨lc1, hV1, hF1⟩ := hR1
  refine ln_pv (pv_struct [(0, 1), (1, 1), (2, 1), (3, 1), (4, 1), (5, 1), (6, 1), (7, 1)] (l := [_, _, _, _, _, _, _, _]) rfl Try.underlying46 tispec_Field (by kernel_rfl) rfl (by simp [okL, Nat.ble_eq, Value.cells, (RS.one hV1)])) rfl ?_
  refine ln_callA en_58 rfl (fun u hu => sch_F_sLeaderChangeMessageVoter u) rfl (fun u2 v2 ht2 hR2 => ?_)
  have hV1 := hV1.mv ht2
  have hF1 := hF1.mv ht2
  obtain ⟨lc2, hV2, hF2⟩ := hR2
  refine ln_pv (pv_struct [(0, 1), (1, 1), (2, 1), (3, 1), (4, 1), (5, 1), (6, 1), (7, 1)] (l := [_, _, _, _, _, _, _, _]) rfl Try.underlying46 tispec_Field (by kernel_rfl) rfl (by simp [okL, Nat.ble_eq, Value.cells, (RS.one hV2)])) rfl ?_
  refine ln_lit (vs := [_, _, _]) Try.underlying28 tispec_Field rfl (by decide) rfl rfl rfl rfl rfl rfl (fun b2 => ?_)
  refine ln_pv (pv_struct [(0, 1), (1, 1)] (l := [_, _]) rfl Try.underlying30 tispec_Message (by kernel_rfl) rfl rfl) rfl ?_
  refine ln_storeW (i := 1) rfl rfl rfl rfl (tispec_Message).size rfl (by simp []) ?_
  refine ln_cd ?_
  refine cd_ret ?_
  refine at_retC (i := 1) rfl rfl rfl Try.underlying30 rfl tispec_Message.size rfl (fun w hS => ?_)
  exact ⟨_, _, rfl, obj_rs hS (i := 0) (m := 3) (sz := 8) rfl rfl (by simp [flat, Value.cells, RS.one hV1, RS.one hV2]), (RFs.leaf (RFs.part (RS.mv hV1 hS.trFin) (RFs.mv hF1 hS.trFin) (RFs.part (RS.mv hV2 hS.trFin) (RFs.mv hF2 hS.trFin) rfl)))⟩
theorem ok_F_LeaderChangeMessage : okFs F_LeaderChangeMessage = true ∧ ofOks F_LeaderChangeMessage = true ∧ F_LeaderChangeMessage.length < 1000000 := by decide
end K
end Go.Proofs.Ytmknncmdbmnmgaa
