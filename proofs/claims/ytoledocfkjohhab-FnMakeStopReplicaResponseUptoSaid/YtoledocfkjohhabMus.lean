import Derived.Test.YtoledocfkjohhabQ0
set_option linter.unusedVariables false
set_option linter.unusedSimpArgs false
namespace Go.Proofs.Ytoledocfkjohhab
namespace K
open Go Go.Lib
def F_sStopReplicaResponsePartition : List Fld := [.mk 8 0 (-1) (-1) (-1) 0 0 [], .mk 3 0 (-1) (-1) (-1) 0 0 [], .mk 2 0 (-1) (-1) (-1) 0 0 []]
theorem sch_F_sStopReplicaResponsePartition (t : Vw) : CA Try.prog 20 [] t fun u r => ∃ lc, RS u 8 r F_sStopReplicaResponsePartition.length lc ∧ RFs u F_sStopReplicaResponsePartition lc := by
  refine ca_enter Try.func20 rfl Try.ntmps20 rfl ?_
  refine cd_sr ?_
  refine ln_pv (pv_assign rfl) rfl ?_
  refine ln_cd ?_
  refine cd_sr ?_
  refine ln_pv (pv_struct [(0, 1), (1, 1), (2, 1), (3, 1), (4, 1), (5, 1), (6, 1), (7, 1)] (l := [_, _, _, _, _, _, _, _]) rfl Try.underlying50 tispec_Field (by kernel_rfl) rfl rfl) rfl ?_
  refine ln_pv (pv_struct [(0, 1), (1, 1), (2, 1), (3, 1), (4, 1), (5, 1), (6, 1), (7, 1)] (l := [_, _, _, _, _, _, _, _]) rfl Try.underlying50 tispec_Field (by kernel_rfl) rfl rfl) rfl ?_
  refine ln_pv (pv_struct [(0, 1), (1, 1), (2, 1), (3, 1), (4, 1), (5, 1), (6, 1), (7, 1)] (l := [_, _, _, _, _, _, _, _]) rfl Try.underlying50 tispec_Field (by kernel_rfl) rfl rfl) rfl ?_
  refine ln_lit (vs := [_, _, _]) Try.underlying29 tispec_Field rfl (by decide) rfl rfl rfl rfl rfl rfl (fun b1 => ?_)
  refine ln_pv (pv_assign rfl) rfl ?_
  refine ln_cd ?_
  refine cd_ret ?_
  refine at_retA rfl rfl (fun w hS => ?_)
  exact ⟨_, obj_rs hS (i := 0) (m := 3) (sz := 8) rfl rfl (by simp [flat, Value.cells]), (RFs.leaf (RFs.leaf (RFs.leaf rfl)))⟩

def F_StopReplicaResponse : List Fld := [.mk 2 0 (-1) (-1) (-1) 0 0 [], .mk 11 0 (-1) (-1) (-1) 0 10 F_sStopReplicaResponsePartition]
theorem sch_F_StopReplicaResponse (t : Vw) : CA Try.prog 7 [] t fun u r => ∃ sv lc, r = .agg #[sv, .int .i64 (2)] ∧ RS u 8 sv F_StopReplicaResponse.length lc ∧ RFs u F_StopReplicaResponse lc := by
  refine ca_enter Try.func7 rfl Try.ntmps7 rfl ?_
  refine cd_sr ?_
  refine ln_alloc tispec_Message rfl rfl (fun b1 => ?_)
  refine ln_cd ?_
  refine cd_sr ?_
  refine ln_pv (pv_struct [(0, 1), (1, 1), (2, 1), (3, 1), (4, 1), (5, 1), (6, 1), (7, 1)] (l := [_, _, _, _, _, _, _, _]) rfl Try.underlying50 tispec_Field (by kernel_rfl) rfl rfl) rfl ?_
  refine ln_callA en_20 rfl (fun u hu => sch_F_sStopReplicaResponsePartition u) rfl (fun u1 v1 ht1 hR1 => ?_)
  obtain ⟨lc1, hV1, hF1⟩ := hR1
  refine ln_pv (pv_struct [(0, 1), (1, 1), (2, 1), (3, 1), (4, 1), (5, 1), (6, 1), (7, 1)] (l := [_, _, _, _, _, _, _, _]) rfl Try.underlying50 tispec_Field (by kernel_rfl) rfl (by simp [okL, Nat.ble_eq, Value.cells, (RS.one hV1)])) rfl ?_
  refine ln_lit (vs := [_, _]) Try.underlying29 tispec_Field rfl (by decide) rfl rfl rfl rfl rfl rfl (fun b2 => ?_)
  refine ln_pv (pv_struct [(0, 1), (1, 1)] (l := [_, _]) rfl Try.underlying31 tispec_Message (by kernel_rfl) rfl rfl) rfl ?_
  refine ln_storeW (i := 1) rfl rfl rfl rfl (tispec_Message).size rfl (by simp []) ?_
  refine ln_cd ?_
  refine cd_ret ?_
  refine at_retC (i := 1) rfl rfl rfl Try.underlying31 rfl tispec_Message.size rfl (fun w hS => ?_)
  exact ⟨_, _, rfl, obj_rs hS (i := 0) (m := 2) (sz := 8) rfl rfl (by simp [flat, Value.cells, RS.one hV1]), (RFs.leaf (RFs.part (RS.mv hV1 hS.trFin) (RFs.mv hF1 hS.trFin) rfl))⟩
theorem ok_F_StopReplicaResponse : okFs F_StopReplicaResponse = true ∧ ofOks F_StopReplicaResponse = true ∧ F_StopReplicaResponse.length < 1000000 := by decide
theorem max_ver_StopReplicaResponse (t : Vw) (p : Value) : CS Try.prog 19 [p] t (.int .i16 4) := by
  refine CA.cs ?_
  refine ca_enter Try.func19 rfl Try.ntmps19 rfl ?_
  refine cd_sr ?_
  refine ln_pv (pv_assign rfl) rfl ?_
  refine ln_cd ?_
  refine cd_sr ?_
  refine ln_pv (pv_assign rfl) rfl ?_
  refine ln_cd ?_
  refine cd_ret ?_
  exact at_retA rfl rfl (fun w hS => rfl)
theorem dflt_StopReplicaResponse (t : Vw) (p : Value) : CS Try.prog 36 [p] t (.tuple #[]) := by
  refine CA.cs ?_
  refine ca_enter Try.func36 rfl Try.ntmps36 rfl ?_
  refine cd_skip ?_
  exact at_retA0 rfl (fun w hS => rfl)
theorem newptr_StopReplicaResponse (t : Vw) : CA Try.prog 18 [] t fun u r => True := by
  refine ca_enter Try.func18 rfl Try.ntmps18 rfl ?_
  refine cd_sr ?_
  refine ln_pv (pv_assign rfl) rfl ?_
  refine ln_cd ?_
  refine cd_sr ?_
  refine ln_alloc tipub_kmsg_StopReplicaResponse rfl rfl (fun b1 => ?_)
  refine ln_cd ?_
  refine cd_sr ?_
  refine ln_callS en_36 rfl (fun u hu => dflt_StopReplicaResponse u _) rfl ?_
  refine ln_cd ?_
  refine cd_sr ?_
  refine ln_pv (pv_assign rfl) rfl ?_
  refine ln_cd ?_
  refine cd_ret ?_
  exact at_retA rfl rfl (fun w hS => trivial)
theorem max_StopReplicaResponse (t : Vw) : CS Try.prog 6 [] t (.int .i64 4) := by
  refine CA.cs ?_
  refine ca_enter Try.func6 rfl Try.ntmps6 rfl ?_
  refine cd_sr ?_
  refine ln_pv (pv_assign rfl) rfl ?_
  refine ln_cd ?_
  refine cd_sr ?_
  refine ln_callA en_18 rfl (fun u hu => newptr_StopReplicaResponse u) rfl (fun u1 v1 ht1 hR1 => ?_)
  refine ln_callS en_19 rfl (fun u hu => max_ver_StopReplicaResponse u _) rfl ?_
  refine ln_pv (pv_conv Try.underlying45 Try.underlying3 rfl) rfl ?_
  refine ln_pv (pv_assign rfl) rfl ?_
  refine ln_cd ?_
  refine cd_ret ?_
  exact at_retA rfl rfl (fun w hS => rfl)
end K
end Go.Proofs.Ytoledocfkjohhab
