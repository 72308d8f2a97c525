import Derived.Test.YtekafeogilbjmaaGreatDoorQ0
set_option linter.unusedVariables false
set_option linter.unusedSimpArgs false
namespace Go.Proofs.YtekafeogilbjmaaGreatDoor
namespace K
open Go Go.Lib
def F_sDeleteShareGroupStateRequestTopicPartition : List Fld := [.mk 3 0 (-1) (-1) (-1) 0 0 []]
theorem sch_F_sDeleteShareGroupStateRequestTopicPartition (t : Vw) : CA Tryz.prog 141 [] t fun u r => ∃ lc, RS u 8 r F_sDeleteShareGroupStateRequestTopicPartition.length lc ∧ RFs u F_sDeleteShareGroupStateRequestTopicPartition lc := by
  refine ca_enter Tryz.func141 rfl Tryz.ntmps141 rfl ?_
  refine cd_sr ?_
  refine ln_pv (pv_assign rfl) rfl ?_
  refine ln_cd ?_
  refine cd_sr ?_
  refine ln_pv (pv_struct [(0, 1), (1, 1), (2, 1), (3, 1), (4, 1), (5, 1), (6, 1), (7, 1)] (l := [_, _, _, _, _, _, _, _]) rfl Tryz.underlying51 tispec_Field (by kernel_rfl) rfl rfl) rfl ?_
  refine ln_lit (vs := [_]) Tryz.underlying29 tispec_Field rfl (by decide) rfl rfl rfl rfl rfl rfl (fun b1 => ?_)
  refine ln_pv (pv_assign rfl) rfl ?_
  refine ln_cd ?_
  refine cd_ret ?_
  refine at_retA rfl rfl (fun w hS => ?_)
  exact ⟨_, obj_rs hS (i := 0) (m := 1) (sz := 8) rfl rfl (by simp [flat, Value.cells]), (RFs.leaf rfl)⟩

def F_sDeleteShareGroupStateRequestTopic : List Fld := [.mk 7 0 (-1) (-1) (-1) 0 0 [], .mk 11 0 (-1) (-1) (-1) 0 10 F_sDeleteShareGroupStateRequestTopicPartition]
theorem sch_F_sDeleteShareGroupStateRequestTopic (t : Vw) : CA Tryz.prog 73 [] t fun u r => ∃ lc, RS u 8 r F_sDeleteShareGroupStateRequestTopic.length lc ∧ RFs u F_sDeleteShareGroupStateRequestTopic lc := by
  refine ca_enter Tryz.func73 rfl Tryz.ntmps73 rfl ?_
  refine cd_sr ?_
  refine ln_pv (pv_assign rfl) rfl ?_
  refine ln_cd ?_
  refine cd_sr ?_
  refine ln_pv (pv_struct [(0, 1), (1, 1), (2, 1), (3, 1), (4, 1), (5, 1), (6, 1), (7, 1)] (l := [_, _, _, _, _, _, _, _]) rfl Tryz.underlying51 tispec_Field (by kernel_rfl) rfl rfl) rfl ?_
  refine ln_callA en_141 rfl (fun u hu => sch_F_sDeleteShareGroupStateRequestTopicPartition u) rfl (fun u1 v1 ht1 hR1 => ?_)
  obtain ⟨lc1, hV1, hF1⟩ := hR1
  refine ln_pv (pv_struct [(0, 1), (1, 1), (2, 1), (3, 1), (4, 1), (5, 1), (6, 1), (7, 1)] (l := [_, _, _, _, _, _, _, _]) rfl Tryz.underlying51 tispec_Field (by kernel_rfl) rfl (by simp [okL, Nat.ble_eq, Value.cells, (RS.one hV1)])) rfl ?_
  refine ln_lit (vs := [_, _]) Tryz.underlying29 tispec_Field rfl (by decide) rfl rfl rfl rfl rfl rfl (fun b1 => ?_)
  refine ln_pv (pv_assign rfl) rfl ?_
  refine ln_cd ?_
  refine cd_ret ?_
  refine at_retA rfl rfl (fun w hS => ?_)
  exact ⟨_, obj_rs hS (i := 0) (m := 2) (sz := 8) rfl rfl (by simp [flat, Value.cells, RS.one hV1]), (RFs.leaf (RFs.part (RS.mv hV1 hS.trFin) (RFs.mv hF1 hS.trFin) rfl))⟩

def F_DeleteShareGroupStateRequest : List Fld := [.mk 8 0 (-1) (-1) (-1) 0 0 [], .mk 11 0 (-1) (-1) (-1) 0 10 F_sDeleteShareGroupStateRequestTopic]
theorem sch_F_DeleteShareGroupStateRequest (t : Vw) : CA Tryz.prog 26 [] t fun u r => ∃ sv lc, r = .agg #[sv, .int .i64 (0)] ∧ RS u 8 sv F_DeleteShareGroupStateRequest.length lc ∧ RFs u F_DeleteShareGroupStateRequest lc := by
  refine ca_enter Tryz.func26 rfl Tryz.ntmps26 rfl ?_
  refine cd_sr ?_
  refine ln_alloc tispec_Message rfl rfl (fun b1 => ?_)
  refine ln_cd ?_
  refine cd_sr ?_
  refine ln_pv (pv_struct [(0, 1), (1, 1), (2, 1), (3, 1), (4, 1), (5, 1), (6, 1), (7, 1)] (l := [_, _, _, _, _, _, _, _]) rfl Tryz.underlying51 tispec_Field (by kernel_rfl) rfl rfl) rfl ?_
  refine ln_callA en_73 rfl (fun u hu => sch_F_sDeleteShareGroupStateRequestTopic u) rfl (fun u1 v1 ht1 hR1 => ?_)
  obtain ⟨lc1, hV1, hF1⟩ := hR1
  refine ln_pv (pv_struct [(0, 1), (1, 1), (2, 1), (3, 1), (4, 1), (5, 1), (6, 1), (7, 1)] (l := [_, _, _, _, _, _, _, _]) rfl Tryz.underlying51 tispec_Field (by kernel_rfl) rfl (by simp [okL, Nat.ble_eq, Value.cells, (RS.one hV1)])) rfl ?_
  refine ln_lit (vs := [_, _]) Tryz.underlying29 tispec_Field rfl (by decide) rfl rfl rfl rfl rfl rfl (fun b2 => ?_)
  refine ln_pv (pv_struct [(0, 1), (1, 1)] (l := [_, _]) rfl Tryz.underlying31 tispec_Message (by kernel_rfl) rfl rfl) rfl ?_
  refine ln_storeW (i := 1) rfl rfl rfl rfl (tispec_Message).size rfl (by simp []) ?_
  refine ln_cd ?_
  refine cd_ret ?_
  refine at_retC (i := 1) rfl rfl rfl Tryz.underlying31 rfl tispec_Message.size rfl (fun w hS => ?_)
  exact ⟨_, _, rfl, obj_rs hS (i := 0) (m := 2) (sz := 8) rfl rfl (by simp [flat, Value.cells, RS.one hV1]), (RFs.leaf (RFs.part (RS.mv hV1 hS.trFin) (RFs.mv hF1 hS.trFin) rfl))⟩
theorem ok_F_DeleteShareGroupStateRequest : okFs F_DeleteShareGroupStateRequest = true ∧ ofOks F_DeleteShareGroupStateRequest = true ∧ F_DeleteShareGroupStateRequest.length < 1000000 := by decide
theorem max_ver_DeleteShareGroupStateRequest (t : Vw) (p : Value) : CS Tryz.prog 72 [p] t (.int .i16 0) := by
  refine CA.cs ?_
  refine ca_enter Tryz.func72 rfl Tryz.ntmps72 rfl ?_
  refine cd_sr ?_
  refine ln_pv (pv_assign rfl) rfl ?_
  refine ln_cd ?_
  refine cd_sr ?_
  refine ln_pv (pv_assign rfl) rfl ?_
  refine ln_cd ?_
  refine cd_ret ?_
  exact at_retA rfl rfl (fun w hS => rfl)
theorem dflt_DeleteShareGroupStateRequest (t : Vw) (p : Value) : CS Tryz.prog 140 [p] t (.tuple #[]) := by
  refine CA.cs ?_
  refine ca_enter Tryz.func140 rfl Tryz.ntmps140 rfl ?_
  refine cd_skip ?_
  exact at_retA0 rfl (fun w hS => rfl)
theorem newptr_DeleteShareGroupStateRequest (t : Vw) : CA Tryz.prog 71 [] t fun u r => True := by
  refine ca_enter Tryz.func71 rfl Tryz.ntmps71 rfl ?_
  refine cd_sr ?_
  refine ln_pv (pv_assign rfl) rfl ?_
  refine ln_cd ?_
  refine cd_sr ?_
  refine ln_alloc tipub_kmsg_DeleteShareGroupStateRequest rfl rfl (fun b1 => ?_)
  refine ln_cd ?_
  refine cd_sr ?_
  refine ln_callS en_140 rfl (fun u hu => dflt_DeleteShareGroupStateRequest u _) rfl ?_
  refine ln_cd ?_
  refine cd_sr ?_
  refine ln_pv (pv_assign rfl) rfl ?_
  refine ln_cd ?_
  refine cd_ret ?_
  exact at_retA rfl rfl (fun w hS => trivial)
theorem max_DeleteShareGroupStateRequest (t : Vw) : CS Tryz.prog 25 [] t (.int .i64 0) := by
  refine CA.cs ?_
  refine ca_enter Tryz.func25 rfl Tryz.ntmps25 rfl ?_
  refine cd_sr ?_
  refine ln_pv (pv_assign rfl) rfl ?_
  refine ln_cd ?_
  refine cd_sr ?_
  refine ln_callA en_71 rfl (fun u hu => newptr_DeleteShareGroupStateRequest u) rfl (fun u1 v1 ht1 hR1 => ?_)
  refine ln_callS en_72 rfl (fun u hu => max_ver_DeleteShareGroupStateRequest u _) rfl ?_
  refine ln_pv (pv_conv Tryz.underlying46 Tryz.underlying3 rfl) rfl ?_
  refine ln_pv (pv_assign rfl) rfl ?_
  refine ln_cd ?_
  refine cd_ret ?_
  exact at_retA rfl rfl (fun w hS => rfl)
end K
end Go.Proofs.YtekafeogilbjmaaGreatDoor
