import Derived.Test.YtnolhlnncbajdaaGreatDoorRQ0
set_option linter.unusedVariables false
set_option linter.unusedSimpArgs false
namespace Go.Proofs.YtnolhlnncbajdaaGreatDoorR
namespace K
open Go Go.Lib
def F_sReadShareGroupStateSummaryRequestTopicPartition : List Fld := [.mk 3 0 (-1) (-1) (-1) 0 0 [], .mk 3 0 (-1) (-1) (-1) 0 0 []]
theorem sch_F_sReadShareGroupStateSummaryRequestTopicPartition (t : Vw) : CA Tryz.prog 50 [] t fun u r => ∃ lc, RS u 8 r F_sReadShareGroupStateSummaryRequestTopicPartition.length lc ∧ RFs u F_sReadShareGroupStateSummaryRequestTopicPartition lc := by
  refine ca_enter Tryz.func50 rfl Tryz.ntmps50 rfl ?_
  refine cd_sr ?_
  refine ln_pv (pv_assign rfl) rfl ?_
  refine ln_cd ?_
  refine cd_sr ?_
  refine ln_pv (pv_struct [(0, 1), (1, 1), (2, 1), (3, 1), (4, 1), (5, 1), (6, 1), (7, 1)] (l := [_, _, _, _, _, _, _, _]) rfl Tryz.underlying50 tispec_Field (by kernel_rfl) rfl rfl) rfl ?_
  refine ln_pv (pv_struct [(0, 1), (1, 1), (2, 1), (3, 1), (4, 1), (5, 1), (6, 1), (7, 1)] (l := [_, _, _, _, _, _, _, _]) rfl Tryz.underlying50 tispec_Field (by kernel_rfl) rfl rfl) rfl ?_
  refine ln_lit (vs := [_, _]) Tryz.underlying32 tispec_Field rfl (by decide) rfl rfl rfl rfl rfl rfl (fun b1 => ?_)
  refine ln_pv (pv_assign rfl) rfl ?_
  refine ln_cd ?_
  refine cd_ret ?_
  refine at_retA rfl rfl (fun w hS => ?_)
  exact ⟨_, obj_rs hS (i := 0) (m := 2) (sz := 8) rfl rfl (by simp [flat, Value.cells]), (RFs.leaf (RFs.leaf rfl))⟩

def F_sReadShareGroupStateSummaryRequestTopic : List Fld := [.mk 7 0 (-1) (-1) (-1) 0 0 [], .mk 11 0 (-1) (-1) (-1) 0 10 F_sReadShareGroupStateSummaryRequestTopicPartition]
theorem sch_F_sReadShareGroupStateSummaryRequestTopic (t : Vw) : CA Tryz.prog 29 [] t fun u r => ∃ lc, RS u 8 r F_sReadShareGroupStateSummaryRequestTopic.length lc ∧ RFs u F_sReadShareGroupStateSummaryRequestTopic lc := by
  refine ca_enter Tryz.func29 rfl Tryz.ntmps29 rfl ?_
  refine cd_sr ?_
  refine ln_pv (pv_assign rfl) rfl ?_
  refine ln_cd ?_
  refine cd_sr ?_
  refine ln_pv (pv_struct [(0, 1), (1, 1), (2, 1), (3, 1), (4, 1), (5, 1), (6, 1), (7, 1)] (l := [_, _, _, _, _, _, _, _]) rfl Tryz.underlying50 tispec_Field (by kernel_rfl) rfl rfl) rfl ?_
  refine ln_callA en_50 rfl (fun u hu => sch_F_sReadShareGroupStateSummaryRequestTopicPartition u) rfl (fun u1 v1 ht1 hR1 => ?_)
  obtain ⟨lc1, hV1, hF1⟩ := hR1
  refine ln_pv (pv_struct [(0, 1), (1, 1), (2, 1), (3, 1), (4, 1), (5, 1), (6, 1), (7, 1)] (l := [_, _, _, _, _, _, _, _]) rfl Tryz.underlying50 tispec_Field (by kernel_rfl) rfl (by simp [okL, Nat.ble_eq, Value.cells, (RS.one hV1)])) rfl ?_
  refine ln_lit (vs := [_, _]) Tryz.underlying32 tispec_Field rfl (by decide) rfl rfl rfl rfl rfl rfl (fun b1 => ?_)
  refine ln_pv (pv_assign rfl) rfl ?_
  refine ln_cd ?_
  refine cd_ret ?_
  refine at_retA rfl rfl (fun w hS => ?_)
  exact ⟨_, obj_rs hS (i := 0) (m := 2) (sz := 8) rfl rfl (by simp [flat, Value.cells, RS.one hV1]), (RFs.leaf (RFs.part (RS.mv hV1 hS.trFin) (RFs.mv hF1 hS.trFin) rfl))⟩

def F_ReadShareGroupStateSummaryRequest : List Fld := [.mk 8 0 (-1) (-1) (-1) 0 0 [], .mk 11 0 (-1) (-1) (-1) 0 10 F_sReadShareGroupStateSummaryRequestTopic]
theorem sch_F_ReadShareGroupStateSummaryRequest (t : Vw) : CA Tryz.prog 10 [] t fun u r => ∃ sv lc, r = .agg #[sv, .int .i64 (0)] ∧ RS u 8 sv F_ReadShareGroupStateSummaryRequest.length lc ∧ RFs u F_ReadShareGroupStateSummaryRequest lc := by
  refine ca_enter Tryz.func10 rfl Tryz.ntmps10 rfl ?_
  refine cd_sr ?_
  refine ln_alloc tispec_Message rfl rfl (fun b1 => ?_)
  refine ln_cd ?_
  refine cd_sr ?_
  refine ln_pv (pv_struct [(0, 1), (1, 1), (2, 1), (3, 1), (4, 1), (5, 1), (6, 1), (7, 1)] (l := [_, _, _, _, _, _, _, _]) rfl Tryz.underlying50 tispec_Field (by kernel_rfl) rfl rfl) rfl ?_
  refine ln_callA en_29 rfl (fun u hu => sch_F_sReadShareGroupStateSummaryRequestTopic u) rfl (fun u1 v1 ht1 hR1 => ?_)
  obtain ⟨lc1, hV1, hF1⟩ := hR1
  refine ln_pv (pv_struct [(0, 1), (1, 1), (2, 1), (3, 1), (4, 1), (5, 1), (6, 1), (7, 1)] (l := [_, _, _, _, _, _, _, _]) rfl Tryz.underlying50 tispec_Field (by kernel_rfl) rfl (by simp [okL, Nat.ble_eq, Value.cells, (RS.one hV1)])) rfl ?_
  refine ln_lit (vs := [_, _]) Tryz.underlying32 tispec_Field rfl (by decide) rfl rfl rfl rfl rfl rfl (fun b2 => ?_)
  refine ln_pv (pv_struct [(0, 1), (1, 1)] (l := [_, _]) rfl Tryz.underlying34 tispec_Message (by kernel_rfl) rfl rfl) rfl ?_
  refine ln_storeW (i := 1) rfl rfl rfl rfl (tispec_Message).size rfl (by simp []) ?_
  refine ln_cd ?_
  refine cd_ret ?_
  refine at_retC (i := 1) rfl rfl rfl Tryz.underlying34 rfl tispec_Message.size rfl (fun w hS => ?_)
  exact ⟨_, _, rfl, obj_rs hS (i := 0) (m := 2) (sz := 8) rfl rfl (by simp [flat, Value.cells, RS.one hV1]), (RFs.leaf (RFs.part (RS.mv hV1 hS.trFin) (RFs.mv hF1 hS.trFin) rfl))⟩
theorem ok_F_ReadShareGroupStateSummaryRequest : okFs F_ReadShareGroupStateSummaryRequest = true ∧ ofOks F_ReadShareGroupStateSummaryRequest = true ∧ F_ReadShareGroupStateSummaryRequest.length < 1000000 := by decide
theorem max_ver_ReadShareGroupStateSummaryRequest (t : Vw) (p : Value) : CS Tryz.prog 28 [p] t (.int .i16 1) := by
  refine CA.cs ?_
  refine ca_enter Tryz.func28 rfl Tryz.ntmps28 rfl ?_
  refine cd_sr ?_
  refine ln_pv (pv_assign rfl) rfl ?_
  refine ln_cd ?_
  refine cd_sr ?_
  refine ln_pv (pv_assign rfl) rfl ?_
  refine ln_cd ?_
  refine cd_ret ?_
  exact at_retA rfl rfl (fun w hS => rfl)
theorem dflt_ReadShareGroupStateSummaryRequest (t : Vw) (p : Value) : CS Tryz.prog 49 [p] t (.tuple #[]) := by
  refine CA.cs ?_
  refine ca_enter Tryz.func49 rfl Tryz.ntmps49 rfl ?_
  refine cd_skip ?_
  exact at_retA0 rfl (fun w hS => rfl)
theorem newptr_ReadShareGroupStateSummaryRequest (t : Vw) : CA Tryz.prog 27 [] t fun u r => True := by
  refine ca_enter Tryz.func27 rfl Tryz.ntmps27 rfl ?_
  refine cd_sr ?_
  refine ln_pv (pv_assign rfl) rfl ?_
  refine ln_cd ?_
  refine cd_sr ?_
  refine ln_alloc tipub_kmsg_ReadShareGroupStateSummaryRequest rfl rfl (fun b1 => ?_)
  refine ln_cd ?_
  refine cd_sr ?_
  refine ln_callS en_49 rfl (fun u hu => dflt_ReadShareGroupStateSummaryRequest u _) rfl ?_
  refine ln_cd ?_
  refine cd_sr ?_
  refine ln_pv (pv_assign rfl) rfl ?_
  refine ln_cd ?_
  refine cd_ret ?_
  exact at_retA rfl rfl (fun w hS => trivial)
theorem max_ReadShareGroupStateSummaryRequest (t : Vw) : CS Tryz.prog 9 [] t (.int .i64 1) := by
  refine CA.cs ?_
  refine ca_enter Tryz.func9 rfl Tryz.ntmps9 rfl ?_
  refine cd_sr ?_
  refine ln_pv (pv_assign rfl) rfl ?_
  refine ln_cd ?_
  refine cd_sr ?_
  refine ln_callA en_27 rfl (fun u hu => newptr_ReadShareGroupStateSummaryRequest u) rfl (fun u1 v1 ht1 hR1 => ?_)
  refine ln_callS en_28 rfl (fun u hu => max_ver_ReadShareGroupStateSummaryRequest u _) rfl ?_
  refine ln_pv (pv_conv Tryz.underlying45 Tryz.underlying3 rfl) rfl ?_
  refine ln_pv (pv_assign rfl) rfl ?_
  refine ln_cd ?_
  refine cd_ret ?_
  exact at_retA rfl rfl (fun w hS => rfl)
end K
end Go.Proofs.YtnolhlnncbajdaaGreatDoorR
