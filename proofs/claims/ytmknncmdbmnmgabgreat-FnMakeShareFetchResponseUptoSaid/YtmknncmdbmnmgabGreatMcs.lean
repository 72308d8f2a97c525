import Derived.Test.YtmknncmdbmnmgabGreatQ0
set_option linter.unusedVariables false
set_option linter.unusedSimpArgs false
namespace Go.Proofs.YtmknncmdbmnmgabGreat
namespace K
open Go Go.Lib
def F_sShareFetchResponseTopicPartitionCurrentLeader : List Fld := [.mk 3 0 (-1) (-1) (-1) 0 0 [], .mk 3 0 (-1) (-1) (-1) 0 0 []]
theorem sch_F_sShareFetchResponseTopicPartitionCurrentLeader (t : Vw) : CA Tryz.prog 116 [] t fun u r => ∃ lc, RS u 8 r F_sShareFetchResponseTopicPartitionCurrentLeader.length lc ∧ RFs u F_sShareFetchResponseTopicPartitionCurrentLeader lc := by
  refine ca_enter Tryz.func116 rfl Tryz.ntmps116 rfl ?_
  refine cd_sr ?_
  refine ln_pv (pv_assign rfl) rfl ?_
  refine ln_cd ?_
  refine cd_sr ?_
  refine ln_pv (pv_struct [(0, 1), (1, 1), (2, 1), (3, 1), (4, 1), (5, 1), (6, 1), (7, 1)] (l := [_, _, _, _, _, _, _, _]) rfl Tryz.underlying50 tispec_Field (by kernel_rfl) rfl rfl) rfl ?_
  refine ln_pv (pv_struct [(0, 1), (1, 1), (2, 1), (3, 1), (4, 1), (5, 1), (6, 1), (7, 1)] (l := [_, _, _, _, _, _, _, _]) rfl Tryz.underlying50 tispec_Field (by kernel_rfl) rfl rfl) rfl ?_
  refine ln_lit (vs := [_, _]) Tryz.underlying29 tispec_Field rfl (by decide) rfl rfl rfl rfl rfl rfl (fun b1 => ?_)
  refine ln_pv (pv_assign rfl) rfl ?_
  refine ln_cd ?_
  refine cd_ret ?_
  refine at_retA rfl rfl (fun w hS => ?_)
  exact ⟨_, obj_rs hS (i := 0) (m := 2) (sz := 8) rfl rfl (by simp [flat, Value.cells]), (RFs.leaf (RFs.leaf rfl))⟩

def F_sShareFetchResponseTopicPartitionAcquiredRecord : List Fld := [.mk 4 0 (-1) (-1) (-1) 0 0 [], .mk 4 0 (-1) (-1) (-1) 0 0 [], .mk 2 0 (-1) (-1) (-1) 0 0 []]
theorem sch_F_sShareFetchResponseTopicPartitionAcquiredRecord (t : Vw) : CA Tryz.prog 117 [] t fun u r => ∃ lc, RS u 8 r F_sShareFetchResponseTopicPartitionAcquiredRecord.length lc ∧ RFs u F_sShareFetchResponseTopicPartitionAcquiredRecord lc := by
  refine ca_enter Tryz.func117 rfl Tryz.ntmps117 rfl ?_
  refine cd_sr ?_
  refine ln_pv (pv_assign rfl) rfl ?_
  refine ln_cd ?_
  refine cd_sr ?_
  refine ln_pv (pv_struct [(0, 1), (1, 1), (2, 1), (3, 1), (4, 1), (5, 1), (6, 1), (7, 1)] (l := [_, _, _, _, _, _, _, _]) rfl Tryz.underlying50 tispec_Field (by kernel_rfl) rfl rfl) rfl ?_
  refine ln_pv (pv_struct [(0, 1), (1, 1), (2, 1), (3, 1), (4, 1), (5, 1), (6, 1), (7, 1)] (l := [_, _, _, _, _, _, _, _]) rfl Tryz.underlying50 tispec_Field (by kernel_rfl) rfl rfl) rfl ?_
  refine ln_pv (pv_struct [(0, 1), (1, 1), (2, 1), (3, 1), (4, 1), (5, 1), (6, 1), (7, 1)] (l := [_, _, _, _, _, _, _, _]) rfl Tryz.underlying50 tispec_Field (by kernel_rfl) rfl rfl) rfl ?_
  refine ln_lit (vs := [_, _, _]) Tryz.underlying29 tispec_Field rfl (by decide) rfl rfl rfl rfl rfl rfl (fun b1 => ?_)
  refine ln_pv (pv_assign rfl) rfl ?_
  refine ln_cd ?_
  refine cd_ret ?_
  refine at_retA rfl rfl (fun w hS => ?_)
  exact ⟨_, obj_rs hS (i := 0) (m := 3) (sz := 8) rfl rfl (by simp [flat, Value.cells]), (RFs.leaf (RFs.leaf (RFs.leaf rfl)))⟩

def F_sShareFetchResponseTopicPartition : List Fld := [.mk 3 0 (-1) (-1) (-1) 0 0 [], .mk 2 0 (-1) (-1) (-1) 0 0 [], .mk 8 0 (-1) 0 (-1) 0 0 [], .mk 2 0 (-1) (-1) (-1) 0 0 [], .mk 8 0 (-1) 0 (-1) 0 0 [], .mk 10 0 (-1) (-1) (-1) 0 0 F_sShareFetchResponseTopicPartitionCurrentLeader, .mk 9 0 (-1) (-1) (-1) 0 0 [], .mk 11 0 (-1) (-1) (-1) 0 10 F_sShareFetchResponseTopicPartitionAcquiredRecord]
theorem sch_F_sShareFetchResponseTopicPartition (t : Vw) : CA Tryz.prog 92 [] t fun u r => ∃ lc, RS u 8 r F_sShareFetchResponseTopicPartition.length lc ∧ RFs u F_sShareFetchResponseTopicPartition lc := by
  refine ca_enter Tryz.func92 rfl Tryz.ntmps92 rfl ?_
  refine cd_sr ?_
  refine ln_pv (pv_assign rfl) rfl ?_
  refine ln_cd ?_
  refine cd_sr ?_
  refine ln_pv (pv_struct [(0, 1), (1, 1), (2, 1), (3, 1), (4, 1), (5, 1), (6, 1), (7, 1)] (l := [_, _, _, _, _, _, _, _]) rfl Tryz.underlying50 tispec_Field (by kernel_rfl) rfl rfl) rfl ?_
  refine ln_pv (pv_struct [(0, 1), (1, 1), (2, 1), (3, 1), (4, 1), (5, 1), (6, 1), (7, 1)] (l := [_, _, _, _, _, _, _, _]) rfl Tryz.underlying50 tispec_Field (by kernel_rfl) rfl rfl) rfl ?_
  refine ln_pv (pv_struct [(0, 1), (1, 1), (2, 1), (3, 1), (4, 1), (5, 1), (6, 1), (7, 1)] (l := [_, _, _, _, _, _, _, _]) rfl Tryz.underlying50 tispec_Field (by kernel_rfl) rfl rfl) rfl ?_
  refine ln_pv (pv_struct [(0, 1), (1, 1), (2, 1), (3, 1), (4, 1), (5, 1), (6, 1), (7, 1)] (l := [_, _, _, _, _, _, _, _]) rfl Tryz.underlying50 tispec_Field (by kernel_rfl) rfl rfl) rfl ?_
  refine ln_pv (pv_struct [(0, 1), (1, 1), (2, 1), (3, 1), (4, 1), (5, 1), (6, 1), (7, 1)] (l := [_, _, _, _, _, _, _, _]) rfl Tryz.underlying50 tispec_Field (by kernel_rfl) rfl rfl) rfl ?_
  refine ln_callA en_116 rfl (fun u hu => sch_F_sShareFetchResponseTopicPartitionCurrentLeader u) rfl (fun u1 v1 ht1 hR1 => ?_)
  obtain ⟨lc1, hV1, hF1⟩ := hR1
  refine ln_pv (pv_struct [(0, 1), (1, 1), (2, 1), (3, 1), (4, 1), (5, 1), (6, 1), (7, 1)] (l := [_, _, _, _, _, _, _, _]) rfl Tryz.underlying50 tispec_Field (by kernel_rfl) rfl (by simp [okL, Nat.ble_eq, Value.cells, (RS.one hV1)])) rfl ?_
  refine ln_pv (pv_struct [(0, 1), (1, 1), (2, 1), (3, 1), (4, 1), (5, 1), (6, 1), (7, 1)] (l := [_, _, _, _, _, _, _, _]) rfl Tryz.underlying50 tispec_Field (by kernel_rfl) rfl rfl) rfl ?_
  refine ln_callA en_117 rfl (fun u hu => sch_F_sShareFetchResponseTopicPartitionAcquiredRecord u) rfl (fun u2 v2 ht2 hR2 => ?_)
  have hV1 := hV1.mv ht2
  have hF1 := hF1.mv ht2
  obtain ⟨lc2, hV2, hF2⟩ := hR2
  refine ln_pv (pv_struct [(0, 1), (1, 1), (2, 1), (3, 1), (4, 1), (5, 1), (6, 1), (7, 1)] (l := [_, _, _, _, _, _, _, _]) rfl Tryz.underlying50 tispec_Field (by kernel_rfl) rfl (by simp [okL, Nat.ble_eq, Value.cells, (RS.one hV2)])) rfl ?_
  refine ln_lit (vs := [_, _, _, _, _, _, _, _]) Tryz.underlying29 tispec_Field rfl (by decide) rfl rfl rfl rfl rfl rfl (fun b1 => ?_)
  refine ln_pv (pv_assign rfl) rfl ?_
  refine ln_cd ?_
  refine cd_ret ?_
  refine at_retA rfl rfl (fun w hS => ?_)
  exact ⟨_, obj_rs hS (i := 0) (m := 8) (sz := 8) rfl rfl (by simp [flat, Value.cells, RS.one hV1, RS.one hV2]), (RFs.leaf (RFs.leaf (RFs.leaf (RFs.leaf (RFs.leaf (RFs.part (RS.mv hV1 hS.trFin) (RFs.mv hF1 hS.trFin) (RFs.leaf (RFs.part (RS.mv hV2 hS.trFin) (RFs.mv hF2 hS.trFin) rfl))))))))⟩

def F_sShareFetchResponseTopic : List Fld := [.mk 7 0 (-1) (-1) (-1) 0 0 [], .mk 11 0 (-1) (-1) (-1) 0 10 F_sShareFetchResponseTopicPartition]
theorem sch_F_sShareFetchResponseTopic (t : Vw) : CA Tryz.prog 45 [] t fun u r => ∃ lc, RS u 8 r F_sShareFetchResponseTopic.length lc ∧ RFs u F_sShareFetchResponseTopic lc := by
  refine ca_enter Tryz.func45 rfl Tryz.ntmps45 rfl ?_
  refine cd_sr ?_
  refine ln_pv (pv_assign rfl) rfl ?_
  refine ln_cd ?_
  refine cd_sr ?_
  refine ln_pv (pv_struct [(0, 1), (1, 1), (2, 1), (3, 1), (4, 1), (5, 1), (6, 1), (7, 1)] (l := [_, _, _, _, _, _, _, _]) rfl Tryz.underlying50 tispec_Field (by kernel_rfl) rfl rfl) rfl ?_
  refine ln_callA en_92 rfl (fun u hu => sch_F_sShareFetchResponseTopicPartition u) rfl (fun u1 v1 ht1 hR1 => ?_)
  obtain ⟨lc1, hV1, hF1⟩ := hR1
  refine ln_pv (pv_struct [(0, 1), (1, 1), (2, 1), (3, 1), (4, 1), (5, 1), (6, 1), (7, 1)] (l := [_, _, _, _, _, _, _, _]) rfl Tryz.underlying50 tispec_Field (by kernel_rfl) rfl (by simp [okL, Nat.ble_eq, Value.cells, (RS.one hV1)])) rfl ?_
  refine ln_lit (vs := [_, _]) Tryz.underlying29 tispec_Field rfl (by decide) rfl rfl rfl rfl rfl rfl (fun b1 => ?_)
  refine ln_pv (pv_assign rfl) rfl ?_
  refine ln_cd ?_
  refine cd_ret ?_
  refine at_retA rfl rfl (fun w hS => ?_)
  exact ⟨_, obj_rs hS (i := 0) (m := 2) (sz := 8) rfl rfl (by simp [flat, Value.cells, RS.one hV1]), (RFs.leaf (RFs.part (RS.mv hV1 hS.trFin) (RFs.mv hF1 hS.trFin) rfl))⟩

def F_sShareFetchResponseNodeEndpoint : List Fld := [.mk 3 0 (-1) (-1) (-1) 0 0 [], .mk 8 0 (-1) (-1) (-1) 0 0 [], .mk 3 0 (-1) (-1) (-1) 0 0 [], .mk 8 0 (-1) 0 (-1) 0 0 []]
theorem sch_F_sShareFetchResponseNodeEndpoint (t : Vw) : CA Tryz.prog 46 [] t fun u r => ∃ lc, RS u 8 r F_sShareFetchResponseNodeEndpoint.length lc ∧ RFs u F_sShareFetchResponseNodeEndpoint lc := by
  refine ca_enter Tryz.func46 rfl Tryz.ntmps46 rfl ?_
  refine cd_sr ?_
  refine ln_pv (pv_assign rfl) rfl ?_
  refine ln_cd ?_
  refine cd_sr ?_
  refine ln_pv (pv_struct [(0, 1), (1, 1), (2, 1), (3, 1), (4, 1), (5, 1), (6, 1), (7, 1)] (l := [_, _, _, _, _, _, _, _]) rfl Tryz.underlying50 tispec_Field (by kernel_rfl) rfl rfl) rfl ?_
  refine ln_pv (pv_struct [(0, 1), (1, 1), (2, 1), (3, 1), (4, 1), (5, 1), (6, 1), (7, 1)] (l := [_, _, _, _, _, _, _, _]) rfl Tryz.underlying50 tispec_Field (by kernel_rfl) rfl rfl) rfl ?_
  refine ln_pv (pv_struct [(0, 1), (1, 1), (2, 1), (3, 1), (4, 1), (5, 1), (6, 1), (7, 1)] (l := [_, _, _, _, _, _, _, _]) rfl Tryz.underlying50 tispec_Field (by kernel_rfl) rfl rfl) rfl ?_
  refine ln_pv (pv_struct [(0, 1), (1, 1), (2, 1), (3, 1), (4, 1), (5, 1), (6, 1), (7, 1)] (l := [_, _, _, _, _, _, _, _]) rfl Tryz.underlying50 tispec_Field (by kernel_rfl) rfl rfl) rfl ?_
  refine ln_lit (vs := [_, _, _, _]) Tryz.underlying29 tispec_Field rfl (by decide) rfl rfl rfl rfl rfl rfl (fun b1 => ?_)
  refine ln_pv (pv_assign rfl) rfl ?_
  refine ln_cd ?_
  refine cd_ret ?_
  refine at_retA rfl rfl (fun w hS => ?_)
  exact ⟨_, obj_rs hS (i := 0) (m := 4) (sz := 8) rfl rfl (by simp [flat, Value.cells]), (RFs.leaf (RFs.leaf (RFs.leaf (RFs.leaf rfl))))⟩

def F_ShareFetchResponse : List Fld := [.mk 3 0 (-1) (-1) (-1) 0 0 [], .mk 2 0 (-1) (-1) (-1) 0 0 [], .mk 8 0 (-1) 0 (-1) 0 0 [], .mk 3 1 (-1) (-1) (-1) 0 0 [], .mk 11 0 (-1) (-1) (-1) 0 10 F_sShareFetchResponseTopic, .mk 11 0 (-1) (-1) (-1) 0 10 F_sShareFetchResponseNodeEndpoint]
theorem sch_F_ShareFetchResponse (t : Vw) : CA Tryz.prog 20 [] t fun u r => ∃ sv lc, r = .agg #[sv, .int .i64 (0)] ∧ RS u 8 sv F_ShareFetchResponse.length lc ∧ RFs u F_ShareFetchResponse lc := by
  refine ca_enter Tryz.func20 rfl Tryz.ntmps20 rfl ?_
  refine cd_sr ?_
  refine ln_alloc tispec_Message rfl rfl (fun b1 => ?_)
  refine ln_cd ?_
  refine cd_sr ?_
  refine ln_pv (pv_struct [(0, 1), (1, 1), (2, 1), (3, 1), (4, 1), (5, 1), (6, 1), (7, 1)] (l := [_, _, _, _, _, _, _, _]) rfl Tryz.underlying50 tispec_Field (by kernel_rfl) rfl rfl) rfl ?_
  refine ln_pv (pv_struct [(0, 1), (1, 1), (2, 1), (3, 1), (4, 1), (5, 1), (6, 1), (7, 1)] (l := [_, _, _, _, _, _, _, _]) rfl Tryz.underlying50 tispec_Field (by kernel_rfl) rfl rfl) rfl ?_
  refine ln_pv (pv_struct [(0, 1), (1, 1), (2, 1), (3, 1), (4, 1), (5, 1), (6, 1), (7, 1)] (l := [_, _, _, _, _, _, _, _]) rfl Tryz.underlying50 tispec_Field (by kernel_rfl) rfl rfl) rfl ?_
  refine ln_pv (pv_struct [(0, 1), (1, 1), (2, 1), (3, 1), (4, 1), (5, 1), (6, 1), (7, 1)] (l := [_, _, _, _, _, _, _, _]) rfl Tryz.underlying50 tispec_Field (by kernel_rfl) rfl rfl) rfl ?_
  refine ln_callA en_45 rfl (fun u hu => sch_F_sShareFetchResponseTopic u) rfl (fun u1 v1 ht1 hR1 => ?_)
  obtain ⟨lc1, hV1, hF1⟩ := hR1
  refine ln_pv (pv_struct [(0, 1), (1, 1), (2, 1), (3, 1), (4, 1), (5, 1), (6, 1), (7, 1)] (l := [_, _, _, _, _, _, _, _]) rfl Tryz.underlying50 tispec_Field (by kernel_rfl) rfl (by simp [okL, Nat.ble_eq, Value.cells, (RS.one hV1)])) rfl ?_
  refine ln_callA en_46 rfl (fun u hu => sch_F_sShareFetchResponseNodeEndpoint u) rfl (fun u2 v2 ht2 hR2 => ?_)
  have hV1 := hV1.mv ht2
  have hF1 := hF1.mv ht2
  obtain ⟨lc2, hV2, hF2⟩ := hR2
  refine ln_pv (pv_struct [(0, 1), (1, 1), (2, 1), (3, 1), (4, 1), (5, 1), (6, 1), (7, 1)] (l := [_, _, _, _, _, _, _, _]) rfl Tryz.underlying50 tispec_Field (by kernel_rfl) rfl (by simp [okL, Nat.ble_eq, Value.cells, (RS.one hV2)])) rfl ?_
  refine ln_lit (vs := [_, _, _, _, _, _]) Tryz.underlying29 tispec_Field rfl (by decide) rfl rfl rfl rfl rfl rfl (fun b2 => ?_)
  refine ln_pv (pv_struct [(0, 1), (1, 1)] (l := [_, _]) rfl Tryz.underlying31 tispec_Message (by kernel_rfl) rfl rfl) rfl ?_
  refine ln_storeW (i := 1) rfl rfl rfl rfl (tispec_Message).size rfl (by simp []) ?_
  refine ln_cd ?_
  refine cd_ret ?_
  refine at_retC (i := 1) rfl rfl rfl Tryz.underlying31 rfl tispec_Message.size rfl (fun w hS => ?_)
  exact ⟨_, _, rfl, obj_rs hS (i := 0) (m := 6) (sz := 8) rfl rfl (by simp [flat, Value.cells, RS.one hV1, RS.one hV2]), (RFs.leaf (RFs.leaf (RFs.leaf (RFs.leaf (RFs.part (RS.mv hV1 hS.trFin) (RFs.mv hF1 hS.trFin) (RFs.part (RS.mv hV2 hS.trFin) (RFs.mv hF2 hS.trFin) rfl))))))⟩
theorem ok_F_ShareFetchResponse : okFs F_ShareFetchResponse = true ∧ ofOks F_ShareFetchResponse = true ∧ F_ShareFetchResponse.length < 1000000 := by decide
theorem max_ver_ShareFetchResponse (t : Vw) (p : Value) : CS Tryz.prog 44 [p] t (.int .i16 2) := by
  refine CA.cs ?_
  refine ca_enter Tryz.func44 rfl Tryz.ntmps44 rfl ?_
  refine cd_sr ?_
  refine ln_pv (pv_assign rfl) rfl ?_
  refine ln_cd ?_
  refine cd_sr ?_
  refine ln_pv (pv_assign rfl) rfl ?_
  refine ln_cd ?_
  refine cd_ret ?_
  exact at_retA rfl rfl (fun w hS => rfl)
theorem dflt_ShareFetchResponse (t : Vw) (p : Value) : CS Tryz.prog 91 [p] t (.tuple #[]) := by
  refine CA.cs ?_
  refine ca_enter Tryz.func91 rfl Tryz.ntmps91 rfl ?_
  refine cd_skip ?_
  exact at_retA0 rfl (fun w hS => rfl)
theorem newptr_ShareFetchResponse (t : Vw) : CA Tryz.prog 43 [] t fun u r => True := by
  refine ca_enter Tryz.func43 rfl Tryz.ntmps43 rfl ?_
  refine cd_sr ?_
  refine ln_pv (pv_assign rfl) rfl ?_
  refine ln_cd ?_
  refine cd_sr ?_
  refine ln_alloc tipub_kmsg_ShareFetchResponse rfl rfl (fun b1 => ?_)
  refine ln_cd ?_
  refine cd_sr ?_
  refine ln_callS en_91 rfl (fun u hu => dflt_ShareFetchResponse u _) rfl ?_
  refine ln_cd ?_
  refine cd_sr ?_
  refine ln_pv (pv_assign rfl) rfl ?_
  refine ln_cd ?_
  refine cd_ret ?_
  exact at_retA rfl rfl (fun w hS => trivial)
theorem max_ShareFetchResponse (t : Vw) : CS Tryz.prog 19 [] t (.int .i64 2) := by
  refine CA.cs ?_
  refine ca_enter Tryz.func19 rfl Tryz.ntmps19 rfl ?_
  refine cd_sr ?_
  refine ln_pv (pv_assign rfl) rfl ?_
  refine ln_cd ?_
  refine cd_sr ?_
  refine ln_callA en_43 rfl (fun u hu => newptr_ShareFetchResponse u) rfl (fun u1 v1 ht1 hR1 => ?_)
  refine ln_callS en_44 rfl (fun u hu => max_ver_ShareFetchResponse u _) rfl ?_
  refine ln_pv (pv_conv Tryz.underlying45 Tryz.underlying3 rfl) rfl ?_
  refine ln_pv (pv_assign rfl) rfl ?_
  refine ln_cd ?_
  refine cd_ret ?_
  exact at_retA rfl rfl (fun w hS => rfl)
end K
end Go.Proofs.YtmknncmdbmnmgabGreat
