import Derived.Test.YtnolhlnncbajdaaGreatDoorRQ0
set_option linter.unusedVariables false
set_option linter.unusedSimpArgs false
namespace Go.Proofs.YtnolhlnncbajdaaGreatDoorR
namespace K
open Go Go.Lib
def F_sAlterPartitionAssignmentsRequestTopicPartition : List Fld := [.mk 3 0 (-1) (-1) (-1) 0 0 [], .mk 11 0 (-1) 0 (-1) 0 3 []]
theorem sch_F_sAlterPartitionAssignmentsRequestTopicPartition (t : Vw) : CA Tryz.prog 64 [] t fun u r => ∃ lc, RS u 8 r F_sAlterPartitionAssignmentsRequestTopicPartition.length lc ∧ RFs u F_sAlterPartitionAssignmentsRequestTopicPartition lc := by
  refine ca_enter Tryz.func64 rfl Tryz.ntmps64 rfl ?_
  refine cd_sr ?_
  refine ln_pv (pv_assign rfl) rfl ?_
  refine ln_cd ?_
  refine cd_sr ?_
  refine ln_pv (pv_struct [(0, 1), (1, 1), (2, 1), (3, 1), (4, 1), (5, 1), (6, 1), (7, 1)] (l := [_, _, _, _, _, _, _, _]) rfl Tryz.underlying50 tispec_Field (by kernel_rfl) rfl rfl) rfl ?_
  refine ln_pv (pv_struct [(0, 1), (1, 1), (2, 1), (3, 1), (4, 1), (5, 1), (6, 1), (7, 1)] (l := [_, _, _, _, _, _, _, _]) rfl Tryz.underlying50 tispec_Field (by kernel_rfl) rfl rfl) rfl ?_
  refine ln_lit (vs := [_, _]) Tryz.underlying32 tispec_Field rfl (by decide) rfl rfl rfl rfl rfl rfl (fun b1 => ?_)
  refine ln_pv (pv_assign rfl) rfl ?_
  refine ln_cd ?_
  refine cd_ret ?_
  refine at_retA rfl rfl (fun w hS => ?_)
  exact ⟨_, obj_rs hS (i := 0) (m := 2) (sz := 8) rfl rfl (by simp [flat, Value.cells]), (RFs.leaf (RFs.leaf rfl))⟩

def F_sAlterPartitionAssignmentsRequestTopic : List Fld := [.mk 8 0 (-1) (-1) (-1) 0 0 [], .mk 11 0 (-1) (-1) (-1) 0 10 F_sAlterPartitionAssignmentsRequestTopicPartition]
theorem sch_F_sAlterPartitionAssignmentsRequestTopic (t : Vw) : CA Tryz.prog 37 [] t fun u r => ∃ lc, RS u 8 r F_sAlterPartitionAssignmentsRequestTopic.length lc ∧ RFs u F_sAlterPartitionAssignmentsRequestTopic lc := by
  refine ca_enter Tryz.func37 rfl Tryz.ntmps37 rfl ?_
  refine cd_sr ?_
  refine ln_pv (pv_assign rfl) rfl ?_
  refine ln_cd ?_
  refine cd_sr ?_
  refine ln_pv (pv_struct [(0, 1), (1, 1), (2, 1), (3, 1), (4, 1), (5, 1), (6, 1), (7, 1)] (l := [_, _, _, _, _, _, _, _]) rfl Tryz.underlying50 tispec_Field (by kernel_rfl) rfl rfl) rfl ?_
  refine ln_callA en_64 rfl (fun u hu => sch_F_sAlterPartitionAssignmentsRequestTopicPartition u) rfl (fun u1 v1 ht1 hR1 => ?_)
  obtain ⟨lc1, hV1, hF1⟩ := hR1
  refine ln_pv (pv_struct [(0, 1), (1, 1), (2, 1), (3, 1), (4, 1), (5, 1), (6, 1), (7, 1)] (l := [_, _, _, _, _, _, _, _]) rfl Tryz.underlying50 tispec_Field (by kernel_rfl) rfl (by simp [okL, Nat.ble_eq, Value.cells, (RS.one hV1)])) rfl ?_
  refine ln_lit (vs := [_, _]) Tryz.underlying32 tispec_Field rfl (by decide) rfl rfl rfl rfl rfl rfl (fun b1 => ?_)
  refine ln_pv (pv_assign rfl) rfl ?_
  refine ln_cd ?_
  refine cd_ret ?_
  refine at_retA rfl rfl (fun w hS => ?_)
  exact ⟨_, obj_rs hS (i := 0) (m := 2) (sz := 8) rfl rfl (by simp [flat, Value.cells, RS.one hV1]), (RFs.leaf (RFs.part (RS.mv hV1 hS.trFin) (RFs.mv hF1 hS.trFin) rfl))⟩

def F_AlterPartitionAssignmentsRequest : List Fld := [.mk 3 0 (-1) (-1) (-1) 60000 0 [], .mk 0 1 (-1) (-1) (-1) 1 0 [], .mk 11 0 (-1) (-1) (-1) 0 10 F_sAlterPartitionAssignmentsRequestTopic]
theorem sch_F_AlterPartitionAssignmentsRequest (t : Vw) : CA Tryz.prog 18 [] t fun u r => ∃ sv lc, r = .agg #[sv, .int .i64 (0)] ∧ RS u 8 sv F_AlterPartitionAssignmentsRequest.length lc ∧ RFs u F_AlterPartitionAssignmentsRequest lc := by
  refine ca_enter Tryz.func18 rfl Tryz.ntmps18 rfl ?_
  refine cd_sr ?_
  refine ln_alloc tispec_Message rfl rfl (fun b1 => ?_)
  refine ln_cd ?_
  refine cd_sr ?_
  refine ln_pv (pv_struct [(0, 1), (1, 1), (2, 1), (3, 1), (4, 1), (5, 1), (6, 1), (7, 1)] (l := [_, _, _, _, _, _, _, _]) rfl Tryz.underlying50 tispec_Field (by kernel_rfl) rfl rfl) rfl ?_
  refine ln_pv (pv_struct [(0, 1), (1, 1), (2, 1), (3, 1), (4, 1), (5, 1), (6, 1), (7, 1)] (l := [_, _, _, _, _, _, _, _]) rfl Tryz.underlying50 tispec_Field (by kernel_rfl) rfl rfl) rfl ?_
  refine ln_callA en_37 rfl (fun u hu => sch_F_sAlterPartitionAssignmentsRequestTopic u) rfl (fun u1 v1 ht1 hR1 => ?_)
  obtain ⟨lc1, hV1, hF1⟩ := hR1
  refine ln_pv (pv_struct [(0, 1), (1, 1), (2, 1), (3, 1), (4, 1), (5, 1), (6, 1), (7, 1)] (l := [_, _, _, _, _, _, _, _]) rfl Tryz.underlying50 tispec_Field (by kernel_rfl) rfl (by simp [okL, Nat.ble_eq, Value.cells, (RS.one hV1)])) rfl ?_
  refine ln_lit (vs := [_, _, _]) Tryz.underlying32 tispec_Field rfl (by decide) rfl rfl rfl rfl rfl rfl (fun b2 => ?_)
  refine ln_pv (pv_struct [(0, 1), (1, 1)] (l := [_, _]) rfl Tryz.underlying34 tispec_Message (by kernel_rfl) rfl rfl) rfl ?_
  refine ln_storeW (i := 1) rfl rfl rfl rfl (tispec_Message).size rfl (by simp []) ?_
  refine ln_cd ?_
  refine cd_ret ?_
  refine at_retC (i := 1) rfl rfl rfl Tryz.underlying34 rfl tispec_Message.size rfl (fun w hS => ?_)
  exact ⟨_, _, rfl, obj_rs hS (i := 0) (m := 3) (sz := 8) rfl rfl (by simp [flat, Value.cells, RS.one hV1]), (RFs.leaf (RFs.leaf (RFs.part (RS.mv hV1 hS.trFin) (RFs.mv hF1 hS.trFin) rfl)))⟩
theorem ok_F_AlterPartitionAssignmentsRequest : okFs F_AlterPartitionAssignmentsRequest = true ∧ ofOks F_AlterPartitionAssignmentsRequest = true ∧ F_AlterPartitionAssignmentsRequest.length < 1000000 := by decide
theorem max_ver_AlterPartitionAssignmentsRequest (t : Vw) (p : Value) : CS Tryz.prog 36 [p] t (.int .i16 1) := by
  refine CA.cs ?_
  refine ca_enter Tryz.func36 rfl Tryz.ntmps36 rfl ?_
  refine cd_sr ?_
  refine ln_pv (pv_assign rfl) rfl ?_
  refine ln_cd ?_
  refine cd_sr ?_
  refine ln_pv (pv_assign rfl) rfl ?_
  refine ln_cd ?_
  refine cd_ret ?_
  exact at_retA rfl rfl (fun w hS => rfl)
theorem dflt_AlterPartitionAssignmentsRequest (t : Vw) (b : Nat) (hok : (.obj b (.cells ([.int .i16 0, .int .i32 0, .bool false, .slice none 0 0, .map none] : List Value).toArray 94) : Ent).ok t.w) (hav : ∀ q ∈ (.obj b (.cells ([.int .i16 0, .int .i32 0, .bool false, .slice none 0 0, .map none] : List Value).toArray 94) : Ent).blk, t.av q) : CT Tryz.prog 63 [.pointer (some ⟨b, 0, none⟩)] t (.obj b (.cells ([.int .i16 0, .int .i32 0, .bool false, .slice none 0 0, .map none] : List Value).toArray 94) : Ent) fun u r e' => ∃ M : List Value, e' = .obj b (.cells M.toArray 94) := by
  refine ct_enter Tryz.func63 rfl Tryz.ntmps63 rfl hok hav (by simp [Ent.blk]) ?_
  refine cd_sr ?_
  refine ln_pv (pv_move rfl) rfl ?_
  refine ln_pv (pv_nilCheck rfl) rfl ?_
  refine ln_pv (pv_fieldAddr (off := 1) (r := 1) Tryz.underlying94 rfl (tiint32).size rfl rfl rfl) rfl ?_
  refine ln_store1 (i := 0) rfl rfl rfl rfl (tiint32).size rfl ?_
  refine ln_cd ?_
  refine cd_region ?_
  refine ln_pv (pv_move rfl) rfl ?_
  refine ln_pv (pv_nilCheck rfl) rfl ?_
  refine ln_pv (pv_fieldAddr (off := 2) (r := 2) Tryz.underlying94 rfl (tibool).size rfl rfl rfl) rfl ?_
  refine ln_store1 (i := 0) rfl rfl rfl rfl (tibool).size rfl ?_
  refine ln_nil ?_
  exact at_retT0 (i := 0) rfl rfl (fun w hS => ⟨_, rfl⟩)
theorem newptr_AlterPartitionAssignmentsRequest (t : Vw) : CA Tryz.prog 35 [] t fun u r => True := by
  refine ca_enter Tryz.func35 rfl Tryz.ntmps35 rfl ?_
  refine cd_sr ?_
  refine ln_pv (pv_assign rfl) rfl ?_
  refine ln_cd ?_
  refine cd_sr ?_
  refine ln_alloc tipub_kmsg_AlterPartitionAssignmentsRequest rfl rfl (fun b1 => ?_)
  refine ln_cd ?_
  refine cd_sr ?_
  refine ln_callT (i := 0) en_63 rfl rfl (fun u hu hok hav => dflt_AlterPartitionAssignmentsRequest u _ hok hav) rfl ?_
  rintro u1 v1 _ ht1 ⟨_, ⟨M1, rfl⟩, _⟩
  refine ln_cd ?_
  refine cd_sr ?_
  refine ln_pv (pv_assign rfl) rfl ?_
  refine ln_cd ?_
  refine cd_ret ?_
  exact at_retA rfl rfl (fun w hS => trivial)
theorem max_AlterPartitionAssignmentsRequest (t : Vw) : CS Tryz.prog 17 [] t (.int .i64 1) := by
  refine CA.cs ?_
  refine ca_enter Tryz.func17 rfl Tryz.ntmps17 rfl ?_
  refine cd_sr ?_
  refine ln_pv (pv_assign rfl) rfl ?_
  refine ln_cd ?_
  refine cd_sr ?_
  refine ln_callA en_35 rfl (fun u hu => newptr_AlterPartitionAssignmentsRequest u) rfl (fun u1 v1 ht1 hR1 => ?_)
  refine ln_callS en_36 rfl (fun u hu => max_ver_AlterPartitionAssignmentsRequest u _) rfl ?_
  refine ln_pv (pv_conv Tryz.underlying45 Tryz.underlying3 rfl) rfl ?_
  refine ln_pv (pv_assign rfl) rfl ?_
  refine ln_cd ?_
  refine cd_ret ?_
  exact at_retA rfl rfl (fun w hS => rfl)
end K
end Go.Proofs.YtnolhlnncbajdaaGreatDoorR
