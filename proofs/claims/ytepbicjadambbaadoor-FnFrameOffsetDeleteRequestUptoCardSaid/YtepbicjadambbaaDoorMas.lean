import Derived.Test.YtepbicjadambbaaDoorQ0
set_option linter.unusedVariables false
set_option linter.unusedSimpArgs false
namespace Go.Proofs.YtepbicjadambbaaDoor
namespace K
open Go Go.Lib
def F_sOffsetDeleteRequestTopicPartition : List Fld := [.mk 3 0 (-1) (-1) (-1) 0 0 []]
theorem sch_F_sOffsetDeleteRequestTopicPartition (t : Vw) : CA Tryd.prog 25 [] t fun u r => ∃ lc, RS u 8 r F_sOffsetDeleteRequestTopicPartition.length lc ∧ RFs u F_sOffsetDeleteRequestTopicPartition lc := by
  refine ca_enter Tryd.func25 rfl Tryd.ntmps25 rfl ?_
  refine cd_sr ?_
  refine ln_pv (pv_assign rfl) rfl ?_
  refine ln_cd ?_
  refine cd_sr ?_
  refine ln_pv (pv_struct [(0, 1), (1, 1), (2, 1), (3, 1), (4, 1), (5, 1), (6, 1), (7, 1)] (l := [_, _, _, _, _, _, _, _]) rfl Tryd.underlying50 tispec_Field (by kernel_rfl) rfl rfl) rfl ?_
  refine ln_lit (vs := [_]) Tryd.underlying32 tispec_Field rfl (by decide) rfl rfl rfl rfl rfl rfl (fun b1 => ?_)
  refine ln_pv (pv_assign rfl) rfl ?_
  refine ln_cd ?_
  refine cd_ret ?_
  refine at_retA rfl rfl (fun w hS => ?_)
  exact ⟨_, obj_rs hS (i := 0) (m := 1) (sz := 8) rfl rfl (by simp [flat, Value.cells]), (RFs.leaf rfl)⟩

def F_sOffsetDeleteRequestTopic : List Fld := [.mk 8 0 (-1) (-1) (-1) 0 0 [], .mk 11 0 (-1) (-1) (-1) 0 10 F_sOffsetDeleteRequestTopicPartition]
theorem sch_F_sOffsetDeleteRequestTopic (t : Vw) : CA Tryd.prog 17 [] t fun u r => ∃ lc, RS u 8 r F_sOffsetDeleteRequestTopic.length lc ∧ RFs u F_sOffsetDeleteRequestTopic lc := by
  refine ca_enter Tryd.func17 rfl Tryd.ntmps17 rfl ?_
  refine cd_sr ?_
  refine ln_pv (pv_assign rfl) rfl ?_
  refine ln_cd ?_
  refine cd_sr ?_
  refine ln_pv (pv_struct [(0, 1), (1, 1), (2, 1), (3, 1), (4, 1), (5, 1), (6, 1), (7, 1)] (l := [_, _, _, _, _, _, _, _]) rfl Tryd.underlying50 tispec_Field (by kernel_rfl) rfl rfl) rfl ?_
  refine ln_callA en_25 rfl (fun u hu => sch_F_sOffsetDeleteRequestTopicPartition u) rfl (fun u1 v1 ht1 hR1 => ?_)
  obtain ⟨lc1, hV1, hF1⟩ := hR1
  refine ln_pv (pv_struct [(0, 1), (1, 1), (2, 1), (3, 1), (4, 1), (5, 1), (6, 1), (7, 1)] (l := [_, _, _, _, _, _, _, _]) rfl Tryd.underlying50 tispec_Field (by kernel_rfl) rfl (by simp [okL, Nat.ble_eq, Value.cells, (RS.one hV1)])) rfl ?_
  refine ln_lit (vs := [_, _]) Tryd.underlying32 tispec_Field rfl (by decide) rfl rfl rfl rfl rfl rfl (fun b1 => ?_)
  refine ln_pv (pv_assign rfl) rfl ?_
  refine ln_cd ?_
  refine cd_ret ?_
  refine at_retA rfl rfl (fun w hS => ?_)
  exact ⟨_, obj_rs hS (i := 0) (m := 2) (sz := 8) rfl rfl (by simp [flat, Value.cells, RS.one hV1]), (RFs.leaf (RFs.part (RS.mv hV1 hS.trFin) (RFs.mv hF1 hS.trFin) rfl))⟩

def F_OffsetDeleteRequest : List Fld := [.mk 8 0 (-1) (-1) (-1) 0 0 [], .mk 11 0 (-1) (-1) (-1) 0 10 F_sOffsetDeleteRequestTopic]
theorem sch_F_OffsetDeleteRequest (t : Vw) : CA Tryd.prog 7 [] t fun u r => ∃ sv lc, r = .agg #[sv, .int .i64 (-1)] ∧ RS u 8 sv F_OffsetDeleteRequest.length lc ∧ RFs u F_OffsetDeleteRequest lc := by
  refine ca_enter Tryd.func7 rfl Tryd.ntmps7 rfl ?_
  refine cd_sr ?_
  refine ln_alloc tispec_Message rfl rfl (fun b1 => ?_)
  refine ln_cd ?_
  refine cd_sr ?_
  refine ln_pv (pv_struct [(0, 1), (1, 1), (2, 1), (3, 1), (4, 1), (5, 1), (6, 1), (7, 1)] (l := [_, _, _, _, _, _, _, _]) rfl Tryd.underlying50 tispec_Field (by kernel_rfl) rfl rfl) rfl ?_
  refine ln_callA en_17 rfl (fun u hu => sch_F_sOffsetDeleteRequestTopic u) rfl (fun u1 v1 ht1 hR1 => ?_)
  obtain ⟨lc1, hV1, hF1⟩ := hR1
  refine ln_pv (pv_struct [(0, 1), (1, 1), (2, 1), (3, 1), (4, 1), (5, 1), (6, 1), (7, 1)] (l := [_, _, _, _, _, _, _, _]) rfl Tryd.underlying50 tispec_Field (by kernel_rfl) rfl (by simp [okL, Nat.ble_eq, Value.cells, (RS.one hV1)])) rfl ?_
  refine ln_lit (vs := [_, _]) Tryd.underlying32 tispec_Field rfl (by decide) rfl rfl rfl rfl rfl rfl (fun b2 => ?_)
  refine ln_pv (pv_struct [(0, 1), (1, 1)] (l := [_, _]) rfl Tryd.underlying34 tispec_Message (by kernel_rfl) rfl rfl) rfl ?_
  refine ln_storeW (i := 1) rfl rfl rfl rfl (tispec_Message).size rfl (by simp []) ?_
  refine ln_cd ?_
  refine cd_ret ?_
  refine at_retC (i := 1) rfl rfl rfl Tryd.underlying34 rfl tispec_Message.size rfl (fun w hS => ?_)
  exact ⟨_, _, rfl, obj_rs hS (i := 0) (m := 2) (sz := 8) rfl rfl (by simp [flat, Value.cells, RS.one hV1]), (RFs.leaf (RFs.part (RS.mv hV1 hS.trFin) (RFs.mv hF1 hS.trFin) rfl))⟩
theorem ok_F_OffsetDeleteRequest : okFs F_OffsetDeleteRequest = true ∧ ofOks F_OffsetDeleteRequest = true ∧ F_OffsetDeleteRequest.length < 1000000 := by decide
theorem max_ver_OffsetDeleteRequest (t : Vw) (p : Value) : CS Tryd.prog 16 [p] t (.int .i16 0) := by
  refine CA.cs ?_
  refine ca_enter Tryd.func16 rfl Tryd.ntmps16 rfl ?_
  refine cd_sr ?_
  refine ln_pv (pv_assign rfl) rfl ?_
  refine ln_cd ?_
  refine cd_sr ?_
  refine ln_pv (pv_assign rfl) rfl ?_
  refine ln_cd ?_
  refine cd_ret ?_
  exact at_retA rfl rfl (fun w hS => rfl)
theorem dflt_OffsetDeleteRequest (t : Vw) (p : Value) : CS Tryd.prog 24 [p] t (.tuple #[]) := by
  refine CA.cs ?_
  refine ca_enter Tryd.func24 rfl Tryd.ntmps24 rfl ?_
  refine cd_skip ?_
  exact at_retA0 rfl (fun w hS => rfl)
theorem newptr_OffsetDeleteRequest (t : Vw) : CA Tryd.prog 15 [] t fun u r => True := by
  refine ca_enter Tryd.func15 rfl Tryd.ntmps15 rfl ?_
  refine cd_sr ?_
  refine ln_pv (pv_assign rfl) rfl ?_
  refine ln_cd ?_
  refine cd_sr ?_
  refine ln_alloc tipub_kmsg_OffsetDeleteRequest rfl rfl (fun b1 => ?_)
  refine ln_cd ?_
  refine cd_sr ?_
  refine ln_callS en_24 rfl (fun u hu => dflt_OffsetDeleteRequest u _) rfl ?_
  refine ln_cd ?_
  refine cd_sr ?_
  refine ln_pv (pv_assign rfl) rfl ?_
  refine ln_cd ?_
  refine cd_ret ?_
  exact at_retA rfl rfl (fun w hS => trivial)
theorem max_OffsetDeleteRequest (t : Vw) : CS Tryd.prog 6 [] t (.int .i64 0) := by
  refine CA.cs ?_
  refine ca_enter Tryd.func6 rfl Tryd.ntmps6 rfl ?_
  refine cd_sr ?_
  refine ln_pv (pv_assign rfl) rfl ?_
  refine ln_cd ?_
  refine cd_sr ?_
  refine ln_callA en_15 rfl (fun u hu => newptr_OffsetDeleteRequest u) rfl (fun u1 v1 ht1 hR1 => ?_)
  refine ln_callS en_16 rfl (fun u hu => max_ver_OffsetDeleteRequest u _) rfl ?_
  refine ln_pv (pv_conv Tryd.underlying45 Tryd.underlying3 rfl) rfl ?_
  refine ln_pv (pv_assign rfl) rfl ?_
  refine ln_cd ?_
  refine cd_ret ?_
  exact at_retA rfl rfl (fun w hS => rfl)
end K
end Go.Proofs.YtepbicjadambbaaDoor
