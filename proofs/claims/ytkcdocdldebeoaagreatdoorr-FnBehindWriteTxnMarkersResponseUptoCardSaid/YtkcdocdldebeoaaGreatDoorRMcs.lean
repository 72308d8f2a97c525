import Derived.Test.YtkcdocdldebeoaaGreatDoorRQ0
set_option linter.unusedVariables false
set_option linter.unusedSimpArgs false
namespace Go.Proofs.YtkcdocdldebeoaaGreatDoorR
namespace K
open Go Go.Lib
def F_sWriteTxnMarkersResponseMarkerTopicPartition : List Fld := [.mk 3 0 (-1) (-1) (-1) 0 0 [], .mk 2 0 (-1) (-1) (-1) 0 0 []]
theorem sch_F_sWriteTxnMarkersResponseMarkerTopicPartition (t : Vw) : CA Tryz.prog 195 [] t fun u r => ∃ lc, RS u 8 r F_sWriteTxnMarkersResponseMarkerTopicPartition.length lc ∧ RFs u F_sWriteTxnMarkersResponseMarkerTopicPartition lc := by
  refine ca_enter Tryz.func195 rfl Tryz.ntmps195 rfl ?_
  refine cd_sr ?_
  refine ln_pv (pv_assign rfl) rfl ?_
  refine ln_cd ?_
  refine cd_sr ?_
  refine ln_pv (pv_struct [(0, 1), (1, 1), (2, 1), (3, 1), (4, 1), (5, 1), (6, 1), (7, 1)] (l := [_, _, _, _, _, _, _, _]) rfl Tryz.underlying54 tispec_Field (by kernel_rfl) rfl rfl) rfl ?_
  refine ln_pv (pv_struct [(0, 1), (1, 1), (2, 1), (3, 1), (4, 1), (5, 1), (6, 1), (7, 1)] (l := [_, _, _, _, _, _, _, _]) rfl Tryz.underlying54 tispec_Field (by kernel_rfl) rfl rfl) rfl ?_
  refine ln_lit (vs := [_, _]) Tryz.underlying29 tispec_Field rfl (by decide) rfl rfl rfl rfl rfl rfl (fun b1 => ?_)
  refine ln_pv (pv_assign rfl) rfl ?_
  refine ln_cd ?_
  refine cd_ret ?_
  refine at_retA rfl rfl (fun w hS => ?_)
  exact ⟨_, obj_rs hS (i := 0) (m := 2) (sz := 8) rfl rfl (by simp [flat, Value.cells]), (RFs.leaf (RFs.leaf rfl))⟩

def F_sWriteTxnMarkersResponseMarkerTopic : List Fld := [.mk 8 0 (-1) (-1) (-1) 0 0 [], .mk 11 0 (-1) (-1) (-1) 0 10 F_sWriteTxnMarkersResponseMarkerTopicPartition]
theorem sch_F_sWriteTxnMarkersResponseMarkerTopic (t : Vw) : CA Tryz.prog 136 [] t fun u r => ∃ lc, RS u 8 r F_sWriteTxnMarkersResponseMarkerTopic.length lc ∧ RFs u F_sWriteTxnMarkersResponseMarkerTopic lc := by
  refine ca_enter Tryz.func136 rfl Tryz.ntmps136 rfl ?_
  refine cd_sr ?_
  refine ln_pv (pv_assign rfl) rfl ?_
  refine ln_cd ?_
  refine cd_sr ?_
  refine ln_pv (pv_struct [(0, 1), (1, 1), (2, 1), (3, 1), (4, 1), (5, 1), (6, 1), (7, 1)] (l := [_, _, _, _, _, _, _, _]) rfl Tryz.underlying54 tispec_Field (by kernel_rfl) rfl rfl) rfl ?_
  refine ln_callA en_195 rfl (fun u hu => sch_F_sWriteTxnMarkersResponseMarkerTopicPartition u) rfl (fun u1 v1 ht1 hR1 => ?_)
  obtain ⟨lc1, hV1, hF1⟩ := hR1
  refine ln_pv (pv_struct [(0, 1), (1, 1), (2, 1), (3, 1), (4, 1), (5, 1), (6, 1), (7, 1)] (l := [_, _, _, _, _, _, _, _]) rfl Tryz.underlying54 tispec_Field (by kernel_rfl) rfl (by simp [okL, Nat.ble_eq, Value.cells, (RS.one hV1)])) rfl ?_
  refine ln_lit (vs := [_, _]) Tryz.underlying29 tispec_Field rfl (by decide) rfl rfl rfl rfl rfl rfl (fun b1 => ?_)
  refine ln_pv (pv_assign rfl) rfl ?_
  refine ln_cd ?_
  refine cd_ret ?_
  refine at_retA rfl rfl (fun w hS => ?_)
  exact ⟨_, obj_rs hS (i := 0) (m := 2) (sz := 8) rfl rfl (by simp [flat, Value.cells, RS.one hV1]), (RFs.leaf (RFs.part (RS.mv hV1 hS.trFin) (RFs.mv hF1 hS.trFin) rfl))⟩

def F_sWriteTxnMarkersResponseMarker : List Fld := [.mk 4 0 (-1) (-1) (-1) 0 0 [], .mk 11 0 (-1) (-1) (-1) 0 10 F_sWriteTxnMarkersResponseMarkerTopic]
theorem sch_F_sWriteTxnMarkersResponseMarker (t : Vw) : CA Tryz.prog 79 [] t fun u r => ∃ lc, RS u 8 r F_sWriteTxnMarkersResponseMarker.length lc ∧ RFs u F_sWriteTxnMarkersResponseMarker lc := by
  refine ca_enter Tryz.func79 rfl Tryz.ntmps79 rfl ?_
  refine cd_sr ?_
  refine ln_pv (pv_assign rfl) rfl ?_
  refine ln_cd ?_
  refine cd_sr ?_
  refine ln_pv (pv_struct [(0, 1), (1, 1), (2, 1), (3, 1), (4, 1), (5, 1), (6, 1), (7, 1)] (l := [_, _, _, _, _, _, _, _]) rfl Tryz.underlying54 tispec_Field (by kernel_rfl) rfl rfl) rfl ?_
  refine ln_callA en_136 rfl (fun u hu => sch_F_sWriteTxnMarkersResponseMarkerTopic u) rfl (fun u1 v1 ht1 hR1 => ?_)
  obtain ⟨lc1, hV1, hF1⟩ := hR1
  refine ln_pv (pv_struct [(0, 1), (1, 1), (2, 1), (3, 1), (4, 1), (5, 1), (6, 1), (7, 1)] (l := [_, _, _, _, _, _, _, _]) rfl Tryz.underlying54 tispec_Field (by kernel_rfl) rfl (by simp [okL, Nat.ble_eq, Value.cells, (RS.one hV1)])) rfl ?_
  refine ln_lit (vs := [_, _]) Tryz.underlying29 tispec_Field rfl (by decide) rfl rfl rfl rfl rfl rfl (fun b1 => ?_)
  refine ln_pv (pv_assign rfl) rfl ?_
  refine ln_cd ?_
  refine cd_ret ?_
  refine at_retA rfl rfl (fun w hS => ?_)
  exact ⟨_, obj_rs hS (i := 0) (m := 2) (sz := 8) rfl rfl (by simp [flat, Value.cells, RS.one hV1]), (RFs.leaf (RFs.part (RS.mv hV1 hS.trFin) (RFs.mv hF1 hS.trFin) rfl))⟩

def F_WriteTxnMarkersResponse : List Fld := [.mk 11 0 (-1) (-1) (-1) 0 10 F_sWriteTxnMarkersResponseMarker]
theorem sch_F_WriteTxnMarkersResponse (t : Vw) : CA Tryz.prog 33 [] t fun u r => ∃ sv lc, r = .agg #[sv, .int .i64 (1)] ∧ RS u 8 sv F_WriteTxnMarkersResponse.length lc ∧ RFs u F_WriteTxnMarkersResponse lc := by
  refine ca_enter Tryz.func33 rfl Tryz.ntmps33 rfl ?_
  refine cd_sr ?_
  refine ln_alloc tispec_Message rfl rfl (fun b1 => ?_)
  refine ln_cd ?_
  refine cd_sr ?_
  refine ln_callA en_79 rfl (fun u hu => sch_F_sWriteTxnMarkersResponseMarker u) rfl (fun u1 v1 ht1 hR1 => ?_)
  obtain ⟨lc1, hV1, hF1⟩ := hR1
  refine ln_pv (pv_struct [(0, 1), (1, 1), (2, 1), (3, 1), (4, 1), (5, 1), (6, 1), (7, 1)] (l := [_, _, _, _, _, _, _, _]) rfl Tryz.underlying54 tispec_Field (by kernel_rfl) rfl (by simp [okL, Nat.ble_eq, Value.cells, (RS.one hV1)])) rfl ?_
  refine ln_lit (vs := [_]) Tryz.underlying29 tispec_Field rfl (by decide) rfl rfl rfl rfl rfl rfl (fun b2 => ?_)
  refine ln_pv (pv_struct [(0, 1), (1, 1)] (l := [_, _]) rfl Tryz.underlying31 tispec_Message (by kernel_rfl) rfl rfl) rfl ?_
  refine ln_storeW (i := 1) rfl rfl rfl rfl (tispec_Message).size rfl (by simp []) ?_
  refine ln_cd ?_
  refine cd_ret ?_
  refine at_retC (i := 1) rfl rfl rfl Tryz.underlying31 rfl tispec_Message.size rfl (fun w hS => ?_)
  exact ⟨_, _, rfl, obj_rs hS (i := 0) (m := 1) (sz := 8) rfl rfl (by simp [flat, Value.cells, RS.one hV1]), (RFs.part (RS.mv hV1 hS.trFin) (RFs.mv hF1 hS.trFin) rfl)⟩
theorem ok_F_WriteTxnMarkersResponse : okFs F_WriteTxnMarkersResponse = true ∧ ofOks F_WriteTxnMarkersResponse = true ∧ F_WriteTxnMarkersResponse.length < 1000000 := by decide
theorem max_ver_WriteTxnMarkersResponse (t : Vw) (p : Value) : CS Tryz.prog 78 [p] t (.int .i16 2) := by
  refine CA.cs ?_
  refine ca_enter Tryz.func78 rfl Tryz.ntmps78 rfl ?_
  refine cd_sr ?_
  refine ln_pv (pv_assign rfl) rfl ?_
  refine ln_cd ?_
  refine cd_sr ?_
  refine ln_pv (pv_assign rfl) rfl ?_
  refine ln_cd ?_
  refine cd_ret ?_
  exact at_retA rfl rfl (fun w hS => rfl)
theorem dflt_WriteTxnMarkersResponse (t : Vw) (p : Value) : CS Tryz.prog 135 [p] t (.tuple #[]) := by
  refine CA.cs ?_
  refine ca_enter Tryz.func135 rfl Tryz.ntmps135 rfl ?_
  refine cd_skip ?_
  exact at_retA0 rfl (fun w hS => rfl)
theorem newptr_WriteTxnMarkersResponse (t : Vw) : CA Tryz.prog 77 [] t fun u r => True := by
  refine ca_enter Tryz.func77 rfl Tryz.ntmps77 rfl ?_
  refine cd_sr ?_
  refine ln_pv (pv_assign rfl) rfl ?_
  refine ln_cd ?_
  refine cd_sr ?_
  refine ln_alloc tipub_kmsg_WriteTxnMarkersResponse rfl rfl (fun b1 => ?_)
  refine ln_cd ?_
  refine cd_sr ?_
  refine ln_callS en_135 rfl (fun u hu => dflt_WriteTxnMarkersResponse u _) rfl ?_
  refine ln_cd ?_
  refine cd_sr ?_
  refine ln_pv (pv_assign rfl) rfl ?_
  refine ln_cd ?_
  refine cd_ret ?_
  exact at_retA rfl rfl (fun w hS => trivial)
theorem max_WriteTxnMarkersResponse (t : Vw) : CS Tryz.prog 32 [] t (.int .i64 2) := by
  refine CA.cs ?_
  refine ca_enter Tryz.func32 rfl Tryz.ntmps32 rfl ?_
  refine cd_sr ?_
  refine ln_pv (pv_assign rfl) rfl ?_
  refine ln_cd ?_
  refine cd_sr ?_
  refine ln_callA en_77 rfl (fun u hu => newptr_WriteTxnMarkersResponse u) rfl (fun u1 v1 ht1 hR1 => ?_)
  refine ln_callS en_78 rfl (fun u hu => max_ver_WriteTxnMarkersResponse u _) rfl ?_
  refine ln_pv (pv_conv Tryz.underlying49 Tryz.underlying3 rfl) rfl ?_
  refine ln_pv (pv_assign rfl) rfl ?_
  refine ln_cd ?_
  refine cd_ret ?_
  exact at_retA rfl rfl (fun w hS => rfl)
end K
end Go.Proofs.YtkcdocdldebeoaaGreatDoorR
