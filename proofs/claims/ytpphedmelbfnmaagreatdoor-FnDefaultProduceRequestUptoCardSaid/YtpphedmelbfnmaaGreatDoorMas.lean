import Derived.Test.YtpphedmelbfnmaaGreatDoorQ0
set_option linter.unusedVariables false
set_option linter.unusedSimpArgs false
namespace Go.Proofs.YtpphedmelbfnmaaGreatDoor
namespace K
open Go Go.Lib
def F_sProduceRequestTopicPartition : List Fld := [.mk 3 0 (-1) (-1) (-1) 0 0 [], .mk 9 0 (-1) 0 (-1) 0 0 []]
theorem sch_F_sProduceRequestTopicPartition (t : Vw) : CA Tryz.prog 65 [] t fun u r => ∃ lc, RS u 8 r F_sProduceRequestTopicPartition.length lc ∧ RFs u F_sProduceRequestTopicPartition lc := by
  refine ca_enter Tryz.func65 rfl Tryz.ntmps65 rfl ?_
  refine cd_sr ?_
  refine ln_pv (pv_assign rfl) rfl ?_
  refine ln_cd ?_
  refine cd_sr ?_
  refine ln_pv (pv_struct [(0, 1), (1, 1), (2, 1), (3, 1), (4, 1), (5, 1), (6, 1), (7, 1)] (l := [_, _, _, _, _, _, _, _]) rfl Tryz.underlying54 tispec_Field (by kernel_rfl) rfl rfl) rfl ?_
  refine ln_pv (pv_struct [(0, 1), (1, 1), (2, 1), (3, 1), (4, 1), (5, 1), (6, 1), (7, 1)] (l := [_, _, _, _, _, _, _, _]) rfl Tryz.underlying54 tispec_Field (by kernel_rfl) rfl rfl) rfl ?_
  refine ln_lit (vs := [_, _]) Tryz.underlying29 tispec_Field rfl (by decide) rfl rfl rfl rfl rfl rfl (fun b1 => ?_)
  refine ln_pv (pv_assign rfl) rfl ?_
  refine ln_cd ?_
  refine cd_ret ?_
  refine at_retA rfl rfl (fun w hS => ?_)
  exact ⟨_, obj_rs hS (i := 0) (m := 2) (sz := 8) rfl rfl (by simp [flat, Value.cells]), (RFs.leaf (RFs.leaf rfl))⟩

def F_sProduceRequestTopic : List Fld := [.mk 8 0 12 (-1) (-1) 0 0 [], .mk 7 13 (-1) (-1) (-1) 0 0 [], .mk 11 0 (-1) (-1) (-1) 0 10 F_sProduceRequestTopicPartition]
theorem sch_F_sProduceRequestTopic (t : Vw) : CA Tryz.prog 31 [] t fun u r => ∃ lc, RS u 8 r F_sProduceRequestTopic.length lc ∧ RFs u F_sProduceRequestTopic lc := by
  refine ca_enter Tryz.func31 rfl Tryz.ntmps31 rfl ?_
  refine cd_sr ?_
  refine ln_pv (pv_assign rfl) rfl ?_
  refine ln_cd ?_
  refine cd_sr ?_
  refine ln_pv (pv_struct [(0, 1), (1, 1), (2, 1), (3, 1), (4, 1), (5, 1), (6, 1), (7, 1)] (l := [_, _, _, _, _, _, _, _]) rfl Tryz.underlying54 tispec_Field (by kernel_rfl) rfl rfl) rfl ?_
  refine ln_pv (pv_struct [(0, 1), (1, 1), (2, 1), (3, 1), (4, 1), (5, 1), (6, 1), (7, 1)] (l := [_, _, _, _, _, _, _, _]) rfl Tryz.underlying54 tispec_Field (by kernel_rfl) rfl rfl) rfl ?_
  refine ln_callA en_65 rfl (fun u hu => sch_F_sProduceRequestTopicPartition u) rfl (fun u1 v1 ht1 hR1 => ?_)
  obtain ⟨lc1, hV1, hF1⟩ := hR1
  refine ln_pv (pv_struct [(0, 1), (1, 1), (2, 1), (3, 1), (4, 1), (5, 1), (6, 1), (7, 1)] (l := [_, _, _, _, _, _, _, _]) rfl Tryz.underlying54 tispec_Field (by kernel_rfl) rfl (by simp [okL, Nat.ble_eq, Value.cells, (RS.one hV1)])) rfl ?_
  refine ln_lit (vs := [_, _, _]) Tryz.underlying29 tispec_Field rfl (by decide) rfl rfl rfl rfl rfl rfl (fun b1 => ?_)
  refine ln_pv (pv_assign rfl) rfl ?_
  refine ln_cd ?_
  refine cd_ret ?_
  refine at_retA rfl rfl (fun w hS => ?_)
  exact ⟨_, obj_rs hS (i := 0) (m := 3) (sz := 8) rfl rfl (by simp [flat, Value.cells, RS.one hV1]), (RFs.leaf (RFs.leaf (RFs.part (RS.mv hV1 hS.trFin) (RFs.mv hF1 hS.trFin) rfl)))⟩

def F_ProduceRequest : List Fld := [.mk 8 3 (-1) 3 (-1) 0 0 [], .mk 2 0 (-1) (-1) (-1) 0 0 [], .mk 3 0 (-1) (-1) (-1) 15000 0 [], .mk 11 0 (-1) (-1) (-1) 0 10 F_sProduceRequestTopic]
theorem sch_F_ProduceRequest (t : Vw) : CA Tryz.prog 14 [] t fun u r => ∃ sv lc, r = .agg #[sv, .int .i64 (9)] ∧ RS u 8 sv F_ProduceRequest.length lc ∧ RFs u F_ProduceRequest lc := by
  refine ca_enter Tryz.func14 rfl Tryz.ntmps14 rfl ?_
  refine cd_sr ?_
  refine ln_alloc tispec_Message rfl rfl (fun b1 => ?_)
  refine ln_cd ?_
  refine cd_sr ?_
  refine ln_pv (pv_struct [(0, 1), (1, 1), (2, 1), (3, 1), (4, 1), (5, 1), (6, 1), (7, 1)] (l := [_, _, _, _, _, _, _, _]) rfl Tryz.underlying54 tispec_Field (by kernel_rfl) rfl rfl) rfl ?_
  refine ln_pv (pv_struct [(0, 1), (1, 1), (2, 1), (3, 1), (4, 1), (5, 1), (6, 1), (7, 1)] (l := [_, _, _, _, _, _, _, _]) rfl Tryz.underlying54 tispec_Field (by kernel_rfl) rfl rfl) rfl ?_
  refine ln_pv (pv_struct [(0, 1), (1, 1), (2, 1), (3, 1), (4, 1), (5, 1), (6, 1), (7, 1)] (l := [_, _, _, _, _, _, _, _]) rfl Tryz.underlying54 tispec_Field (by kernel_rfl) rfl rfl) rfl ?_
  refine ln_callA en_31 rfl (fun u hu => sch_F_sProduceRequestTopic u) rfl (fun u1 v1 ht1 hR1 => ?_)
  obtain ⟨lc1, hV1, hF1⟩ := hR1
  refine ln_pv (pv_struct [(0, 1), (1, 1), (2, 1), (3, 1), (4, 1), (5, 1), (6, 1), (7, 1)] (l := [_, _, _, _, _, _, _, _]) rfl Tryz.underlying54 tispec_Field (by kernel_rfl) rfl (by simp [okL, Nat.ble_eq, Value.cells, (RS.one hV1)])) rfl ?_
  refine ln_lit (vs := [_, _, _, _]) Tryz.underlying29 tispec_Field rfl (by decide) rfl rfl rfl rfl rfl rfl (fun b2 => ?_)
  refine ln_pv (pv_struct [(0, 1), (1, 1)] (l := [_, _]) rfl Tryz.underlying31 tispec_Message (by kernel_rfl) rfl rfl) rfl ?_
  refine ln_storeW (i := 1) rfl rfl rfl rfl (tispec_Message).size rfl (by simp []) ?_
  refine ln_cd ?_
  refine cd_ret ?_
  refine at_retC (i := 1) rfl rfl rfl Tryz.underlying31 rfl tispec_Message.size rfl (fun w hS => ?_)
  exact ⟨_, _, rfl, obj_rs hS (i := 0) (m := 4) (sz := 8) rfl rfl (by simp [flat, Value.cells, RS.one hV1]), (RFs.leaf (RFs.leaf (RFs.leaf (RFs.part (RS.mv hV1 hS.trFin) (RFs.mv hF1 hS.trFin) rfl))))⟩
theorem ok_F_ProduceRequest : okFs F_ProduceRequest = true ∧ ofOks F_ProduceRequest = true ∧ F_ProduceRequest.length < 1000000 := by decide
theorem max_ver_ProduceRequest (t : Vw) (p : Value) : CS Tryz.prog 30 [p] t (.int .i16 13) := by
  refine CA.cs ?_
  refine ca_enter Tryz.func30 rfl Tryz.ntmps30 rfl ?_
  refine cd_sr ?_
  refine ln_pv (pv_assign rfl) rfl ?_
  refine ln_cd ?_
  refine cd_sr ?_
  refine ln_pv (pv_assign rfl) rfl ?_
  refine ln_cd ?_
  refine cd_ret ?_
  exact at_retA rfl rfl (fun w hS => rfl)
theorem dflt_ProduceRequest (t : Vw) (b : Nat) (hok : (.obj b (.cells ([.int .i16 0, .pointer none, .int .i16 0, .int .i32 0, .slice none 0 0, .map none] : List Value).toArray 100) : Ent).ok t.w) (hav : ∀ q ∈ (.obj b (.cells ([.int .i16 0, .pointer none, .int .i16 0, .int .i32 0, .slice none 0 0, .map none] : List Value).toArray 100) : Ent).blk, t.av q) : CT Tryz.prog 34 [.pointer (some ⟨b, 0, none⟩)] t (.obj b (.cells ([.int .i16 0, .pointer none, .int .i16 0, .int .i32 0, .slice none 0 0, .map none] : List Value).toArray 100) : Ent) fun u r e' => ∃ M : List Value, e' = .obj b (.cells M.toArray 100) := by
  refine ct_enter Tryz.func34 rfl Tryz.ntmps34 rfl hok hav (by simp [Ent.blk]) ?_
  refine cd_region ?_
  refine ln_pv (pv_move rfl) rfl ?_
  refine ln_pv (pv_nilCheck rfl) rfl ?_
  refine ln_pv (pv_fieldAddr (off := 3) (r := 3) Tryz.underlying100 rfl (tiint32).size rfl rfl rfl) rfl ?_
  refine ln_store1 (i := 0) rfl rfl rfl rfl (tiint32).size rfl ?_
  refine ln_nil ?_
  exact at_retT0 (i := 0) rfl rfl (fun w hS => ⟨_, rfl⟩)
theorem newptr_ProduceRequest (t : Vw) : CA Tryz.prog 29 [] t fun u r => True := by
  refine ca_enter Tryz.func29 rfl Tryz.ntmps29 rfl ?_
  refine cd_sr ?_
  refine ln_pv (pv_assign rfl) rfl ?_
  refine ln_cd ?_
  refine cd_sr ?_
  refine ln_alloc tipub_kmsg_ProduceRequest rfl rfl (fun b1 => ?_)
  refine ln_cd ?_
  refine cd_sr ?_
  refine ln_callT (i := 0) en_34 rfl rfl (fun u hu hok hav => dflt_ProduceRequest u _ hok hav) rfl ?_
  rintro u1 v1 _ ht1 ⟨_, ⟨M1, rfl⟩, _⟩
  refine ln_cd ?_
  refine cd_sr ?_
  refine ln_pv (pv_assign rfl) rfl ?_
  refine ln_cd ?_
  refine cd_ret ?_
  exact at_retA rfl rfl (fun w hS => trivial)
theorem max_ProduceRequest (t : Vw) : CS Tryz.prog 13 [] t (.int .i64 13) := by
  refine CA.cs ?_
  refine ca_enter Tryz.func13 rfl Tryz.ntmps13 rfl ?_
  refine cd_sr ?_
  refine ln_pv (pv_assign rfl) rfl ?_
  refine ln_cd ?_
  refine cd_sr ?_
  refine ln_callA en_29 rfl (fun u hu => newptr_ProduceRequest u) rfl (fun u1 v1 ht1 hR1 => ?_)
  refine ln_callS en_30 rfl (fun u hu => max_ver_ProduceRequest u _) rfl ?_
  refine ln_pv (pv_conv Tryz.underlying49 Tryz.underlying3 rfl) rfl ?_
  refine ln_pv (pv_assign rfl) rfl ?_
  refine ln_cd ?_
  refine cd_ret ?_
  exact at_retA rfl rfl (fun w hS => rfl)
end K
end Go.Proofs.YtpphedmelbfnmaaGreatDoor
