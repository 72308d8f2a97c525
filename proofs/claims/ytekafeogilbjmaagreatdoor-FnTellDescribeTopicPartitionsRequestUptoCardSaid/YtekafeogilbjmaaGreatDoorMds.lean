import Derived.Test.YtekafeogilbjmaaGreatDoorQ0
set_option linter.unusedVariables false
set_option linter.unusedSimpArgs false
namespace Go.Proofs.YtekafeogilbjmaaGreatDoor
namespace K
open Go Go.Lib
def F_sDescribeTopicPartitionsRequestTopic : List Fld := [.mk 8 0 (-1) (-1) (-1) 0 0 []]
theorem sch_F_sDescribeTopicPartitionsRequestTopic (t : Vw) : CA Tryz.prog 79 [] t fun u r => ∃ lc, RS u 8 r F_sDescribeTopicPartitionsRequestTopic.length lc ∧ RFs u F_sDescribeTopicPartitionsRequestTopic lc := by
  refine ca_enter Tryz.func79 rfl Tryz.ntmps79 rfl ?_
  refine cd_sr ?_
  refine ln_pv (pv_assign rfl) rfl ?_
  refine ln_cd ?_
  refine cd_sr ?_
  refine ln_pv (pv_struct [(0, 1), (1, 1), (2, 1), (3, 1), (4, 1), (5, 1), (6, 1), (7, 1)] (l := [_, _, _, _, _, _, _, _]) rfl Tryz.underlying51 tispec_Field (by kernel_rfl) rfl rfl) rfl ?_
  refine ln_lit (vs := [_]) Tryz.underlying29 tispec_Field rfl (by decide) rfl rfl rfl rfl rfl rfl (fun b1 => ?_)
  refine ln_pv (pv_assign rfl) rfl ?_
  refine ln_cd ?_
  refine cd_ret ?_
  refine at_retA rfl rfl (fun w hS => ?_)
  exact ⟨_, obj_rs hS (i := 0) (m := 1) (sz := 8) rfl rfl (by simp [flat, Value.cells]), (RFs.leaf rfl)⟩

def F_sDescribeTopicPartitionsRequestCursor : List Fld := [.mk 8 0 (-1) (-1) (-1) 0 0 [], .mk 3 0 (-1) (-1) (-1) 0 0 []]
theorem sch_F_sDescribeTopicPartitionsRequestCursor (t : Vw) : CA Tryz.prog 80 [] t fun u r => ∃ lc, RS u 8 r F_sDescribeTopicPartitionsRequestCursor.length lc ∧ RFs u F_sDescribeTopicPartitionsRequestCursor lc := by
  refine ca_enter Tryz.func80 rfl Tryz.ntmps80 rfl ?_
  refine cd_sr ?_
  refine ln_pv (pv_assign rfl) rfl ?_
  refine ln_cd ?_
  refine cd_sr ?_
  refine ln_pv (pv_struct [(0, 1), (1, 1), (2, 1), (3, 1), (4, 1), (5, 1), (6, 1), (7, 1)] (l := [_, _, _, _, _, _, _, _]) rfl Tryz.underlying51 tispec_Field (by kernel_rfl) rfl rfl) rfl ?_
  refine ln_pv (pv_struct [(0, 1), (1, 1), (2, 1), (3, 1), (4, 1), (5, 1), (6, 1), (7, 1)] (l := [_, _, _, _, _, _, _, _]) rfl Tryz.underlying51 tispec_Field (by kernel_rfl) rfl rfl) rfl ?_
  refine ln_lit (vs := [_, _]) Tryz.underlying29 tispec_Field rfl (by decide) rfl rfl rfl rfl rfl rfl (fun b1 => ?_)
  refine ln_pv (pv_assign rfl) rfl ?_
  refine ln_cd ?_
  refine cd_ret ?_
  refine at_retA rfl rfl (fun w hS => ?_)
  exact ⟨_, obj_rs hS (i := 0) (m := 2) (sz := 8) rfl rfl (by simp [flat, Value.cells]), (RFs.leaf (RFs.leaf rfl))⟩

def F_DescribeTopicPartitionsRequest : List Fld := [.mk 11 0 (-1) (-1) (-1) 0 10 F_sDescribeTopicPartitionsRequestTopic, .mk 3 0 (-1) (-1) (-1) 2000 0 [], .mk 10 0 (-1) 0 (-1) 0 0 F_sDescribeTopicPartitionsRequestCursor]
theorem sch_F_DescribeTopicPartitionsRequest (t : Vw) : CA Tryz.prog 29 [] t fun u r => ∃ sv lc, r = .agg #[sv, .int .i64 (0)] ∧ RS u 8 sv F_DescribeTopicPartitionsRequest.length lc ∧ RFs u F_DescribeTopicPartitionsRequest lc := by
  refine ca_enter Tryz.func29 rfl Tryz.ntmps29 rfl ?_
  refine cd_sr ?_
  refine ln_alloc tispec_Message rfl rfl (fun b1 => ?_)
  refine ln_cd ?_
  refine cd_sr ?_
  refine ln_callA en_79 rfl (fun u hu => sch_F_sDescribeTopicPartitionsRequestTopic u) rfl (fun u1 v1 ht1 hR1 => ?_)
  obtain ⟨lc1, hV1, hF1⟩ := hR1
  refine ln_pv (pv_struct [(0, 1), (1, 1), (2, 1), (3, 1), (4, 1), (5, 1), (6, 1), (7, 1)] (l := [_, _, _, _, _, _, _, _]) rfl Tryz.underlying51 tispec_Field (by kernel_rfl) rfl (by simp [okL, Nat.ble_eq, Value.cells, (RS.one hV1)])) rfl ?_
  refine ln_pv (pv_struct [(0, 1), (1, 1), (2, 1), (3, 1), (4, 1), (5, 1), (6, 1), (7, 1)] (l := [_, _, _, _, _, _, _, _]) rfl Tryz.underlying51 tispec_Field (by kernel_rfl) rfl rfl) rfl ?_
  refine ln_callA en_80 rfl (fun u hu => sch_F_sDescribeTopicPartitionsRequestCursor u) rfl (fun u2 v2 ht2 hR2 => ?_)
  have hV1 := hV1.mv ht2
  have hF1 := hF1.mv ht2
  obtain ⟨lc2, hV2, hF2⟩ := hR2
  refine ln_pv (pv_struct [(0, 1), (1, 1), (2, 1), (3, 1), (4, 1), (5, 1), (6, 1), (7, 1)] (l := [_, _, _, _, _, _, _, _]) rfl Tryz.underlying51 tispec_Field (by kernel_rfl) rfl (by simp [okL, Nat.ble_eq, Value.cells, (RS.one hV2)])) rfl ?_
  refine ln_lit (vs := [_, _, _]) Tryz.underlying29 tispec_Field rfl (by decide) rfl rfl rfl rfl rfl rfl (fun b2 => ?_)
  refine ln_pv (pv_struct [(0, 1), (1, 1)] (l := [_, _]) rfl Tryz.underlying31 tispec_Message (by kernel_rfl) rfl rfl) rfl ?_
  refine ln_storeW (i := 1) rfl rfl rfl rfl (tispec_Message).size rfl (by simp []) ?_
  refine ln_cd ?_
  refine cd_ret ?_
  refine at_retC (i := 1) rfl rfl rfl Tryz.underlying31 rfl tispec_Message.size rfl (fun w hS => ?_)
  exact ⟨_, _, rfl, obj_rs hS (i := 0) (m := 3) (sz := 8) rfl rfl (by simp [flat, Value.cells, RS.one hV1, RS.one hV2]), (RFs.part (RS.mv hV1 hS.trFin) (RFs.mv hF1 hS.trFin) (RFs.leaf (RFs.part (RS.mv hV2 hS.trFin) (RFs.mv hF2 hS.trFin) rfl)))⟩
theorem ok_F_DescribeTopicPartitionsRequest : okFs F_DescribeTopicPartitionsRequest = true ∧ ofOks F_DescribeTopicPartitionsRequest = true ∧ F_DescribeTopicPartitionsRequest.length < 1000000 := by decide
theorem max_ver_DescribeTopicPartitionsRequest (t : Vw) (p : Value) : CS Tryz.prog 78 [p] t (.int .i16 0) := by
  refine CA.cs ?_
  refine ca_enter Tryz.func78 rfl Tryz.ntmps78 rfl ?_
  refine cd_sr ?_
  refine ln_pv (pv_assign rfl) rfl ?_
  refine ln_cd ?_
  refine cd_sr ?_
  refine ln_pv (pv_assign rfl) rfl ?_
  refine ln_cd ?_
  refine cd_ret ?_
  exact at_retA rfl rfl (fun w hS => rfl)
theorem dflt_DescribeTopicPartitionsRequest (t : Vw) (b : Nat) (hok : (.obj b (.cells ([.int .i16 0, .slice none 0 0, .int .i32 0, .pointer none, .map none] : List Value).toArray 143) : Ent).ok t.w) (hav : ∀ q ∈ (.obj b (.cells ([.int .i16 0, .slice none 0 0, .int .i32 0, .pointer none, .map none] : List Value).toArray 143) : Ent).blk, t.av q) : CT Tryz.prog 145 [.pointer (some ⟨b, 0, none⟩)] t (.obj b (.cells ([.int .i16 0, .slice none 0 0, .int .i32 0, .pointer none, .map none] : List Value).toArray 143) : Ent) fun u r e' => ∃ M : List Value, e' = .obj b (.cells M.toArray 143) := by
  refine ct_enter Tryz.func145 rfl Tryz.ntmps145 rfl hok hav (by simp [Ent.blk]) ?_
  refine cd_sr ?_
  refine ln_pv (pv_move rfl) rfl ?_
  refine ln_pv (pv_nilCheck rfl) rfl ?_
  refine ln_pv (pv_fieldAddr (off := 2) (r := 2) Tryz.underlying143 rfl (tiint32).size rfl rfl rfl) rfl ?_
  refine ln_store1 (i := 0) rfl rfl rfl rfl (tiint32).size rfl ?_
  refine ln_cd ?_
  refine cd_sr ?_
  refine ln_pv (pv_move rfl) rfl ?_
  refine ln_pv (pv_nilCheck rfl) rfl ?_
  refine ln_pv (pv_fieldAddr (off := 3) (r := 3) Tryz.underlying143 rfl (tiPt_kmsg_DescribeTopicPartitionsRequestCursor).size rfl rfl rfl) rfl ?_
  refine ln_pv (pv_assign rfl) rfl ?_
  refine ln_cd ?_
  refine cd_region ?_
  refine ln_pv (pv_move rfl) rfl ?_
  refine ln_nil ?_
  exact at_retT0 (i := 0) rfl rfl (fun w hS => ⟨_, rfl⟩)
theorem newptr_DescribeTopicPartitionsRequest (t : Vw) : CA Tryz.prog 77 [] t fun u r => True := by
  refine ca_enter Tryz.func77 rfl Tryz.ntmps77 rfl ?_
  refine cd_sr ?_
  refine ln_pv (pv_assign rfl) rfl ?_
  refine ln_cd ?_
  refine cd_sr ?_
  refine ln_alloc tipub_kmsg_DescribeTopicPartitionsRequest rfl rfl (fun b1 => ?_)
  refine ln_cd ?_
  refine cd_sr ?_
  refine ln_callT (i := 0) en_145 rfl rfl (fun u hu hok hav => dflt_DescribeTopicPartitionsRequest u _ hok hav) rfl ?_
  rintro u1 v1 _ ht1 ⟨_, ⟨M1, rfl⟩, _⟩
  refine ln_cd ?_
  refine cd_sr ?_
  refine ln_pv (pv_assign rfl) rfl ?_
  refine ln_cd ?_
  refine cd_ret ?_
  exact at_retA rfl rfl (fun w hS => trivial)
theorem max_DescribeTopicPartitionsRequest (t : Vw) : CS Tryz.prog 28 [] t (.int .i64 0) := by
  refine CA.cs ?_
  refine ca_enter Tryz.func28 rfl Tryz.ntmps28 rfl ?_
  refine cd_sr ?_
  refine ln_pv (pv_assign rfl) rfl ?_
  refine ln_cd ?_
  refine cd_sr ?_
  refine ln_callA en_77 rfl (fun u hu => newptr_DescribeTopicPartitionsRequest u) rfl (fun u1 v1 ht1 hR1 => ?_)
  refine ln_callS en_78 rfl (fun u hu => max_ver_DescribeTopicPartitionsRequest u _) rfl ?_
  refine ln_pv (pv_conv Tryz.underlying46 Tryz.underlying3 rfl) rfl ?_
  refine ln_pv (pv_assign rfl) rfl ?_
  refine ln_cd ?_
  refine cd_ret ?_
  exact at_retA rfl rfl (fun w hS => rfl)
end K
end Go.Proofs.YtekafeogilbjmaaGreatDoor
