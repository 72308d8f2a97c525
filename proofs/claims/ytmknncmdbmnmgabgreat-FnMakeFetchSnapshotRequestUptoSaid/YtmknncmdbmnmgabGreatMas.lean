import Derived.Test.YtmknncmdbmnmgabGreatQ0
set_option linter.unusedVariables false
set_option linter.unusedSimpArgs false
namespace Go.Proofs.YtmknncmdbmnmgabGreat
namespace K
open Go Go.Lib
def F_sFetchSnapshotRequestTopicPartitionSnapshotID : List Fld := [.mk 4 0 (-1) (-1) (-1) 0 0 [], .mk 3 0 (-1) (-1) (-1) 0 0 []]
theorem sch_F_sFetchSnapshotRequestTopicPartitionSnapshotID (t : Vw) : CA Tryz.prog 103 [] t fun u r => ∃ lc, RS u 8 r F_sFetchSnapshotRequestTopicPartitionSnapshotID.length lc ∧ RFs u F_sFetchSnapshotRequestTopicPartitionSnapshotID lc := by
  refine ca_enter Tryz.func103 rfl Tryz.ntmps103 rfl ?_
  refine cd_sr ?_
  refine ln_pv (pv_assign rfl) rfl ?_
  refine ln_cd ?_
  refine cd_sr ?_
  refine ln_pv (pv_struct [(0, 1), (1, 1), (2, 1), (3, 1), (4, 1), (5, 1), (6, 1), (7, 1)] (l := [_, _, _, _, _, _, _, _]) rfl Tryz.underlying50 tispec_Field (by kernel_rfl) rfl rfl) rfl ?_
  refine ln_pv (pv_struct [(0, 1), (1, 1), (2, 1), (3, 1), (4, 1), (5, 1), (6, 1), (7, 1)] (l := [_, _, _, _, _, _, _, _]) rfl Tryz.underlying50 tispec_Field (by kernel_rfl) rfl rfl) rfl ?_
  refine ln_lit (vs := [_, _]) Tryz.underlying29 tispec_Field rfl (by decide) rfl rfl rfl rfl rfl rfl (fun b1 => ?_)
  refine ln_pv (pv_assign rfl) rfl ?_
  refine ln_cd ?_
  refine cd_ret ?_
  refine at_retA rfl rfl (fun w hS => ?_)
  exact ⟨_, obj_rs hS (i := 0) (m := 2) (sz := 8) rfl rfl (by simp [flat, Value.cells]), (RFs.leaf (RFs.leaf rfl))⟩

def F_sFetchSnapshotRequestTopicPartition : List Fld := [.mk 3 0 (-1) (-1) (-1) 0 0 [], .mk 3 0 (-1) (-1) (-1) 0 0 [], .mk 10 0 (-1) (-1) (-1) 0 0 F_sFetchSnapshotRequestTopicPartitionSnapshotID, .mk 4 0 (-1) (-1) (-1) 0 0 [], .mk 7 0 (-1) (-1) 0 0 0 []]
theorem sch_F_sFetchSnapshotRequestTopicPartition (t : Vw) : CA Tryz.prog 59 [] t fun u r => ∃ lc, RS u 8 r F_sFetchSnapshotRequestTopicPartition.length lc ∧ RFs u F_sFetchSnapshotRequestTopicPartition lc := by
  refine ca_enter Tryz.func59 rfl Tryz.ntmps59 rfl ?_
  refine cd_sr ?_
  refine ln_pv (pv_assign rfl) rfl ?_
  refine ln_cd ?_
  refine cd_sr ?_
  refine ln_pv (pv_struct [(0, 1), (1, 1), (2, 1), (3, 1), (4, 1), (5, 1), (6, 1), (7, 1)] (l := [_, _, _, _, _, _, _, _]) rfl Tryz.underlying50 tispec_Field (by kernel_rfl) rfl rfl) rfl ?_
  refine ln_pv (pv_struct [(0, 1), (1, 1), (2, 1), (3, 1), (4, 1), (5, 1), (6, 1), (7, 1)] (l := [_, _, _, _, _, _, _, _]) rfl Tryz.underlying50 tispec_Field (by kernel_rfl) rfl rfl) rfl ?_
  refine ln_callA en_103 rfl (fun u hu => sch_F_sFetchSnapshotRequestTopicPartitionSnapshotID u) rfl (fun u1 v1 ht1 hR1 => ?_)
  obtain ⟨lc1, hV1, hF1⟩ := hR1
  refine ln_pv (pv_struct [(0, 1), (1, 1), (2, 1), (3, 1), (4, 1), (5, 1), (6, 1), (7, 1)] (l := [_, _, _, _, _, _, _, _]) rfl Tryz.underlying50 tispec_Field (by kernel_rfl) rfl (by simp [okL, Nat.ble_eq, Value.cells, (RS.one hV1)])) rfl ?_
  refine ln_pv (pv_struct [(0, 1), (1, 1), (2, 1), (3, 1), (4, 1), (5, 1), (6, 1), (7, 1)] (l := [_, _, _, _, _, _, _, _]) rfl Tryz.underlying50 tispec_Field (by kernel_rfl) rfl rfl) rfl ?_
  refine ln_pv (pv_struct [(0, 1), (1, 1), (2, 1), (3, 1), (4, 1), (5, 1), (6, 1), (7, 1)] (l := [_, _, _, _, _, _, _, _]) rfl Tryz.underlying50 tispec_Field (by kernel_rfl) rfl rfl) rfl ?_
  refine ln_lit (vs := [_, _, _, _, _]) Tryz.underlying29 tispec_Field rfl (by decide) rfl rfl rfl rfl rfl rfl (fun b1 => ?_)
  refine ln_pv (pv_assign rfl) rfl ?_
  refine ln_cd ?_
  refine cd_ret ?_
  refine at_retA rfl rfl (fun w hS => ?_)
  exact ⟨_, obj_rs hS (i := 0) (m := 5) (sz := 8) rfl rfl (by simp [flat, Value.cells, RS.one hV1]), (RFs.leaf (RFs.leaf (RFs.part (RS.mv hV1 hS.trFin) (RFs.mv hF1 hS.trFin) (RFs.leaf (RFs.leaf rfl)))))⟩

def F_sFetchSnapshotRequestTopic : List Fld := [.mk 8 0 (-1) (-1) (-1) 0 0 [], .mk 11 0 (-1) (-1) (-1) 0 10 F_sFetchSnapshotRequestTopicPartition]
theorem sch_F_sFetchSnapshotRequestTopic (t : Vw) : CA Tryz.prog 28 [] t fun u r => ∃ lc, RS u 8 r F_sFetchSnapshotRequestTopic.length lc ∧ RFs u F_sFetchSnapshotRequestTopic lc := by
  refine ca_enter Tryz.func28 rfl Tryz.ntmps28 rfl ?_
  refine cd_sr ?_
  refine ln_pv (pv_assign rfl) rfl ?_
  refine ln_cd ?_
  refine cd_sr ?_
  refine ln_pv (pv_struct [(0, 1), (1, 1), (2, 1), (3, 1), (4, 1), (5, 1), (6, 1), (7, 1)] (l := [_, _, _, _, _, _, _, _]) rfl Tryz.underlying50 tispec_Field (by kernel_rfl) rfl rfl) rfl ?_
  refine ln_callA en_59 rfl (fun u hu => sch_F_sFetchSnapshotRequestTopicPartition u) rfl (fun u1 v1 ht1 hR1 => ?_)
  obtain ⟨lc1, hV1, hF1⟩ := hR1
  refine ln_pv (pv_struct [(0, 1), (1, 1), (2, 1), (3, 1), (4, 1), (5, 1), (6, 1), (7, 1)] (l := [_, _, _, _, _, _, _, _]) rfl Tryz.underlying50 tispec_Field (by kernel_rfl) rfl (by simp [okL, Nat.ble_eq, Value.cells, (RS.one hV1)])) rfl ?_
  refine ln_lit (vs := [_, _]) Tryz.underlying29 tispec_Field rfl (by decide) rfl rfl rfl rfl rfl rfl (fun b1 => ?_)
  refine ln_pv (pv_assign rfl) rfl ?_
  refine ln_cd ?_
  refine cd_ret ?_
  refine at_retA rfl rfl (fun w hS => ?_)
  exact ⟨_, obj_rs hS (i := 0) (m := 2) (sz := 8) rfl rfl (by simp [flat, Value.cells, RS.one hV1]), (RFs.leaf (RFs.part (RS.mv hV1 hS.trFin) (RFs.mv hF1 hS.trFin) rfl))⟩

def F_FetchSnapshotRequest : List Fld := [.mk 8 0 (-1) 0 0 0 0 [], .mk 3 0 (-1) (-1) (-1) (-1) 0 [], .mk 3 0 (-1) (-1) (-1) 2147483647 0 [], .mk 11 0 (-1) (-1) (-1) 0 10 F_sFetchSnapshotRequestTopic]
theorem sch_F_FetchSnapshotRequest (t : Vw) : CA Tryz.prog 9 [] t fun u r => ∃ sv lc, r = .agg #[sv, .int .i64 (0)] ∧ RS u 8 sv F_FetchSnapshotRequest.length lc ∧ RFs u F_FetchSnapshotRequest lc := by
  refine ca_enter Tryz.func9 rfl Tryz.ntmps9 rfl ?_
  refine cd_sr ?_
  refine ln_alloc tispec_Message rfl rfl (fun b1 => ?_)
  refine ln_cd ?_
  refine cd_sr ?_
  refine ln_pv (pv_struct [(0, 1), (1, 1), (2, 1), (3, 1), (4, 1), (5, 1), (6, 1), (7, 1)] (l := [_, _, _, _, _, _, _, _]) rfl Tryz.underlying50 tispec_Field (by kernel_rfl) rfl rfl) rfl ?_
  refine ln_pv (pv_struct [(0, 1), (1, 1), (2, 1), (3, 1), (4, 1), (5, 1), (6, 1), (7, 1)] (l := [_, _, _, _, _, _, _, _]) rfl Tryz.underlying50 tispec_Field (by kernel_rfl) rfl rfl) rfl ?_
  refine ln_pv (pv_struct [(0, 1), (1, 1), (2, 1), (3, 1), (4, 1), (5, 1), (6, 1), (7, 1)] (l := [_, _, _, _, _, _, _, _]) rfl Tryz.underlying50 tispec_Field (by kernel_rfl) rfl rfl) rfl ?_
  refine ln_callA en_28 rfl (fun u hu => sch_F_sFetchSnapshotRequestTopic u) rfl (fun u1 v1 ht1 hR1 => ?_)
  obtain ⟨lc1, hV1, hF1⟩ := hR1
  refine ln_pv (pv_struct [(0, 1), (1, 1), (2, 1), (3, 1), (4, 1), (5, 1), (6, 1), (7, 1)] (l := [_, _, _, _, _, _, _, _]) rfl Tryz.underlying50 tispec_Field (by kernel_rfl) rfl (by simp [okL, Nat.ble_eq, Value.cells, (RS.one hV1)])) rfl ?_
  refine ln_lit (vs := [_, _, _, _]) Tryz.underlying29 tispec_Field rfl (by decide) rfl rfl rfl rfl rfl rfl (fun b2 => ?_)
  refine ln_pv (pv_struct [(0, 1), (1, 1)] (l := [_, _]) rfl Tryz.underlying31 tispec_Message (by kernel_rfl) rfl rfl) rfl ?_
  refine ln_storeW (i := 1) rfl rfl rfl rfl (tispec_Message).size rfl (by simp []) ?_
  refine ln_cd ?_
  refine cd_ret ?_
  refine at_retC (i := 1) rfl rfl rfl Tryz.underlying31 rfl tispec_Message.size rfl (fun w hS => ?_)
  exact ⟨_, _, rfl, obj_rs hS (i := 0) (m := 4) (sz := 8) rfl rfl (by simp [flat, Value.cells, RS.one hV1]), (RFs.leaf (RFs.leaf (RFs.leaf (RFs.part (RS.mv hV1 hS.trFin) (RFs.mv hF1 hS.trFin) rfl))))⟩
theorem ok_F_FetchSnapshotRequest : okFs F_FetchSnapshotRequest = true ∧ ofOks F_FetchSnapshotRequest = true ∧ F_FetchSnapshotRequest.length < 1000000 := by decide
theorem max_ver_FetchSnapshotRequest (t : Vw) (p : Value) : CS Tryz.prog 27 [p] t (.int .i16 1) := by
  refine CA.cs ?_
  refine ca_enter Tryz.func27 rfl Tryz.ntmps27 rfl ?_
  refine cd_sr ?_
  refine ln_pv (pv_assign rfl) rfl ?_
  refine ln_cd ?_
  refine cd_sr ?_
  refine ln_pv (pv_assign rfl) rfl ?_
  refine ln_cd ?_
  refine cd_ret ?_
  exact at_retA rfl rfl (fun w hS => rfl)
theorem dflt_FetchSnapshotRequest (t : Vw) (b : Nat) (hok : (.obj b (.cells ([.int .i16 0, .pointer none, .int .i32 0, .int .i32 0, .slice none 0 0, .map none] : List Value).toArray 58) : Ent).ok t.w) (hav : ∀ q ∈ (.obj b (.cells ([.int .i16 0, .pointer none, .int .i32 0, .int .i32 0, .slice none 0 0, .map none] : List Value).toArray 58) : Ent).blk, t.av q) : CT Tryz.prog 58 [.pointer (some ⟨b, 0, none⟩)] t (.obj b (.cells ([.int .i16 0, .pointer none, .int .i32 0, .int .i32 0, .slice none 0 0, .map none] : List Value).toArray 58) : Ent) fun u r e' => ∃ M : List Value, e' = .obj b (.cells M.toArray 58) := by
  refine ct_enter Tryz.func58 rfl Tryz.ntmps58 rfl hok hav (by simp [Ent.blk]) ?_
  refine cd_sr ?_
  refine ln_pv (pv_move rfl) rfl ?_
  refine ln_pv (pv_nilCheck rfl) rfl ?_
  refine ln_pv (pv_fieldAddr (off := 2) (r := 2) Tryz.underlying58 rfl (tiint32).size rfl rfl rfl) rfl ?_
  refine ln_store1 (i := 0) rfl rfl rfl rfl (tiint32).size rfl ?_
  refine ln_cd ?_
  refine cd_region ?_
  refine ln_pv (pv_move rfl) rfl ?_
  refine ln_pv (pv_nilCheck rfl) rfl ?_
  refine ln_pv (pv_fieldAddr (off := 3) (r := 3) Tryz.underlying58 rfl (tiint32).size rfl rfl rfl) rfl ?_
  refine ln_store1 (i := 0) rfl rfl rfl rfl (tiint32).size rfl ?_
  refine ln_nil ?_
  exact at_retT0 (i := 0) rfl rfl (fun w hS => ⟨_, rfl⟩)
theorem newptr_FetchSnapshotRequest (t : Vw) : CA Tryz.prog 26 [] t fun u r => True := by
  refine ca_enter Tryz.func26 rfl Tryz.ntmps26 rfl ?_
  refine cd_sr ?_
  refine ln_pv (pv_assign rfl) rfl ?_
  refine ln_cd ?_
  refine cd_sr ?_
  refine ln_alloc tipub_kmsg_FetchSnapshotRequest rfl rfl (fun b1 => ?_)
  refine ln_cd ?_
  refine cd_sr ?_
  refine ln_callT (i := 0) en_58 rfl rfl (fun u hu hok hav => dflt_FetchSnapshotRequest u _ hok hav) rfl ?_
  rintro u1 v1 _ ht1 ⟨_, ⟨M1, rfl⟩, _⟩
  refine ln_cd ?_
  refine cd_sr ?_
  refine ln_pv (pv_assign rfl) rfl ?_
  refine ln_cd ?_
  refine cd_ret ?_
  exact at_retA rfl rfl (fun w hS => trivial)
theorem max_FetchSnapshotRequest (t : Vw) : CS Tryz.prog 8 [] t (.int .i64 1) := by
  refine CA.cs ?_
  refine ca_enter Tryz.func8 rfl Tryz.ntmps8 rfl ?_
  refine cd_sr ?_
  refine ln_pv (pv_assign rfl) rfl ?_
  refine ln_cd ?_
  refine cd_sr ?_
  refine ln_callA en_26 rfl (fun u hu => newptr_FetchSnapshotRequest u) rfl (fun u1 v1 ht1 hR1 => ?_)
  refine ln_callS en_27 rfl (fun u hu => max_ver_FetchSnapshotRequest u _) rfl ?_
  refine ln_pv (pv_conv Tryz.underlying45 Tryz.underlying3 rfl) rfl ?_
  refine ln_pv (pv_assign rfl) rfl ?_
  refine ln_cd ?_
  refine cd_ret ?_
  exact at_retA rfl rfl (fun w hS => rfl)
end K
end Go.Proofs.YtmknncmdbmnmgabGreat
