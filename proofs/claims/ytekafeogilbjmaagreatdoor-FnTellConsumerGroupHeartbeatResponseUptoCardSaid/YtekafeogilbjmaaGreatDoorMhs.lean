import Derived.Test.YtekafeogilbjmaaGreatDoorQ0
set_option linter.unusedVariables false
set_option linter.unusedSimpArgs false
namespace Go.Proofs.YtekafeogilbjmaaGreatDoor
namespace K
open Go Go.Lib
def F_sConsumerGroupHeartbeatResponseAssignmentTopic : List Fld := [.mk 7 0 (-1) (-1) (-1) 0 0 [], .mk 11 0 (-1) (-1) (-1) 0 3 []]
theorem sch_F_sConsumerGroupHeartbeatResponseAssignmentTopic (t : Vw) : CA Tryz.prog 165 [] t fun u r => ∃ lc, RS u 8 r F_sConsumerGroupHeartbeatResponseAssignmentTopic.length lc ∧ RFs u F_sConsumerGroupHeartbeatResponseAssignmentTopic lc := by
  refine ca_enter Tryz.func165 rfl Tryz.ntmps165 rfl ?_
  refine cd_sr ?_
  refine ln_pv (pv_assign rfl) rfl ?_
  refine ln_cd ?_
  refine cd_sr ?_
  refine ln_pv (pv_struct [(0, 1), (1, 1), (2, 1), (3, 1), (4, 1), (5, 1), (6, 1), (7, 1)] (l := [_, _, _, _, _, _, _, _]) rfl Tryz.underlying51 tispec_Field (by kernel_rfl) rfl rfl) rfl ?_
  refine ln_pv (pv_struct [(0, 1), (1, 1), (2, 1), (3, 1), (4, 1), (5, 1), (6, 1), (7, 1)] (l := [_, _, _, _, _, _, _, _]) rfl Tryz.underlying51 tispec_Field (by kernel_rfl) rfl rfl) rfl ?_
  refine ln_lit (vs := [_, _]) Tryz.underlying29 tispec_Field rfl (by decide) rfl rfl rfl rfl rfl rfl (fun b1 => ?_)
  refine ln_pv (pv_assign rfl) rfl ?_
  refine ln_cd ?_
  refine cd_ret ?_
  refine at_retA rfl rfl (fun w hS => ?_)
  exact ⟨_, obj_rs hS (i := 0) (m := 2) (sz := 8) rfl rfl (by simp [flat, Value.cells]), (RFs.leaf (RFs.leaf rfl))⟩

def F_sConsumerGroupHeartbeatResponseAssignment : List Fld := [.mk 11 0 (-1) (-1) (-1) 0 10 F_sConsumerGroupHeartbeatResponseAssignmentTopic]
theorem sch_F_sConsumerGroupHeartbeatResponseAssignment (t : Vw) : CA Tryz.prog 104 [] t fun u r => ∃ lc, RS u 8 r F_sConsumerGroupHeartbeatResponseAssignment.length lc ∧ RFs u F_sConsumerGroupHeartbeatResponseAssignment lc := by
  refine ca_enter Tryz.func104 rfl Tryz.ntmps104 rfl ?_
  refine cd_sr ?_
  refine ln_pv (pv_assign rfl) rfl ?_
  refine ln_cd ?_
  refine cd_sr ?_
  refine ln_callA en_165 rfl (fun u hu => sch_F_sConsumerGroupHeartbeatResponseAssignmentTopic u) rfl (fun u1 v1 ht1 hR1 => ?_)
  obtain ⟨lc1, hV1, hF1⟩ := hR1
  refine ln_pv (pv_struct [(0, 1), (1, 1), (2, 1), (3, 1), (4, 1), (5, 1), (6, 1), (7, 1)] (l := [_, _, _, _, _, _, _, _]) rfl Tryz.underlying51 tispec_Field (by kernel_rfl) rfl (by simp [okL, Nat.ble_eq, Value.cells, (RS.one hV1)])) rfl ?_
  refine ln_lit (vs := [_]) Tryz.underlying29 tispec_Field rfl (by decide) rfl rfl rfl rfl rfl rfl (fun b1 => ?_)
  refine ln_pv (pv_assign rfl) rfl ?_
  refine ln_cd ?_
  refine cd_ret ?_
  refine at_retA rfl rfl (fun w hS => ?_)
  exact ⟨_, obj_rs hS (i := 0) (m := 1) (sz := 8) rfl rfl (by simp [flat, Value.cells, RS.one hV1]), (RFs.part (RS.mv hV1 hS.trFin) (RFs.mv hF1 hS.trFin) rfl)⟩

def F_ConsumerGroupHeartbeatResponse : List Fld := [.mk 3 0 (-1) (-1) (-1) 0 0 [], .mk 2 0 (-1) (-1) (-1) 0 0 [], .mk 8 0 (-1) 0 (-1) 0 0 [], .mk 8 0 (-1) 0 (-1) 0 0 [], .mk 3 0 (-1) (-1) (-1) 0 0 [], .mk 3 0 (-1) (-1) (-1) 0 0 [], .mk 10 0 (-1) 0 (-1) 0 0 F_sConsumerGroupHeartbeatResponseAssignment]
theorem sch_F_ConsumerGroupHeartbeatResponse (t : Vw) : CA Tryz.prog 41 [] t fun u r => ∃ sv lc, r = .agg #[sv, .int .i64 (0)] ∧ RS u 8 sv F_ConsumerGroupHeartbeatResponse.length lc ∧ RFs u F_ConsumerGroupHeartbeatResponse lc := by
  refine ca_enter Tryz.func41 rfl Tryz.ntmps41 rfl ?_
  refine cd_sr ?_
  refine ln_alloc tispec_Message rfl rfl (fun b1 => ?_)
  refine ln_cd ?_
  refine cd_sr ?_
  refine ln_pv (pv_struct [(0, 1), (1, 1), (2, 1), (3, 1), (4, 1), (5, 1), (6, 1), (7, 1)] (l := [_, _, _, _, _, _, _, _]) rfl Tryz.underlying51 tispec_Field (by kernel_rfl) rfl rfl) rfl ?_
  refine ln_pv (pv_struct [(0, 1), (1, 1), (2, 1), (3, 1), (4, 1), (5, 1), (6, 1), (7, 1)] (l := [_, _, _, _, _, _, _, _]) rfl Tryz.underlying51 tispec_Field (by kernel_rfl) rfl rfl) rfl ?_
  refine ln_pv (pv_struct [(0, 1), (1, 1), (2, 1), (3, 1), (4, 1), (5, 1), (6, 1), (7, 1)] (l := [_, _, _, _, _, _, _, _]) rfl Tryz.underlying51 tispec_Field (by kernel_rfl) rfl rfl) rfl ?_
  refine ln_pv (pv_struct [(0, 1), (1, 1), (2, 1), (3, 1), (4, 1), (5, 1), (6, 1), (7, 1)] (l := [_, _, _, _, _, _, _, _]) rfl Tryz.underlying51 tispec_Field (by kernel_rfl) rfl rfl) rfl ?_
  refine ln_pv (pv_struct [(0, 1), (1, 1), (2, 1), (3, 1), (4, 1), (5, 1), (6, 1), (7, 1)] (l := [_, _, _, _, _, _, _, _]) rfl Tryz.underlying51 tispec_Field (by kernel_rfl) rfl rfl) rfl ?_
  refine ln_pv (pv_struct [(0, 1), (1, 1), (2, 1), (3, 1), (4, 1), (5, 1), (6, 1), (7, 1)] (l := [_, _, _, _, _, _, _, _]) rfl Tryz.underlying51 tispec_Field (by kernel_rfl) rfl rfl) rfl ?_
  refine ln_callA en_104 rfl (fun u hu => sch_F_sConsumerGroupHeartbeatResponseAssignment u) rfl (fun u1 v1 ht1 hR1 => ?_)
  obtain ⟨lc1, hV1, hF1⟩ := hR1
  refine ln_pv (pv_struct [(0, 1), (1, 1), (2, 1), (3, 1), (4, 1), (5, 1), (6, 1), (7, 1)] (l := [_, _, _, _, _, _, _, _]) rfl Tryz.underlying51 tispec_Field (by kernel_rfl) rfl (by simp [okL, Nat.ble_eq, Value.cells, (RS.one hV1)])) rfl ?_
  refine ln_lit (vs := [_, _, _, _, _, _, _]) Tryz.underlying29 tispec_Field rfl (by decide) rfl rfl rfl rfl rfl rfl (fun b2 => ?_)
  refine ln_pv (pv_struct [(0, 1), (1, 1)] (l := [_, _]) rfl Tryz.underlying31 tispec_Message (by kernel_rfl) rfl rfl) rfl ?_
  refine ln_storeW (i := 1) rfl rfl rfl rfl (tispec_Message).size rfl (by simp []) ?_
  refine ln_cd ?_
  refine cd_ret ?_
  refine at_retC (i := 1) rfl rfl rfl Tryz.underlying31 rfl tispec_Message.size rfl (fun w hS => ?_)
  exact ⟨_, _, rfl, obj_rs hS (i := 0) (m := 7) (sz := 8) rfl rfl (by simp [flat, Value.cells, RS.one hV1]), (RFs.leaf (RFs.leaf (RFs.leaf (RFs.leaf (RFs.leaf (RFs.leaf (RFs.part (RS.mv hV1 hS.trFin) (RFs.mv hF1 hS.trFin) rfl)))))))⟩
theorem ok_F_ConsumerGroupHeartbeatResponse : okFs F_ConsumerGroupHeartbeatResponse = true ∧ ofOks F_ConsumerGroupHeartbeatResponse = true ∧ F_ConsumerGroupHeartbeatResponse.length < 1000000 := by decide
theorem max_ver_ConsumerGroupHeartbeatResponse (t : Vw) (p : Value) : CS Tryz.prog 103 [p] t (.int .i16 1) := by
  refine CA.cs ?_
  refine ca_enter Tryz.func103 rfl Tryz.ntmps103 rfl ?_
  refine cd_sr ?_
  refine ln_pv (pv_assign rfl) rfl ?_
  refine ln_cd ?_
  refine cd_sr ?_
  refine ln_pv (pv_assign rfl) rfl ?_
  refine ln_cd ?_
  refine cd_ret ?_
  exact at_retA rfl rfl (fun w hS => rfl)
theorem dflt_ConsumerGroupHeartbeatResponse (t : Vw) (b : Nat) (hok : (.obj b (.cells ([.int .i16 0, .int .i32 0, .int .i16 0, .pointer none, .pointer none, .int .i32 0, .int .i32 0, .pointer none, .map none] : List Value).toArray 176) : Ent).ok t.w) (hav : ∀ q ∈ (.obj b (.cells ([.int .i16 0, .int .i32 0, .int .i16 0, .pointer none, .pointer none, .int .i32 0, .int .i32 0, .pointer none, .map none] : List Value).toArray 176) : Ent).blk, t.av q) : CT Tryz.prog 164 [.pointer (some ⟨b, 0, none⟩)] t (.obj b (.cells ([.int .i16 0, .int .i32 0, .int .i16 0, .pointer none, .pointer none, .int .i32 0, .int .i32 0, .pointer none, .map none] : List Value).toArray 176) : Ent) fun u r e' => ∃ M : List Value, e' = .obj b (.cells M.toArray 176) := by
  refine ct_enter Tryz.func164 rfl Tryz.ntmps164 rfl hok hav (by simp [Ent.blk]) ?_
  refine cd_sr ?_
  refine ln_pv (pv_move rfl) rfl ?_
  refine ln_pv (pv_nilCheck rfl) rfl ?_
  refine ln_pv (pv_fieldAddr (off := 7) (r := 7) Tryz.underlying176 rfl (tiPt_kmsg_ConsumerGroupHeartbeatResponseAssignment).size rfl rfl rfl) rfl ?_
  refine ln_pv (pv_assign rfl) rfl ?_
  refine ln_cd ?_
  refine cd_region ?_
  refine ln_pv (pv_move rfl) rfl ?_
  refine ln_nil ?_
  exact at_retT0 (i := 0) rfl rfl (fun w hS => ⟨_, rfl⟩)
theorem newptr_ConsumerGroupHeartbeatResponse (t : Vw) : CA Tryz.prog 102 [] t fun u r => True := by
  refine ca_enter Tryz.func102 rfl Tryz.ntmps102 rfl ?_
  refine cd_sr ?_
  refine ln_pv (pv_assign rfl) rfl ?_
  refine ln_cd ?_
  refine cd_sr ?_
  refine ln_alloc tipub_kmsg_ConsumerGroupHeartbeatResponse rfl rfl (fun b1 => ?_)
  refine ln_cd ?_
  refine cd_sr ?_
  refine ln_callT (i := 0) en_164 rfl rfl (fun u hu hok hav => dflt_ConsumerGroupHeartbeatResponse u _ hok hav) rfl ?_
  rintro u1 v1 _ ht1 ⟨_, ⟨M1, rfl⟩, _⟩
  refine ln_cd ?_
  refine cd_sr ?_
  refine ln_pv (pv_assign rfl) rfl ?_
  refine ln_cd ?_
  refine cd_ret ?_
  exact at_retA rfl rfl (fun w hS => trivial)
theorem max_ConsumerGroupHeartbeatResponse (t : Vw) : CS Tryz.prog 40 [] t (.int .i64 1) := by
  refine CA.cs ?_
  refine ca_enter Tryz.func40 rfl Tryz.ntmps40 rfl ?_
  refine cd_sr ?_
  refine ln_pv (pv_assign rfl) rfl ?_
  refine ln_cd ?_
  refine cd_sr ?_
  refine ln_callA en_102 rfl (fun u hu => newptr_ConsumerGroupHeartbeatResponse u) rfl (fun u1 v1 ht1 hR1 => ?_)
  refine ln_callS en_103 rfl (fun u hu => max_ver_ConsumerGroupHeartbeatResponse u _) rfl ?_
  refine ln_pv (pv_conv Tryz.underlying46 Tryz.underlying3 rfl) rfl ?_
  refine ln_pv (pv_assign rfl) rfl ?_
  refine ln_cd ?_
  refine cd_ret ?_
  exact at_retA rfl rfl (fun w hS => rfl)
end K
end Go.Proofs.YtekafeogilbjmaaGreatDoor
