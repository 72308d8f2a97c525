import Derived.Test.YtekafeogilbjmaaGreatDoorQ0
set_option linter.unusedVariables false
set_option linter.unusedSimpArgs false
namespace Go.Proofs.YtekafeogilbjmaaGreatDoor
namespace K
open Go Go.Lib
def F_sElectLeadersRequestTopic : List Fld := [.mk 8 0 (-1) (-1) (-1) 0 0 [], .mk 11 0 (-1) (-1) (-1) 0 3 []]
theorem sch_F_sElectLeadersRequestTopic (t : Vw) : CA Tryz.prog 67 [] t fun u r => ∃ lc, RS u 8 r F_sElectLeadersRequestTopic.length lc ∧ RFs u F_sElectLeadersRequestTopic lc := by
  refine ca_enter Tryz.func67 rfl Tryz.ntmps67 rfl ?_
  refine cd_sr ?_
  refine ln_pv (pv_assign rfl) rfl ?_
  refine ln_cd ?_
  refine cd_sr ?_
  refine ln_pv (pv_struct [(0, 1), (1, 1), (2, 1), (3, 1), (4, 1), (5, 1), (6, 1), (7, 1)] (l := [_, _, _, _, _, _, _, _]) rfl Tryz.underlying51 tispec_Field (by kernel_rfl) rfl rfl) rfl ?_
  refine ln_pv (pv_struct [(0, 1), (1, 1), (2, 1), (3, 1), (4, 1), (5, 1), (6, 1), (7, 1)] (l := [_, _, _, _, _, _, _, _]) rfl Tryz.underlying51 tispec_Field (by kernel_rfl) rfl rfl) rfl ?_
  refine ln_lit (vs := [_, _]) Tryz.underlying29 tispec_Field rfl (by decide) rfl rfl rfl rfl rfl rfl (fun b1 => ?_)
  refine ln_pv (pv_assign rfl) rfl ?_
  refine ln_cd ?_
  refine cd_ret ?_
  refine at_retA rfl rfl (fun w hS => ?_)
  exact ⟨_, obj_rs hS (i := 0) (m := 2) (sz := 8) rfl rfl (by simp [flat, Value.cells]), (RFs.leaf (RFs.leaf rfl))⟩

def F_ElectLeadersRequest : List Fld := [.mk 1 1 (-1) (-1) (-1) 0 0 [], .mk 11 0 (-1) 0 (-1) 0 10 F_sElectLeadersRequestTopic, .mk 3 0 (-1) (-1) (-1) 60000 0 []]
theorem sch_F_ElectLeadersRequest (t : Vw) : CA Tryz.prog 23 [] t fun u r => ∃ sv lc, r = .agg #[sv, .int .i64 (2)] ∧ RS u 8 sv F_ElectLeadersRequest.length lc ∧ RFs u F_ElectLeadersRequest lc := by
  refine ca_enter Tryz.func23 rfl Tryz.ntmps23 rfl ?_
  refine cd_sr ?_
  refine ln_alloc tispec_Message rfl rfl (fun b1 => ?_)
  refine ln_cd ?_
  refine cd_sr ?_
  refine ln_pv (pv_struct [(0, 1), (1, 1), (2, 1), (3, 1), (4, 1), (5, 1), (6, 1), (7, 1)] (l := [_, _, _, _, _, _, _, _]) rfl Tryz.underlying51 tispec_Field (by kernel_rfl) rfl rfl) rfl ?_
  refine ln_callA en_67 rfl (fun u hu => sch_F_sElectLeadersRequestTopic u) rfl (fun u1 v1 ht1 hR1 => ?_)
  obtain ⟨lc1, hV1, hF1⟩ := hR1
  refine ln_pv (pv_struct [(0, 1), (1, 1), (2, 1), (3, 1), (4, 1), (5, 1), (6, 1), (7, 1)] (l := [_, _, _, _, _, _, _, _]) rfl Tryz.underlying51 tispec_Field (by kernel_rfl) rfl (by simp [okL, Nat.ble_eq, Value.cells, (RS.one hV1)])) rfl ?_
  refine ln_pv (pv_struct [(0, 1), (1, 1), (2, 1), (3, 1), (4, 1), (5, 1), (6, 1), (7, 1)] (l := [_, _, _, _, _, _, _, _]) rfl Tryz.underlying51 tispec_Field (by kernel_rfl) rfl rfl) rfl ?_
  refine ln_lit (vs := [_, _, _]) Tryz.underlying29 tispec_Field rfl (by decide) rfl rfl rfl rfl rfl rfl (fun b2 => ?_)
  refine ln_pv (pv_struct [(0, 1), (1, 1)] (l := [_, _]) rfl Tryz.underlying31 tispec_Message (by kernel_rfl) rfl rfl) rfl ?_
  refine ln_storeW (i := 1) rfl rfl rfl rfl (tispec_Message).size rfl (by simp []) ?_
  refine ln_cd ?_
  refine cd_ret ?_
  refine at_retC (i := 1) rfl rfl rfl Tryz.underlying31 rfl tispec_Message.size rfl (fun w hS => ?_)
  exact ⟨_, _, rfl, obj_rs hS (i := 0) (m := 3) (sz := 8) rfl rfl (by simp [flat, Value.cells, RS.one hV1]), (RFs.leaf (RFs.part (RS.mv hV1 hS.trFin) (RFs.mv hF1 hS.trFin) (RFs.leaf rfl)))⟩
theorem ok_F_ElectLeadersRequest : okFs F_ElectLeadersRequest = true ∧ ofOks F_ElectLeadersRequest = true ∧ F_ElectLeadersRequest.length < 1000000 := by decide
theorem max_ver_ElectLeadersRequest (t : Vw) (p : Value) : CS Tryz.prog 66 [p] t (.int .i16 2) := by
  refine CA.cs ?_
  refine ca_enter Tryz.func66 rfl Tryz.ntmps66 rfl ?_
  refine cd_sr ?_
  refine ln_pv (pv_assign rfl) rfl ?_
  refine ln_cd ?_
  refine cd_sr ?_
  refine ln_pv (pv_assign rfl) rfl ?_
  refine ln_cd ?_
  refine cd_ret ?_
  exact at_retA rfl rfl (fun w hS => rfl)
theorem dflt_ElectLeadersRequest (t : Vw) (b : Nat) (hok : (.obj b (.cells ([.int .i16 0, .int .i8 0, .slice none 0 0, .int .i32 0, .map none] : List Value).toArray 125) : Ent).ok t.w) (hav : ∀ q ∈ (.obj b (.cells ([.int .i16 0, .int .i8 0, .slice none 0 0, .int .i32 0, .map none] : List Value).toArray 125) : Ent).blk, t.av q) : CT Tryz.prog 136 [.pointer (some ⟨b, 0, none⟩)] t (.obj b (.cells ([.int .i16 0, .int .i8 0, .slice none 0 0, .int .i32 0, .map none] : List Value).toArray 125) : Ent) fun u r e' => ∃ M : List Value, e' = .obj b (.cells M.toArray 125) := by
  refine ct_enter Tryz.func136 rfl Tryz.ntmps136 rfl hok hav (by simp [Ent.blk]) ?_
  refine cd_region ?_
  refine ln_pv (pv_move rfl) rfl ?_
  refine ln_pv (pv_nilCheck rfl) rfl ?_
  refine ln_pv (pv_fieldAddr (off := 3) (r := 3) Tryz.underlying125 rfl (tiint32).size rfl rfl rfl) rfl ?_
  refine ln_store1 (i := 0) rfl rfl rfl rfl (tiint32).size rfl ?_
  refine ln_nil ?_
  exact at_retT0 (i := 0) rfl rfl (fun w hS => ⟨_, rfl⟩)
theorem newptr_ElectLeadersRequest (t : Vw) : CA Tryz.prog 65 [] t fun u r => True := by
  refine ca_enter Tryz.func65 rfl Tryz.ntmps65 rfl ?_
  refine cd_sr ?_
  refine ln_pv (pv_assign rfl) rfl ?_
  refine ln_cd ?_
  refine cd_sr ?_
  refine ln_alloc tipub_kmsg_ElectLeadersRequest rfl rfl (fun b1 => ?_)
  refine ln_cd ?_
  refine cd_sr ?_
  refine ln_callT (i := 0) en_136 rfl rfl (fun u hu hok hav => dflt_ElectLeadersRequest u _ hok hav) rfl ?_
  rintro u1 v1 _ ht1 ⟨_, ⟨M1, rfl⟩, _⟩
  refine ln_cd ?_
  refine cd_sr ?_
  refine ln_pv (pv_assign rfl) rfl ?_
  refine ln_cd ?_
  refine cd_ret ?_
  exact at_retA rfl rfl (fun w hS => trivial)
theorem max_ElectLeadersRequest (t : Vw) : CS Tryz.prog 22 [] t (.int .i64 2) := by
  refine CA.cs ?_
  refine ca_enter Tryz.func22 rfl Tryz.ntmps22 rfl ?_
  refine cd_sr ?_
  refine ln_pv (pv_assign rfl) rfl ?_
  refine ln_cd ?_
  refine cd_sr ?_
  refine ln_callA en_65 rfl (fun u hu => newptr_ElectLeadersRequest u) rfl (fun u1 v1 ht1 hR1 => ?_)
  refine ln_callS en_66 rfl (fun u hu => max_ver_ElectLeadersRequest u _) rfl ?_
  refine ln_pv (pv_conv Tryz.underlying46 Tryz.underlying3 rfl) rfl ?_
  refine ln_pv (pv_assign rfl) rfl ?_
  refine ln_cd ?_
  refine cd_ret ?_
  exact at_retA rfl rfl (fun w hS => rfl)
end K
end Go.Proofs.YtekafeogilbjmaaGreatDoor
