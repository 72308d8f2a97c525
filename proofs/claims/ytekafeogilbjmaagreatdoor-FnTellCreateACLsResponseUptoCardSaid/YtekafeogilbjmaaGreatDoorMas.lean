import Derived.Test.YtekafeogilbjmaaGreatDoorQ0
set_option linter.unusedVariables false
set_option linter.unusedSimpArgs false
namespace Go.Proofs.YtekafeogilbjmaaGreatDoor
namespace K
open Go Go.Lib
def F_sCreateACLsResponseResult : List Fld := [.mk 2 0 (-1) (-1) (-1) 0 0 [], .mk 8 0 (-1) 0 (-1) 0 0 []]
theorem sch_F_sCreateACLsResponseResult (t : Vw) : CA Tryz.prog 52 [] t fun u r => ∃ lc, RS u 8 r F_sCreateACLsResponseResult.length lc ∧ RFs u F_sCreateACLsResponseResult lc := by
  refine ca_enter Tryz.func52 rfl Tryz.ntmps52 rfl ?_
  refine cd_sr ?_
  refine ln_pv (pv_assign rfl) rfl ?_
  refine ln_cd ?_
  refine cd_sr ?_
  refine ln_pv (pv_struct [(0, 1), (1, 1), (2, 1), (3, 1), (4, 1), (5, 1), (6, 1), (7, 1)] (l := [_, _, _, _, _, _, _, _]) rfl Tryz.underlying51 tispec_Field (by kernel_rfl) rfl rfl) rfl ?_
  refine ln_pv (pv_struct [(0, 1), (1, 1), (2, 1), (3, 1), (4, 1), (5, 1), (6, 1), (7, 1)] (l := [_, _, _, _, _, _, _, _]) rfl Tryz.underlying51 tispec_Field (by kernel_rfl) rfl rfl) rfl ?_
  refine ln_lit (vs := [_, _]) Tryz.underlying29 tispec_Field rfl (by decide) rfl rfl rfl rfl rfl rfl (fun b1 => ?_)
  refine ln_pv (pv_assign rfl) rfl ?_
  refine ln_cd ?_
  refine cd_ret ?_
  refine at_retA rfl rfl (fun w hS => ?_)
  exact ⟨_, obj_rs hS (i := 0) (m := 2) (sz := 8) rfl rfl (by simp [flat, Value.cells]), (RFs.leaf (RFs.leaf rfl))⟩

def F_CreateACLsResponse : List Fld := [.mk 3 0 (-1) (-1) (-1) 0 0 [], .mk 11 0 (-1) (-1) (-1) 0 10 F_sCreateACLsResponseResult]
theorem sch_F_CreateACLsResponse (t : Vw) : CA Tryz.prog 15 [] t fun u r => ∃ sv lc, r = .agg #[sv, .int .i64 (2)] ∧ RS u 8 sv F_CreateACLsResponse.length lc ∧ RFs u F_CreateACLsResponse lc := by
  refine ca_enter Tryz.func15 rfl Tryz.ntmps15 rfl ?_
  refine cd_sr ?_
  refine ln_alloc tispec_Message rfl rfl (fun b1 => ?_)
  refine ln_cd ?_
  refine cd_sr ?_
  refine ln_pv (pv_struct [(0, 1), (1, 1), (2, 1), (3, 1), (4, 1), (5, 1), (6, 1), (7, 1)] (l := [_, _, _, _, _, _, _, _]) rfl Tryz.underlying51 tispec_Field (by kernel_rfl) rfl rfl) rfl ?_
  refine ln_callA en_52 rfl (fun u hu => sch_F_sCreateACLsResponseResult u) rfl (fun u1 v1 ht1 hR1 => ?_)
  obtain ⟨lc1, hV1, hF1⟩ := hR1
  refine ln_pv (pv_struct [(0, 1), (1, 1), (2, 1), (3, 1), (4, 1), (5, 1), (6, 1), (7, 1)] (l := [_, _, _, _, _, _, _, _]) rfl Tryz.underlying51 tispec_Field (by kernel_rfl) rfl (by simp [okL, Nat.ble_eq, Value.cells, (RS.one hV1)])) rfl ?_
  refine ln_lit (vs := [_, _]) Tryz.underlying29 tispec_Field rfl (by decide) rfl rfl rfl rfl rfl rfl (fun b2 => ?_)
  refine ln_pv (pv_struct [(0, 1), (1, 1)] (l := [_, _]) rfl Tryz.underlying31 tispec_Message (by kernel_rfl) rfl rfl) rfl ?_
  refine ln_storeW (i := 1) rfl rfl rfl rfl (tispec_Message).size rfl (by simp []) ?_
  refine ln_cd ?_
  refine cd_ret ?_
  refine at_retC (i := 1) rfl rfl rfl Tryz.underlying31 rfl tispec_Message.size rfl (fun w hS => ?_)
  exact ⟨_, _, rfl, obj_rs hS (i := 0) (m := 2) (sz := 8) rfl rfl (by simp [flat, Value.cells, RS.one hV1]), (RFs.leaf (RFs.part (RS.mv hV1 hS.trFin) (RFs.mv hF1 hS.trFin) rfl))⟩
theorem ok_F_CreateACLsResponse : okFs F_CreateACLsResponse = true ∧ ofOks F_CreateACLsResponse = true ∧ F_CreateACLsResponse.length < 1000000 := by decide
theorem max_ver_CreateACLsResponse (t : Vw) (p : Value) : CS Tryz.prog 51 [p] t (.int .i16 3) := by
  refine CA.cs ?_
  refine ca_enter Tryz.func51 rfl Tryz.ntmps51 rfl ?_
  refine cd_sr ?_
  refine ln_pv (pv_assign rfl) rfl ?_
  refine ln_cd ?_
  refine cd_sr ?_
  refine ln_pv (pv_assign rfl) rfl ?_
  refine ln_cd ?_
  refine cd_ret ?_
  exact at_retA rfl rfl (fun w hS => rfl)
theorem dflt_CreateACLsResponse (t : Vw) (p : Value) : CS Tryz.prog 122 [p] t (.tuple #[]) := by
  refine CA.cs ?_
  refine ca_enter Tryz.func122 rfl Tryz.ntmps122 rfl ?_
  refine cd_skip ?_
  exact at_retA0 rfl (fun w hS => rfl)
theorem newptr_CreateACLsResponse (t : Vw) : CA Tryz.prog 50 [] t fun u r => True := by
  refine ca_enter Tryz.func50 rfl Tryz.ntmps50 rfl ?_
  refine cd_sr ?_
  refine ln_pv (pv_assign rfl) rfl ?_
  refine ln_cd ?_
  refine cd_sr ?_
  refine ln_alloc tipub_kmsg_CreateACLsResponse rfl rfl (fun b1 => ?_)
  refine ln_cd ?_
  refine cd_sr ?_
  refine ln_callS en_122 rfl (fun u hu => dflt_CreateACLsResponse u _) rfl ?_
  refine ln_cd ?_
  refine cd_sr ?_
  refine ln_pv (pv_assign rfl) rfl ?_
  refine ln_cd ?_
  refine cd_ret ?_
  exact at_retA rfl rfl (fun w hS => trivial)
theorem max_CreateACLsResponse (t : Vw) : CS Tryz.prog 14 [] t (.int .i64 3) := by
  refine CA.cs ?_
  refine ca_enter Tryz.func14 rfl Tryz.ntmps14 rfl ?_
  refine cd_sr ?_
  refine ln_pv (pv_assign rfl) rfl ?_
  refine ln_cd ?_
  refine cd_sr ?_
  refine ln_callA en_50 rfl (fun u hu => newptr_CreateACLsResponse u) rfl (fun u1 v1 ht1 hR1 => ?_)
  refine ln_callS en_51 rfl (fun u hu => max_ver_CreateACLsResponse u _) rfl ?_
  refine ln_pv (pv_conv Tryz.underlying46 Tryz.underlying3 rfl) rfl ?_
  refine ln_pv (pv_assign rfl) rfl ?_
  refine ln_cd ?_
  refine cd_ret ?_
  exact at_retA rfl rfl (fun w hS => rfl)
end K
end Go.Proofs.YtekafeogilbjmaaGreatDoor
