import Derived.Test.YtkcdocdldebeoaaGreatDoorRQ0
set_option linter.unusedVariables false
set_option linter.unusedSimpArgs false
namespace Go.Proofs.YtkcdocdldebeoaaGreatDoorR
namespace K
open Go Go.Lib
def F_sAlterUserSCRAMCredentialsResponseResult : List Fld := [.mk 8 0 (-1) (-1) (-1) 0 0 [], .mk 2 0 (-1) (-1) (-1) 0 0 [], .mk 8 0 (-1) 0 (-1) 0 0 []]
theorem sch_F_sAlterUserSCRAMCredentialsResponseResult (t : Vw) : CA Tryz.prog 60 [] t fun u r => ∃ lc, RS u 8 r F_sAlterUserSCRAMCredentialsResponseResult.length lc ∧ RFs u F_sAlterUserSCRAMCredentialsResponseResult lc := by
  refine ca_enter Tryz.func60 rfl Tryz.ntmps60 rfl ?_
  refine cd_sr ?_
  refine ln_pv (pv_assign rfl) rfl ?_
  refine ln_cd ?_
  refine cd_sr ?_
  refine ln_pv (pv_struct [(0, 1), (1, 1), (2, 1), (3, 1), (4, 1), (5, 1), (6, 1), (7, 1)] (l := [_, _, _, _, _, _, _, _]) rfl Tryz.underlying54 tispec_Field (by kernel_rfl) rfl rfl) rfl ?_
  refine ln_pv (pv_struct [(0, 1), (1, 1), (2, 1), (3, 1), (4, 1), (5, 1), (6, 1), (7, 1)] (l := [_, _, _, _, _, _, _, _]) rfl Tryz.underlying54 tispec_Field (by kernel_rfl) rfl rfl) rfl ?_
  refine ln_pv (pv_struct [(0, 1), (1, 1), (2, 1), (3, 1), (4, 1), (5, 1), (6, 1), (7, 1)] (l := [_, _, _, _, _, _, _, _]) rfl Tryz.underlying54 tispec_Field (by kernel_rfl) rfl rfl) rfl ?_
  refine ln_lit (vs := [_, _, _]) Tryz.underlying29 tispec_Field rfl (by decide) rfl rfl rfl rfl rfl rfl (fun b1 => ?_)
  refine ln_pv (pv_assign rfl) rfl ?_
  refine ln_cd ?_
  refine cd_ret ?_
  refine at_retA rfl rfl (fun w hS => ?_)
  exact ⟨_, obj_rs hS (i := 0) (m := 3) (sz := 8) rfl rfl (by simp [flat, Value.cells]), (RFs.leaf (RFs.leaf (RFs.leaf rfl)))⟩

def F_AlterUserSCRAMCredentialsResponse : List Fld := [.mk 3 0 (-1) (-1) (-1) 0 0 [], .mk 11 0 (-1) (-1) (-1) 0 10 F_sAlterUserSCRAMCredentialsResponseResult]
theorem sch_F_AlterUserSCRAMCredentialsResponse (t : Vw) : CA Tryz.prog 24 [] t fun u r => ∃ sv lc, r = .agg #[sv, .int .i64 (0)] ∧ RS u 8 sv F_AlterUserSCRAMCredentialsResponse.length lc ∧ RFs u F_AlterUserSCRAMCredentialsResponse lc := by
  refine ca_enter Tryz.func24 rfl Tryz.ntmps24 rfl ?_
  refine cd_sr ?_
  refine ln_alloc tispec_Message rfl rfl (fun b1 => ?_)
  refine ln_cd ?_
  refine cd_sr ?_
  refine ln_pv (pv_struct [(0, 1), (1, 1), (2, 1), (3, 1), (4, 1), (5, 1), (6, 1), (7, 1)] (l := [_, _, _, _, _, _, _, _]) rfl Tryz.underlying54 tispec_Field (by kernel_rfl) rfl rfl) rfl ?_
  refine ln_callA en_60 rfl (fun u hu => sch_F_sAlterUserSCRAMCredentialsResponseResult u) rfl (fun u1 v1 ht1 hR1 => ?_)
  obtain ⟨lc1, hV1, hF1⟩ := hR1
  refine ln_pv (pv_struct [(0, 1), (1, 1), (2, 1), (3, 1), (4, 1), (5, 1), (6, 1), (7, 1)] (l := [_, _, _, _, _, _, _, _]) rfl Tryz.underlying54 tispec_Field (by kernel_rfl) rfl (by simp [okL, Nat.ble_eq, Value.cells, (RS.one hV1)])) rfl ?_
  refine ln_lit (vs := [_, _]) Tryz.underlying29 tispec_Field rfl (by decide) rfl rfl rfl rfl rfl rfl (fun b2 => ?_)
  refine ln_pv (pv_struct [(0, 1), (1, 1)] (l := [_, _]) rfl Tryz.underlying31 tispec_Message (by kernel_rfl) rfl rfl) rfl ?_
  refine ln_storeW (i := 1) rfl rfl rfl rfl (tispec_Message).size rfl (by simp []) ?_
  refine ln_cd ?_
  refine cd_ret ?_
  refine at_retC (i := 1) rfl rfl rfl Tryz.underlying31 rfl tispec_Message.size rfl (fun w hS => ?_)
  exact ⟨_, _, rfl, obj_rs hS (i := 0) (m := 2) (sz := 8) rfl rfl (by simp [flat, Value.cells, RS.one hV1]), (RFs.leaf (RFs.part (RS.mv hV1 hS.trFin) (RFs.mv hF1 hS.trFin) rfl))⟩
theorem ok_F_AlterUserSCRAMCredentialsResponse : okFs F_AlterUserSCRAMCredentialsResponse = true ∧ ofOks F_AlterUserSCRAMCredentialsResponse = true ∧ F_AlterUserSCRAMCredentialsResponse.length < 1000000 := by decide
theorem max_ver_AlterUserSCRAMCredentialsResponse (t : Vw) (p : Value) : CS Tryz.prog 59 [p] t (.int .i16 0) := by
  refine CA.cs ?_
  refine ca_enter Tryz.func59 rfl Tryz.ntmps59 rfl ?_
  refine cd_sr ?_
  refine ln_pv (pv_assign rfl) rfl ?_
  refine ln_cd ?_
  refine cd_sr ?_
  refine ln_pv (pv_assign rfl) rfl ?_
  refine ln_cd ?_
  refine cd_ret ?_
  exact at_retA rfl rfl (fun w hS => rfl)
theorem dflt_AlterUserSCRAMCredentialsResponse (t : Vw) (p : Value) : CS Tryz.prog 122 [p] t (.tuple #[]) := by
  refine CA.cs ?_
  refine ca_enter Tryz.func122 rfl Tryz.ntmps122 rfl ?_
  refine cd_skip ?_
  exact at_retA0 rfl (fun w hS => rfl)
theorem newptr_AlterUserSCRAMCredentialsResponse (t : Vw) : CA Tryz.prog 58 [] t fun u r => True := by
  refine ca_enter Tryz.func58 rfl Tryz.ntmps58 rfl ?_
  refine cd_sr ?_
  refine ln_pv (pv_assign rfl) rfl ?_
  refine ln_cd ?_
  refine cd_sr ?_
  refine ln_alloc tipub_kmsg_AlterUserSCRAMCredentialsResponse rfl rfl (fun b1 => ?_)
  refine ln_cd ?_
  refine cd_sr ?_
  refine ln_callS en_122 rfl (fun u hu => dflt_AlterUserSCRAMCredentialsResponse u _) rfl ?_
  refine ln_cd ?_
  refine cd_sr ?_
  refine ln_pv (pv_assign rfl) rfl ?_
  refine ln_cd ?_
  refine cd_ret ?_
  exact at_retA rfl rfl (fun w hS => trivial)
theorem max_AlterUserSCRAMCredentialsResponse (t : Vw) : CS Tryz.prog 23 [] t (.int .i64 0) := by
  refine CA.cs ?_
  refine ca_enter Tryz.func23 rfl Tryz.ntmps23 rfl ?_
  refine cd_sr ?_
  refine ln_pv (pv_assign rfl) rfl ?_
  refine ln_cd ?_
  refine cd_sr ?_
  refine ln_callA en_58 rfl (fun u hu => newptr_AlterUserSCRAMCredentialsResponse u) rfl (fun u1 v1 ht1 hR1 => ?_)
  refine ln_callS en_59 rfl (fun u hu => max_ver_AlterUserSCRAMCredentialsResponse u _) rfl ?_
  refine ln_pv (pv_conv Tryz.underlying49 Tryz.underlying3 rfl) rfl ?_
  refine ln_pv (pv_assign rfl) rfl ?_
  refine ln_cd ?_
  refine cd_ret ?_
  exact at_retA rfl rfl (fun w hS => rfl)
end K
end Go.Proofs.YtkcdocdldebeoaaGreatDoorR
