import Derived.Test.YtekafeogilbjmaaGreatDoorQ0
set_option linter.unusedVariables false
set_option linter.unusedSimpArgs false
namespace Go.Proofs.YtekafeogilbjmaaGreatDoor
namespace K
open Go Go.Lib
def F_sControllerRegistrationRequestListener : List Fld := [.mk 8 0 (-1) (-1) (-1) 0 0 [], .mk 8 0 (-1) (-1) (-1) 0 0 [], .mk 5 0 (-1) (-1) (-1) 0 0 [], .mk 2 0 (-1) (-1) (-1) 0 0 []]
theorem sch_F_sControllerRegistrationRequestListener (t : Vw) : CA Tryz.prog 110 [] t fun u r => ∃ lc, RS u 8 r F_sControllerRegistrationRequestListener.length lc ∧ RFs u F_sControllerRegistrationRequestListener lc := by
  refine ca_enter Tryz.func110 rfl Tryz.ntmps110 rfl ?_
  refine cd_sr ?_
  refine ln_pv (pv_assign rfl) rfl ?_
  refine ln_cd ?_
  refine cd_sr ?_
  refine ln_pv (pv_struct [(0, 1), (1, 1), (2, 1), (3, 1), (4, 1), (5, 1), (6, 1), (7, 1)] (l := [_, _, _, _, _, _, _, _]) rfl Tryz.underlying51 tispec_Field (by kernel_rfl) rfl rfl) rfl ?_
  refine ln_pv (pv_struct [(0, 1), (1, 1), (2, 1), (3, 1), (4, 1), (5, 1), (6, 1), (7, 1)] (l := [_, _, _, _, _, _, _, _]) rfl Tryz.underlying51 tispec_Field (by kernel_rfl) rfl rfl) rfl ?_
  refine ln_pv (pv_struct [(0, 1), (1, 1), (2, 1), (3, 1), (4, 1), (5, 1), (6, 1), (7, 1)] (l := [_, _, _, _, _, _, _, _]) rfl Tryz.underlying51 tispec_Field (by kernel_rfl) rfl rfl) rfl ?_
  refine ln_pv (pv_struct [(0, 1), (1, 1), (2, 1), (3, 1), (4, 1), (5, 1), (6, 1), (7, 1)] (l := [_, _, _, _, _, _, _, _]) rfl Tryz.underlying51 tispec_Field (by kernel_rfl) rfl rfl) rfl ?_
  refine ln_lit (vs := [_, _, _, _]) Tryz.underlying29 tispec_Field rfl (by decide) rfl rfl rfl rfl rfl rfl (fun b1 => ?_)
  refine ln_pv (pv_assign rfl) rfl ?_
  refine ln_cd ?_
  refine cd_ret ?_
  refine at_retA rfl rfl (fun w hS => ?_)
  exact ⟨_, obj_rs hS (i := 0) (m := 4) (sz := 8) rfl rfl (by simp [flat, Value.cells]), (RFs.leaf (RFs.leaf (RFs.leaf (RFs.leaf rfl))))⟩

def F_sControllerRegistrationRequestFeature : List Fld := [.mk 8 0 (-1) (-1) (-1) 0 0 [], .mk 2 0 (-1) (-1) (-1) 0 0 [], .mk 2 0 (-1) (-1) (-1) 0 0 []]
theorem sch_F_sControllerRegistrationRequestFeature (t : Vw) : CA Tryz.prog 111 [] t fun u r => ∃ lc, RS u 8 r F_sControllerRegistrationRequestFeature.length lc ∧ RFs u F_sControllerRegistrationRequestFeature lc := by
  refine ca_enter Tryz.func111 rfl Tryz.ntmps111 rfl ?_
  refine cd_sr ?_
  refine ln_pv (pv_assign rfl) rfl ?_
  refine ln_cd ?_
  refine cd_sr ?_
  refine ln_pv (pv_struct [(0, 1), (1, 1), (2, 1), (3, 1), (4, 1), (5, 1), (6, 1), (7, 1)] (l := [_, _, _, _, _, _, _, _]) rfl Tryz.underlying51 tispec_Field (by kernel_rfl) rfl rfl) rfl ?_
  refine ln_pv (pv_struct [(0, 1), (1, 1), (2, 1), (3, 1), (4, 1), (5, 1), (6, 1), (7, 1)] (l := [_, _, _, _, _, _, _, _]) rfl Tryz.underlying51 tispec_Field (by kernel_rfl) rfl rfl) rfl ?_
  refine ln_pv (pv_struct [(0, 1), (1, 1), (2, 1), (3, 1), (4, 1), (5, 1), (6, 1), (7, 1)] (l := [_, _, _, _, _, _, _, _]) rfl Tryz.underlying51 tispec_Field (by kernel_rfl) rfl rfl) rfl ?_
  refine ln_lit (vs := [_, _, _]) Tryz.underlying29 tispec_Field rfl (by decide) rfl rfl rfl rfl rfl rfl (fun b1 => ?_)
  refine ln_pv (pv_assign rfl) rfl ?_
  refine ln_cd ?_
  refine cd_ret ?_
  refine at_retA rfl rfl (fun w hS => ?_)
  exact ⟨_, obj_rs hS (i := 0) (m := 3) (sz := 8) rfl rfl (by simp [flat, Value.cells]), (RFs.leaf (RFs.leaf (RFs.leaf rfl)))⟩

def F_ControllerRegistrationRequest : List Fld := [.mk 3 0 (-1) (-1) (-1) 0 0 [], .mk 7 0 (-1) (-1) (-1) 0 0 [], .mk 0 0 (-1) (-1) (-1) 0 0 [], .mk 11 0 (-1) (-1) (-1) 0 10 F_sControllerRegistrationRequestListener, .mk 11 0 (-1) (-1) (-1) 0 10 F_sControllerRegistrationRequestFeature]
theorem sch_F_ControllerRegistrationRequest (t : Vw) : CA Tryz.prog 44 [] t fun u r => ∃ sv lc, r = .agg #[sv, .int .i64 (0)] ∧ RS u 8 sv F_ControllerRegistrationRequest.length lc ∧ RFs u F_ControllerRegistrationRequest lc := by
  refine ca_enter Tryz.func44 rfl Tryz.ntmps44 rfl ?_
  refine cd_sr ?_
  refine ln_alloc tispec_Message rfl rfl (fun b1 => ?_)
  refine ln_cd ?_
  refine cd_sr ?_
  refine ln_pv (pv_struct [(0, 1), (1, 1), (2, 1), (3, 1), (4, 1), (5, 1), (6, 1), (7, 1)] (l := [_, _, _, _, _, _, _, _]) rfl Tryz.underlying51 tispec_Field (by kernel_rfl) rfl rfl) rfl ?_
  refine ln_pv (pv_struct [(0, 1), (1, 1), (2, 1), (3, 1), (4, 1), (5, 1), (6, 1), (7, 1)] (l := [_, _, _, _, _, _, _, _]) rfl Tryz.underlying51 tispec_Field (by kernel_rfl) rfl rfl) rfl ?_
  refine ln_pv (pv_struct [(0, 1), (1, 1), (2, 1), (3, 1), (4, 1), (5, 1), (6, 1), (7, 1)] (l := [_, _, _, _, _, _, _, _]) rfl Tryz.underlying51 tispec_Field (by kernel_rfl) rfl rfl) rfl ?_
  refine ln_callA en_110 rfl (fun u hu => sch_F_sControllerRegistrationRequestListener u) rfl (fun u1 v1 ht1 hR1 => ?_)
  obtain ⟨lc1, hV1, hF1⟩ := hR1
  refine ln_pv (pv_struct [(0, 1), (1, 1), (2, 1), (3, 1), (4, 1), (5, 1), (6, 1), (7, 1)] (l := [_, _, _, _, _, _, _, _]) rfl Tryz.underlying51 tispec_Field (by kernel_rfl) rfl (by simp [okL, Nat.ble_eq, Value.cells, (RS.one hV1)])) rfl ?_
  refine ln_callA en_111 rfl (fun u hu => sch_F_sControllerRegistrationRequestFeature u) rfl (fun u2 v2 ht2 hR2 => ?_)
  have hV1 := hV1.mv ht2
  have hF1 := hF1.mv ht2
  obtain ⟨lc2, hV2, hF2⟩ := hR2
  refine ln_pv (pv_struct [(0, 1), (1, 1), (2, 1), (3, 1), (4, 1), (5, 1), (6, 1), (7, 1)] (l := [_, _, _, _, _, _, _, _]) rfl Tryz.underlying51 tispec_Field (by kernel_rfl) rfl (by simp [okL, Nat.ble_eq, Value.cells, (RS.one hV2)])) rfl ?_
  refine ln_lit (vs := [_, _, _, _, _]) Tryz.underlying29 tispec_Field rfl (by decide) rfl rfl rfl rfl rfl rfl (fun b2 => ?_)
  refine ln_pv (pv_struct [(0, 1), (1, 1)] (l := [_, _]) rfl Tryz.underlying31 tispec_Message (by kernel_rfl) rfl rfl) rfl ?_
  refine ln_storeW (i := 1) rfl rfl rfl rfl (tispec_Message).size rfl (by simp []) ?_
  refine ln_cd ?_
  refine cd_ret ?_
  refine at_retC (i := 1) rfl rfl rfl Tryz.underlying31 rfl tispec_Message.size rfl (fun w hS => ?_)
  exact ⟨_, _, rfl, obj_rs hS (i := 0) (m := 5) (sz := 8) rfl rfl (by simp [flat, Value.cells, RS.one hV1, RS.one hV2]), (RFs.leaf (RFs.leaf (RFs.leaf (RFs.part (RS.mv hV1 hS.trFin) (RFs.mv hF1 hS.trFin) (RFs.part (RS.mv hV2 hS.trFin) (RFs.mv hF2 hS.trFin) rfl)))))⟩
theorem ok_F_ControllerRegistrationRequest : okFs F_ControllerRegistrationRequest = true ∧ ofOks F_ControllerRegistrationRequest = true ∧ F_ControllerRegistrationRequest.length < 1000000 := by decide
theorem max_ver_ControllerRegistrationRequest (t : Vw) (p : Value) : CS Tryz.prog 109 [p] t (.int .i16 0) := by
  refine CA.cs ?_
  refine ca_enter Tryz.func109 rfl Tryz.ntmps109 rfl ?_
  refine cd_sr ?_
  refine ln_pv (pv_assign rfl) rfl ?_
  refine ln_cd ?_
  refine cd_sr ?_
  refine ln_pv (pv_assign rfl) rfl ?_
  refine ln_cd ?_
  refine cd_ret ?_
  exact at_retA rfl rfl (fun w hS => rfl)
theorem dflt_ControllerRegistrationRequest (t : Vw) (p : Value) : CS Tryz.prog 169 [p] t (.tuple #[]) := by
  refine CA.cs ?_
  refine ca_enter Tryz.func169 rfl Tryz.ntmps169 rfl ?_
  refine cd_skip ?_
  exact at_retA0 rfl (fun w hS => rfl)
theorem newptr_ControllerRegistrationRequest (t : Vw) : CA Tryz.prog 108 [] t fun u r => True := by
  refine ca_enter Tryz.func108 rfl Tryz.ntmps108 rfl ?_
  refine cd_sr ?_
  refine ln_pv (pv_assign rfl) rfl ?_
  refine ln_cd ?_
  refine cd_sr ?_
  refine ln_alloc tipub_kmsg_ControllerRegistrationRequest rfl rfl (fun b1 => ?_)
  refine ln_cd ?_
  refine cd_sr ?_
  refine ln_callS en_169 rfl (fun u hu => dflt_ControllerRegistrationRequest u _) rfl ?_
  refine ln_cd ?_
  refine cd_sr ?_
  refine ln_pv (pv_assign rfl) rfl ?_
  refine ln_cd ?_
  refine cd_ret ?_
  exact at_retA rfl rfl (fun w hS => trivial)
theorem max_ControllerRegistrationRequest (t : Vw) : CS Tryz.prog 43 [] t (.int .i64 0) := by
  refine CA.cs ?_
  refine ca_enter Tryz.func43 rfl Tryz.ntmps43 rfl ?_
  refine cd_sr ?_
  refine ln_pv (pv_assign rfl) rfl ?_
  refine ln_cd ?_
  refine cd_sr ?_
  refine ln_callA en_108 rfl (fun u hu => newptr_ControllerRegistrationRequest u) rfl (fun u1 v1 ht1 hR1 => ?_)
  refine ln_callS en_109 rfl (fun u hu => max_ver_ControllerRegistrationRequest u _) rfl ?_
  refine ln_pv (pv_conv Tryz.underlying46 Tryz.underlying3 rfl) rfl ?_
  refine ln_pv (pv_assign rfl) rfl ?_
  refine ln_cd ?_
  refine cd_ret ?_
  exact at_retA rfl rfl (fun w hS => rfl)
end K
end Go.Proofs.YtekafeogilbjmaaGreatDoor
