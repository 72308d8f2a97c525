import Derived.Test.YtkcdocdldebeoaaDoorQ0
set_option linter.unusedVariables false
set_option linter.unusedSimpArgs false
namespace Go.Proofs.YtkcdocdldebeoaaDoor
namespace K
open Go Go.Lib
def F_PushTelemetryResponse : List Fld := [.mk 3 0 (-1) (-1) (-1) 0 0 [], .mk 2 0 (-1) (-1) (-1) 0 0 []]
theorem sch_F_PushTelemetryResponse (t : Vw) : CA Tryd.prog 18 [] t fun u r => ∃ sv lc, r = .agg #[sv, .int .i64 (0)] ∧ RS u 8 sv F_PushTelemetryResponse.length lc ∧ RFs u F_PushTelemetryResponse lc := by
  refine ca_enter Tryd.func18 rfl Tryd.ntmps18 rfl ?_
  refine cd_sr ?_
  refine ln_alloc tispec_Message rfl rfl (fun b1 => ?_)
  refine ln_cd ?_
  refine cd_sr ?_
  refine ln_pv (pv_struct [(0, 1), (1, 1), (2, 1), (3, 1), (4, 1), (5, 1), (6, 1), (7, 1)] (l := [_, _, _, _, _, _, _, _]) rfl Tryd.underlying54 tispec_Field (by kernel_rfl) rfl rfl) rfl ?_
  refine ln_pv (pv_struct [(0, 1), (1, 1), (2, 1), (3, 1), (4, 1), (5, 1), (6, 1), (7, 1)] (l := [_, _, _, _, _, _, _, _]) rfl Tryd.underlying54 tispec_Field (by kernel_rfl) rfl rfl) rfl ?_
  refine ln_lit (vs := [_, _]) Tryd.underlying29 tispec_Field rfl (by decide) rfl rfl rfl rfl rfl rfl (fun b2 => ?_)
  refine ln_pv (pv_struct [(0, 1), (1, 1)] (l := [_, _]) rfl Tryd.underlying31 tispec_Message (by kernel_rfl) rfl rfl) rfl ?_
  refine ln_storeW (i := 1) rfl rfl rfl rfl (tispec_Message).size rfl (by simp []) ?_
  refine ln_cd ?_
  refine cd_ret ?_
  refine at_retC (i := 1) rfl rfl rfl Tryd.underlying31 rfl tispec_Message.size rfl (fun w hS => ?_)
  exact ⟨_, _, rfl, obj_rs hS (i := 0) (m := 2) (sz := 8) rfl rfl (by simp [flat, Value.cells]), (RFs.leaf (RFs.leaf rfl))⟩
theorem ok_F_PushTelemetryResponse : okFs F_PushTelemetryResponse = true ∧ ofOks F_PushTelemetryResponse = true ∧ F_PushTelemetryResponse.length < 1000000 := by decide
theorem max_ver_PushTelemetryResponse (t : Vw) (p : Value) : CS Tryd.prog 38 [p] t (.int .i16 0) := by
  refine CA.cs ?_
  refine ca_enter Tryd.func38 rfl Tryd.ntmps38 rfl ?_
  refine cd_sr ?_
  refine ln_pv (pv_assign rfl) rfl ?_
  refine ln_cd ?_
  refine cd_sr ?_
  refine ln_pv (pv_assign rfl) rfl ?_
  refine ln_cd ?_
  refine cd_ret ?_
  exact at_retA rfl rfl (fun w hS => rfl)
theorem dflt_PushTelemetryResponse (t : Vw) (p : Value) : CS Tryd.prog 57 [p] t (.tuple #[]) := by
  refine CA.cs ?_
  refine ca_enter Tryd.func57 rfl Tryd.ntmps57 rfl ?_
  refine cd_skip ?_
  exact at_retA0 rfl (fun w hS => rfl)
theorem newptr_PushTelemetryResponse (t : Vw) : CA Tryd.prog 37 [] t fun u r => True := by
  refine ca_enter Tryd.func37 rfl Tryd.ntmps37 rfl ?_
  refine cd_sr ?_
  refine ln_pv (pv_assign rfl) rfl ?_
  refine ln_cd ?_
  refine cd_sr ?_
  refine ln_alloc tipub_kmsg_PushTelemetryResponse rfl rfl (fun b1 => ?_)
  refine ln_cd ?_
  refine cd_sr ?_
  refine ln_callS en_57 rfl (fun u hu => dflt_PushTelemetryResponse u _) rfl ?_
  refine ln_cd ?_
  refine cd_sr ?_
  refine ln_pv (pv_assign rfl) rfl ?_
  refine ln_cd ?_
  refine cd_ret ?_
  exact at_retA rfl rfl (fun w hS => trivial)
theorem max_PushTelemetryResponse (t : Vw) : CS Tryd.prog 17 [] t (.int .i64 0) := by
  refine CA.cs ?_
  refine ca_enter Tryd.func17 rfl Tryd.ntmps17 rfl ?_
  refine cd_sr ?_
  refine ln_pv (pv_assign rfl) rfl ?_
  refine ln_cd ?_
  refine cd_sr ?_
  refine ln_callA en_37 rfl (fun u hu => newptr_PushTelemetryResponse u) rfl (fun u1 v1 ht1 hR1 => ?_)
  refine ln_callS en_38 rfl (fun u hu => max_ver_PushTelemetryResponse u _) rfl ?_
  refine ln_pv (pv_conv Tryd.underlying49 Tryd.underlying3 rfl) rfl ?_
  refine ln_pv (pv_assign rfl) rfl ?_
  refine ln_cd ?_
  refine cd_ret ?_
  exact at_retA rfl rfl (fun w hS => rfl)
end K
end Go.Proofs.YtkcdocdldebeoaaDoor
