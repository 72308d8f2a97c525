import Derived.Test.YtmknncmdbmnmgaaQ0
set_option linter.unusedVariables false
set_option linter.unusedSimpArgs false
namespace Go.Proofs.Ytmknncmdbmnmgaa
namespace K
open Go Go.Lib
def F_sAlterConfigsRequestResourceConfig : List Fld := [.mk 8 0 (-1) (-1) (-1) 0 0 [], .mk 8 0 (-1) 0 (-1) 0 0 []]
theorem sch_F_sAlterConfigsRequestResourceConfig (t : Vw) : CA Try.prog 181 [] t fun u r => ∃ lc, RS u 8 r F_sAlterConfigsRequestResourceConfig.length lc ∧ RFs u F_sAlterConfigsRequestResourceConfig lc := by
  refine ca_enter Try.func181 rfl Try.ntmps181 rfl ?_
  refine cd_sr ?_
  refine ln_pv (pv_assign rfl) rfl ?_
  refine ln_cd ?_
  refine cd_sr ?_
  refine ln_pv (pv_struct [(0, 1), (1, 1), (2, 1), (3, 1), (4, 1), (5, 1), (6, 1), (7, 1)] (l := [_, _, _, _, _, _, _, _]) rfl Try.underlying46 tispec_Field (by kernel_rfl) rfl rfl) rfl ?_
  refine ln_pv (pv_struct [(0, 1), (1, 1), (2, 1), (3, 1), (4, 1), (5, 1), (6, 1), (7, 1)] (l := [_, _, _, _, _, _, _, _]) rfl Try.underlying46 tispec_Field (by kernel_rfl) rfl rfl) rfl ?_
  refine ln_lit (vs := [_, _]) Try.underlying28 tispec_Field rfl (by decide) rfl rfl rfl rfl rfl rfl (fun b1 => ?_)
  refine ln_pv (pv_assign rfl) rfl ?_
  refine ln_cd ?_
  refine cd_ret ?_
  refine at_retA rfl rfl (fun w hS => ?_)
  exact ⟨_, obj_rs hS (i := 0) (m := 2) (sz := 8) rfl rfl (by simp [flat, Value.cells]), (RFs.leaf (RFs.leaf rfl))⟩

def F_sAlterConfigsRequestResource : List Fld := [.mk 1 0 (-1) (-1) (-1) 0 0 [], .mk 8 0 (-1) (-1) (-1) 0 0 [], .mk 11 0 (-1) (-1) (-1) 0 10 F_sAlterConfigsRequestResourceConfig]
theorem sch_F_sAlterConfigsRequestResource (t : Vw) : CA Try.prog 116 [] t fun u r => ∃ lc, RS u 8 r F_sAlterConfigsRequestResource.length lc ∧ RFs u F_sAlterConfigsRequestResource lc := by
  refine ca_enter Try.func116 rfl Try.ntmps116 rfl ?_
  refine cd_sr ?_
  refine ln_pv (pv_assign rfl) rfl ?_
  refine ln_cd ?_
  refine cd_sr ?_
  refine ln_pv (pv_struct [(0, 1), (1, 1), (2, 1), (3, 1), (4, 1), (5, 1), (6, 1), (7, 1)] (l := [_, _, _, _, _, _, _, _]) rfl Try.underlying46 tispec_Field (by kernel_rfl) rfl rfl) rfl ?_
  refine ln_pv (pv_struct [(0, 1), (1, 1), (2, 1), (3, 1), (4, 1), (5, 1), (6, 1), (7, 1)] (l := [_, _, _, _, _, _, _, _]) rfl Try.underlying46 tispec_Field (by kernel_rfl) rfl rfl) rfl ?_
  refine ln_callA en_181 rfl (fun u hu => sch_F_sAlterConfigsRequestResourceConfig u) rfl (fun u1 v1 ht1 hR1 => ?_)
  obtain ⟨lc1, hV1, hF1⟩ := hR1
  refine ln_pv (pv_struct [(0, 1), (1, 1), (2, 1), (3, 1), (4, 1), (5, 1), (6, 1), (7, 1)] (l := [_, _, _, _, _, _, _, _]) rfl Try.underlying46 tispec_Field (by kernel_rfl) rfl (by simp [okL, Nat.ble_eq, Value.cells, (RS.one hV1)])) rfl ?_
  refine ln_lit (vs := [_, _, _]) Try.underlying28 tispec_Field rfl (by decide) rfl rfl rfl rfl rfl rfl (fun b1 => ?_)
  refine ln_pv (pv_assign rfl) rfl ?_
  refine ln_cd ?_
  refine cd_ret ?_
  refine at_retA rfl rfl (fun w hS => ?_)
  exact ⟨_, obj_rs hS (i := 0) (m := 3) (sz := 8) rfl rfl (by simp [flat, Value.cells, RS.one hV1]), (RFs.leaf (RFs.leaf (RFs.part (RS.mv hV1 hS.trFin) (RFs.mv hF1 hS.trFin) rfl)))⟩

def F_AlterConfigsRequest : List Fld := [.mk 11 0 (-1) (-1) (-1) 0 10 F_sAlterConfigsRequestResource, .mk 0 0 (-1) (-1) (-1) 0 0 []]
theorem sch_F_AlterConfigsRequest (t : Vw) : CA Try.prog 49 [] t fun u r => ∃ sv lc, r = .agg #[sv, .int .i64 (2)] ∧ RS u 8 sv F_AlterConfigsRequest.length lc ∧ RFs u F_AlterConfigsRequest lc := by
  refine ca_enter Try.func49 rfl Try.ntmps49 rfl ?_
  refine cd_sr ?_
  refine ln_alloc tispec_Message rfl rfl (fun b1 => ?_)
  refine ln_cd ?_
  refine cd_sr ?_
  refine ln_callA en_116 rfl (fun u hu => sch_F_sAlterConfigsRequestResource u) rfl (fun u1 v1 ht1 hR1 => ?_)
  obtain ⟨lc1, hV1, hF1⟩ := hR1
  refine ln_pv (pv_struct [(0, 1), (1, 1), (2, 1), (3, 1), (4, 1), (5, 1), (6, 1), (7, 1)] (l := [_, _, _, _, _, _, _, _]) rfl Try.underlying46 tispec_Field (by kernel_rfl) rfl (by simp [okL, Nat.ble_eq, Value.cells, (RS.one hV1)])) rfl ?_
  refine ln_pv (pv_struct [(0, 1), (1, 1), (2, 1), (3, 1), (4, 1), (5, 1), (6, 1), (7, 1)] (l := [_, _, _, _, _, _, _, _]) rfl Try.underlying46 tispec_Field (by kernel_rfl) rfl rfl) rfl ?_
  refine ln_lit (vs := [_, _]) Try.underlying28 tispec_Field rfl (by decide) rfl rfl rfl rfl rfl rfl (fun b2 => ?_)
  refine ln_pv (pv_struct [(0, 1), (1, 1)] (l := [_, _]) rfl Try.underlying30 tispec_Message (by kernel_rfl) rfl rfl) rfl ?_
  refine ln_storeW (i := 1) rfl rfl rfl rfl (tispec_Message).size rfl (by simp []) ?_
  refine ln_cd ?_
  refine cd_ret ?_
  refine at_retC (i := 1) rfl rfl rfl Try.underlying30 rfl tispec_Message.size rfl (fun w hS => ?_)
  exact ⟨_, _, rfl, obj_rs hS (i := 0) (m := 2) (sz := 8) rfl rfl (by simp [flat, Value.cells, RS.one hV1]), (RFs.part (RS.mv hV1 hS.trFin) (RFs.mv hF1 hS.trFin) (RFs.leaf rfl))⟩
theorem ok_F_AlterConfigsRequest : okFs F_AlterConfigsRequest = true ∧ ofOks F_AlterConfigsRequest = true ∧ F_AlterConfigsRequest.length < 1000000 := by decide
theorem max_ver_AlterConfigsRequest (t : Vw) (p : Value) : CS Try.prog 115 [p] t (.int .i16 2) := by
  refine CA.cs ?_
  refine ca_enter Try.func115 rfl Try.ntmps115 rfl ?_
  refine cd_sr ?_
  refine ln_pv (pv_assign rfl) rfl ?_
  refine ln_cd ?_
  refine cd_sr ?_
  refine ln_pv (pv_assign rfl) rfl ?_
  refine ln_cd ?_
  refine cd_ret ?_
  exact at_retA rfl rfl (fun w hS => rfl)
theorem dflt_AlterConfigsRequest (t : Vw) (p : Value) : CS Try.prog 180 [p] t (.tuple #[]) := by
  refine CA.cs ?_
  refine ca_enter Try.func180 rfl Try.ntmps180 rfl ?_
  refine cd_skip ?_
  exact at_retA0 rfl (fun w hS => rfl)
theorem newptr_AlterConfigsRequest (t : Vw) : CA Try.prog 114 [] t fun u r => True := by
  refine ca_enter Try.func114 rfl Try.ntmps114 rfl ?_
  refine cd_sr ?_
  refine ln_pv (pv_assign rfl) rfl ?_
  refine ln_cd ?_
  refine cd_sr ?_
  refine ln_alloc tipub_kmsg_AlterConfigsRequest rfl rfl (fun b1 => ?_)
  refine ln_cd ?_
  refine cd_sr ?_
  refine ln_callS en_180 rfl (fun u hu => dflt_AlterConfigsRequest u _) rfl ?_
  refine ln_cd ?_
  refine cd_sr ?_
  refine ln_pv (pv_assign rfl) rfl ?_
  refine ln_cd ?_
  refine cd_ret ?_
  exact at_retA rfl rfl (fun w hS => trivial)
theorem max_AlterConfigsRequest (t : Vw) : CS Try.prog 48 [] t (.int .i64 2) := by
  refine CA.cs ?_
  refine ca_enter Try.func48 rfl Try.ntmps48 rfl ?_
  refine cd_sr ?_
  refine ln_pv (pv_assign rfl) rfl ?_
  refine ln_cd ?_
  refine cd_sr ?_
  refine ln_callA en_114 rfl (fun u hu => newptr_AlterConfigsRequest u) rfl (fun u1 v1 ht1 hR1 => ?_)
  refine ln_callS en_115 rfl (fun u hu => max_ver_AlterConfigsRequest u _) rfl ?_
  refine ln_pv (pv_conv Try.underlying49 Try.underlying3 rfl) rfl ?_
  refine ln_pv (pv_assign rfl) rfl ?_
  refine ln_cd ?_
  refine cd_ret ?_
  exact at_retA rfl rfl (fun w hS => rfl)
end K
end Go.Proofs.Ytmknncmdbmnmgaa
