import Derived.Test.YtmknncmdbmnmgaaQ0
set_option linter.unusedVariables false
set_option linter.unusedSimpArgs false
namespace Go.Proofs.Ytmknncmdbmnmgaa
namespace K
open Go Go.Lib
def F_sDescribeClientQuotasRequestComponent : List Fld := [.mk 8 0 (-1) (-1) (-1) 0 0 [], .mk 1 0 (-1) (-1) (-1) 0 0 [], .mk 8 0 (-1) 0 (-1) 0 0 []]
theorem sch_F_sDescribeClientQuotasRequestComponent (t : Vw) : CA Try.prog 92 [] t fun u r => ∃ lc, RS u 8 r F_sDescribeClientQuotasRequestComponent.length lc ∧ RFs u F_sDescribeClientQuotasRequestComponent lc := by
  refine ca_enter Try.func92 rfl Try.ntmps92 rfl ?_
  refine cd_sr ?_
  refine ln_pv (pv_assign rfl) rfl ?_
  refine ln_cd ?_
  refine cd_sr ?_
  refine ln_pv (pv_struct [(0, 1), (1, 1), (2, 1), (3, 1), (4, 1), (5, 1), (6, 1), (7, 1)] (l := [_, _, _, _, _, _, _, _]) rfl Try.underlying46 tispec_Field (by kernel_rfl) rfl rfl) rfl ?_
  refine ln_pv (pv_struct [(0, 1), (1, 1), (2, 1), (3, 1), (4, 1), (5, 1), (6, 1), (7, 1)] (l := [_, _, _, _, _, _, _, _]) rfl Try.underlying46 tispec_Field (by kernel_rfl) rfl rfl) rfl ?_
  refine ln_pv (pv_struct [(0, 1), (1, 1), (2, 1), (3, 1), (4, 1), (5, 1), (6, 1), (7, 1)] (l := [_, _, _, _, _, _, _, _]) rfl Try.underlying46 tispec_Field (by kernel_rfl) rfl rfl) rfl ?_
  refine ln_lit (vs := [_, _, _]) Try.underlying28 tispec_Field rfl (by decide) rfl rfl rfl rfl rfl rfl (fun b1 => ?_)
  refine ln_pv (pv_assign rfl) rfl ?_
  refine ln_cd ?_
  refine cd_ret ?_
  refine at_retA rfl rfl (fun w hS => ?_)
  exact ⟨_, obj_rs hS (i := 0) (m := 3) (sz := 8) rfl rfl (by simp [flat, Value.cells]), (RFs.leaf (RFs.leaf (RFs.leaf rfl)))⟩

def F_DescribeClientQuotasRequest : List Fld := [.mk 11 0 (-1) (-1) (-1) 0 10 F_sDescribeClientQuotasRequestComponent, .mk 0 0 (-1) (-1) (-1) 0 0 []]
theorem sch_F_DescribeClientQuotasRequest (t : Vw) : CA Try.prog 37 [] t fun u r => ∃ sv lc, r = .agg #[sv, .int .i64 (1)] ∧ RS u 8 sv F_DescribeClientQuotasRequest.length lc ∧ RFs u F_DescribeClientQuotasRequest lc := by
  refine ca_enter Try.func37 rfl Try.ntmps37 rfl ?_
  refine cd_sr ?_
  refine ln_alloc tispec_Message rfl rfl (fun b1 => ?_)
  refine ln_cd ?_
  refine cd_sr ?_
  refine ln_callA en_92 rfl (fun u hu => sch_F_sDescribeClientQuotasRequestComponent u) rfl (fun u1 v1 ht1 hR1 => ?_)
  obtain ⟨lc1, hV1, hF1⟩ := hR1
  refine ln_pv (pv_struct [(0, 1), (1, 1), (2, 1), (3, 1), (4, 1), (5, 1), (6, 1), (7, 1)] (l := [_, _, _, _, _, _, _, _]) rfl Try.underlying46 tispec_Field (by kernel_rfl) rfl (by simp [okL, Nat.ble_eq, Value.cells, (RS.one hV1)])) rfl ?_
  refine ln_pv (pv_struct [(0, 1), (1, 1), (2, 1), (3, 1), (4, 1), (5, 1), (6, 1), (7, 1)] (l := [_, _, _, _, _, _, _, _]) rfl Try.underlying46 tispec_Field (by kernel_rfl) rfl rfl) rfl ?_
  refine ln_lit (vs := [_, _]) Try.underlying28 tispec_Field rfl (by decide) rfl rfl rfl rfl rfl rfl (fun b2 => ?_)
  refine ln_pv (pv_struct [(0, 1), (1, 1)] (l := [_, _]) rfl Try.underlying30 tispec_Message (by kernel_rfl) rfl rfl) rfl ?_
  refine ln_storeW (i := 1) rfl rfl rfl rfl (tispec_Message).size rfl (by simp []) ?_
  refine ln_cd ?_
  refine cd_ret ?_
  refine at_retC (i := 1) rfl rfl rfl Try.underlying30 rfl tispec_Message.size rfl (fun w hS => ?_)
  exact ⟨_, _, rfl, obj_rs hS (i := 0) (m := 2) (sz := 8) rfl rfl (by simp [flat, Value.cells, RS.one hV1]), (RFs.part (RS.mv hV1 hS.trFin) (RFs.mv hF1 hS.trFin) (RFs.leaf rfl))⟩
theorem ok_F_DescribeClientQuotasRequest : okFs F_DescribeClientQuotasRequest = true ∧ ofOks F_DescribeClientQuotasRequest = true ∧ F_DescribeClientQuotasRequest.length < 1000000 := by decide
theorem max_ver_DescribeClientQuotasRequest (t : Vw) (p : Value) : CS Try.prog 91 [p] t (.int .i16 1) := by
  refine CA.cs ?_
  refine ca_enter Try.func91 rfl Try.ntmps91 rfl ?_
  refine cd_sr ?_
  refine ln_pv (pv_assign rfl) rfl ?_
  refine ln_cd ?_
  refine cd_sr ?_
  refine ln_pv (pv_assign rfl) rfl ?_
  refine ln_cd ?_
  refine cd_ret ?_
  exact at_retA rfl rfl (fun w hS => rfl)
theorem dflt_DescribeClientQuotasRequest (t : Vw) (p : Value) : CS Try.prog 171 [p] t (.tuple #[]) := by
  refine CA.cs ?_
  refine ca_enter Try.func171 rfl Try.ntmps171 rfl ?_
  refine cd_skip ?_
  exact at_retA0 rfl (fun w hS => rfl)
theorem newptr_DescribeClientQuotasRequest (t : Vw) : CA Try.prog 90 [] t fun u r => True := by
  refine ca_enter Try.func90 rfl Try.ntmps90 rfl ?_
  refine cd_sr ?_
  refine ln_pv (pv_assign rfl) rfl ?_
  refine ln_cd ?_
  refine cd_sr ?_
  refine ln_alloc tipub_kmsg_DescribeClientQuotasRequest rfl rfl (fun b1 => ?_)
  refine ln_cd ?_
  refine cd_sr ?_
  refine ln_callS en_171 rfl (fun u hu => dflt_DescribeClientQuotasRequest u _) rfl ?_
  refine ln_cd ?_
  refine cd_sr ?_
  refine ln_pv (pv_assign rfl) rfl ?_
  refine ln_cd ?_
  refine cd_ret ?_
  exact at_retA rfl rfl (fun w hS => trivial)
theorem max_DescribeClientQuotasRequest (t : Vw) : CS Try.prog 36 [] t (.int .i64 1) := by
  refine CA.cs ?_
  refine ca_enter Try.func36 rfl Try.ntmps36 rfl ?_
  refine cd_sr ?_
  refine ln_pv (pv_assign rfl) rfl ?_
  refine ln_cd ?_
  refine cd_sr ?_
  refine ln_callA en_90 rfl (fun u hu => newptr_DescribeClientQuotasRequest u) rfl (fun u1 v1 ht1 hR1 => ?_)
  refine ln_callS en_91 rfl (fun u hu => max_ver_DescribeClientQuotasRequest u _) rfl ?_
  refine ln_pv (pv_conv Try.underlying49 Try.underlying3 rfl) rfl ?_
  refine ln_pv (pv_assign rfl) rfl ?_
  refine ln_cd ?_
  refine cd_ret ?_
  exact at_retA rfl rfl (fun w hS => rfl)
end K
end Go.Proofs.Ytmknncmdbmnmgaa
