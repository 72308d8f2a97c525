import Derived.Test.YtnolhlnncbajdaaGreatDoorRQ0
set_option linter.unusedVariables false
set_option linter.unusedSimpArgs false
namespace Go.Proofs.YtnolhlnncbajdaaGreatDoorR
namespace K
open Go Go.Lib
def F_DescribeGroupsRequest : List Fld := [.mk 11 0 (-1) (-1) (-1) 0 8 [], .mk 0 3 (-1) (-1) (-1) 0 0 []]
theorem sch_F_DescribeGroupsRequest (t : Vw) : CA Tryz.prog 21 [] t fun u r => ∃ sv lc, r = .agg #[sv, .int .i64 (5)] ∧ RS u 8 sv F_DescribeGroupsRequest.length lc ∧ RFs u F_DescribeGroupsRequest lc := by
  refine ca_enter Tryz.func21 rfl Tryz.ntmps21 rfl ?_
  refine cd_sr ?_
  refine ln_alloc tispec_Message rfl rfl (fun b1 => ?_)
  refine ln_cd ?_
  refine cd_sr ?_
  refine ln_pv (pv_struct [(0, 1), (1, 1), (2, 1), (3, 1), (4, 1), (5, 1), (6, 1), (7, 1)] (l := [_, _, _, _, _, _, _, _]) rfl Tryz.underlying50 tispec_Field (by kernel_rfl) rfl rfl) rfl ?_
  refine ln_pv (pv_struct [(0, 1), (1, 1), (2, 1), (3, 1), (4, 1), (5, 1), (6, 1), (7, 1)] (l := [_, _, _, _, _, _, _, _]) rfl Tryz.underlying50 tispec_Field (by kernel_rfl) rfl rfl) rfl ?_
  refine ln_lit (vs := [_, _]) Tryz.underlying32 tispec_Field rfl (by decide) rfl rfl rfl rfl rfl rfl (fun b2 => ?_)
  refine ln_pv (pv_struct [(0, 1), (1, 1)] (l := [_, _]) rfl Tryz.underlying34 tispec_Message (by kernel_rfl) rfl rfl) rfl ?_
  refine ln_storeW (i := 1) rfl rfl rfl rfl (tispec_Message).size rfl (by simp []) ?_
  refine ln_cd ?_
  refine cd_ret ?_
  refine at_retC (i := 1) rfl rfl rfl Tryz.underlying34 rfl tispec_Message.size rfl (fun w hS => ?_)
  exact ⟨_, _, rfl, obj_rs hS (i := 0) (m := 2) (sz := 8) rfl rfl (by simp [flat, Value.cells]), (RFs.leaf (RFs.leaf rfl))⟩
theorem ok_F_DescribeGroupsRequest : okFs F_DescribeGroupsRequest = true ∧ ofOks F_DescribeGroupsRequest = true ∧ F_DescribeGroupsRequest.length < 1000000 := by decide
theorem max_ver_DescribeGroupsRequest (t : Vw) (p : Value) : CS Tryz.prog 41 [p] t (.int .i16 6) := by
  refine CA.cs ?_
  refine ca_enter Tryz.func41 rfl Tryz.ntmps41 rfl ?_
  refine cd_sr ?_
  refine ln_pv (pv_assign rfl) rfl ?_
  refine ln_cd ?_
  refine cd_sr ?_
  refine ln_pv (pv_assign rfl) rfl ?_
  refine ln_cd ?_
  refine cd_ret ?_
  exact at_retA rfl rfl (fun w hS => rfl)
theorem dflt_DescribeGroupsRequest (t : Vw) (p : Value) : CS Tryz.prog 66 [p] t (.tuple #[]) := by
  refine CA.cs ?_
  refine ca_enter Tryz.func66 rfl Tryz.ntmps66 rfl ?_
  refine cd_skip ?_
  exact at_retA0 rfl (fun w hS => rfl)
theorem newptr_DescribeGroupsRequest (t : Vw) : CA Tryz.prog 40 [] t fun u r => True := by
  refine ca_enter Tryz.func40 rfl Tryz.ntmps40 rfl ?_
  refine cd_sr ?_
  refine ln_pv (pv_assign rfl) rfl ?_
  refine ln_cd ?_
  refine cd_sr ?_
  refine ln_alloc tipub_kmsg_DescribeGroupsRequest rfl rfl (fun b1 => ?_)
  refine ln_cd ?_
  refine cd_sr ?_
  refine ln_callS en_66 rfl (fun u hu => dflt_DescribeGroupsRequest u _) rfl ?_
  refine ln_cd ?_
  refine cd_sr ?_
  refine ln_pv (pv_assign rfl) rfl ?_
  refine ln_cd ?_
  refine cd_ret ?_
  exact at_retA rfl rfl (fun w hS => trivial)
theorem max_DescribeGroupsRequest (t : Vw) : CS Tryz.prog 20 [] t (.int .i64 6) := by
  refine CA.cs ?_
  refine ca_enter Tryz.func20 rfl Tryz.ntmps20 rfl ?_
  refine cd_sr ?_
  refine ln_pv (pv_assign rfl) rfl ?_
  refine ln_cd ?_
  refine cd_sr ?_
  refine ln_callA en_40 rfl (fun u hu => newptr_DescribeGroupsRequest u) rfl (fun u1 v1 ht1 hR1 => ?_)
  refine ln_callS en_41 rfl (fun u hu => max_ver_DescribeGroupsRequest u _) rfl ?_
  refine ln_pv (pv_conv Tryz.underlying45 Tryz.underlying3 rfl) rfl ?_
  refine ln_pv (pv_assign rfl) rfl ?_
  refine ln_cd ?_
  refine cd_ret ?_
  exact at_retA rfl rfl (fun w hS => rfl)
end K
end Go.Proofs.YtnolhlnncbajdaaGreatDoorR
