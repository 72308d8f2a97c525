import Derived.Test.YtekafeogilbjmaaDoorQ0
set_option linter.unusedVariables false
set_option linter.unusedSimpArgs false
namespace Go.Proofs.YtekafeogilbjmaaDoor
namespace K
open Go Go.Lib
def F_DeleteGroupsRequest : List Fld := [.mk 11 0 (-1) (-1) (-1) 0 8 []]
theorem sch_F_DeleteGroupsRequest (t : Vw) : CA Tryd.prog 7 [] t fun u r => ∃ sv lc, r = .agg #[sv, .int .i64 (2)] ∧ RS u 8 sv F_DeleteGroupsRequest.length lc ∧ RFs u F_DeleteGroupsRequest lc := by
  refine ca_enter Tryd.func7 rfl Tryd.ntmps7 rfl ?_
  refine cd_sr ?_
  refine ln_alloc tispec_Message rfl rfl (fun b1 => ?_)
  refine ln_cd ?_
  refine cd_sr ?_
  refine ln_pv (pv_struct [(0, 1), (1, 1), (2, 1), (3, 1), (4, 1), (5, 1), (6, 1), (7, 1)] (l := [_, _, _, _, _, _, _, _]) rfl Tryd.underlying52 tispec_Field (by kernel_rfl) rfl rfl) rfl ?_
  refine ln_lit (vs := [_]) Tryd.underlying29 tispec_Field rfl (by decide) rfl rfl rfl rfl rfl rfl (fun b2 => ?_)
  refine ln_pv (pv_struct [(0, 1), (1, 1)] (l := [_, _]) rfl Tryd.underlying31 tispec_Message (by kernel_rfl) rfl rfl) rfl ?_
  refine ln_storeW (i := 1) rfl rfl rfl rfl (tispec_Message).size rfl (by simp []) ?_
  refine ln_cd ?_
  refine cd_ret ?_
  refine at_retC (i := 1) rfl rfl rfl Tryd.underlying31 rfl tispec_Message.size rfl (fun w hS => ?_)
  exact ⟨_, _, rfl, obj_rs hS (i := 0) (m := 1) (sz := 8) rfl rfl (by simp [flat, Value.cells]), (RFs.leaf rfl)⟩
theorem ok_F_DeleteGroupsRequest : okFs F_DeleteGroupsRequest = true ∧ ofOks F_DeleteGroupsRequest = true ∧ F_DeleteGroupsRequest.length < 1000000 := by decide
theorem max_ver_DeleteGroupsRequest (t : Vw) (p : Value) : CS Tryd.prog 19 [p] t (.int .i16 3) := by
  refine CA.cs ?_
  refine ca_enter Tryd.func19 rfl Tryd.ntmps19 rfl ?_
  refine cd_sr ?_
  refine ln_pv (pv_assign rfl) rfl ?_
  refine ln_cd ?_
  refine cd_sr ?_
  refine ln_pv (pv_assign rfl) rfl ?_
  refine ln_cd ?_
  refine cd_ret ?_
  exact at_retA rfl rfl (fun w hS => rfl)
theorem dflt_DeleteGroupsRequest (t : Vw) (p : Value) : CS Tryd.prog 37 [p] t (.tuple #[]) := by
  refine CA.cs ?_
  refine ca_enter Tryd.func37 rfl Tryd.ntmps37 rfl ?_
  refine cd_skip ?_
  exact at_retA0 rfl (fun w hS => rfl)
theorem newptr_DeleteGroupsRequest (t : Vw) : CA Tryd.prog 18 [] t fun u r => True := by
  refine ca_enter Tryd.func18 rfl Tryd.ntmps18 rfl ?_
  refine cd_sr ?_
  refine ln_pv (pv_assign rfl) rfl ?_
  refine ln_cd ?_
  refine cd_sr ?_
  refine ln_alloc tipub_kmsg_DeleteGroupsRequest rfl rfl (fun b1 => ?_)
  refine ln_cd ?_
  refine cd_sr ?_
  refine ln_callS en_37 rfl (fun u hu => dflt_DeleteGroupsRequest u _) rfl ?_
  refine ln_cd ?_
  refine cd_sr ?_
  refine ln_pv (pv_assign rfl) rfl ?_
  refine ln_cd ?_
  refine cd_ret ?_
  exact at_retA rfl rfl (fun w hS => trivial)
theorem max_DeleteGroupsRequest (t : Vw) : CS Tryd.prog 6 [] t (.int .i64 3) := by
  refine CA.cs ?_
  refine ca_enter Tryd.func6 rfl Tryd.ntmps6 rfl ?_
  refine cd_sr ?_
  refine ln_pv (pv_assign rfl) rfl ?_
  refine ln_cd ?_
  refine cd_sr ?_
  refine ln_callA en_18 rfl (fun u hu => newptr_DeleteGroupsRequest u) rfl (fun u1 v1 ht1 hR1 => ?_)
  refine ln_callS en_19 rfl (fun u hu => max_ver_DeleteGroupsRequest u _) rfl ?_
  refine ln_pv (pv_conv Tryd.underlying47 Tryd.underlying3 rfl) rfl ?_
  refine ln_pv (pv_assign rfl) rfl ?_
  refine ln_cd ?_
  refine cd_ret ?_
  exact at_retA rfl rfl (fun w hS => rfl)
end K
end Go.Proofs.YtekafeogilbjmaaDoor
