import Derived.Test.YtnolhlnncbajdaaGreatDoorRQ0
set_option linter.unusedVariables false
set_option linter.unusedSimpArgs false
namespace Go.Proofs.YtnolhlnncbajdaaGreatDoorR
namespace K
open Go Go.Lib
def F_FindCoordinatorRequest : List Fld := [.mk 8 0 3 (-1) (-1) 0 0 [], .mk 1 1 (-1) (-1) (-1) 0 0 [], .mk 11 4 (-1) (-1) (-1) 0 8 []]
theorem sch_F_FindCoordinatorRequest (t : Vw) : CA Tryz.prog 24 [] t fun u r => ∃ sv lc, r = .agg #[sv, .int .i64 (3)] ∧ RS u 8 sv F_FindCoordinatorRequest.length lc ∧ RFs u F_FindCoordinatorRequest lc := by
  refine ca_enter Tryz.func24 rfl Tryz.ntmps24 rfl ?_
  refine cd_sr ?_
  refine ln_alloc tispec_Message rfl rfl (fun b1 => ?_)
  refine ln_cd ?_
  refine cd_sr ?_
  refine ln_pv (pv_struct [(0, 1), (1, 1), (2, 1), (3, 1), (4, 1), (5, 1), (6, 1), (7, 1)] (l := [_, _, _, _, _, _, _, _]) rfl Tryz.underlying50 tispec_Field (by kernel_rfl) rfl rfl) rfl ?_
  refine ln_pv (pv_struct [(0, 1), (1, 1), (2, 1), (3, 1), (4, 1), (5, 1), (6, 1), (7, 1)] (l := [_, _, _, _, _, _, _, _]) rfl Tryz.underlying50 tispec_Field (by kernel_rfl) rfl rfl) rfl ?_
  refine ln_pv (pv_struct [(0, 1), (1, 1), (2, 1), (3, 1), (4, 1), (5, 1), (6, 1), (7, 1)] (l := [_, _, _, _, _, _, _, _]) rfl Tryz.underlying50 tispec_Field (by kernel_rfl) rfl rfl) rfl ?_
  refine ln_lit (vs := [_, _, _]) Tryz.underlying32 tispec_Field rfl (by decide) rfl rfl rfl rfl rfl rfl (fun b2 => ?_)
  refine ln_pv (pv_struct [(0, 1), (1, 1)] (l := [_, _]) rfl Tryz.underlying34 tispec_Message (by kernel_rfl) rfl rfl) rfl ?_
  refine ln_storeW (i := 1) rfl rfl rfl rfl (tispec_Message).size rfl (by simp []) ?_
  refine ln_cd ?_
  refine cd_ret ?_
  refine at_retC (i := 1) rfl rfl rfl Tryz.underlying34 rfl tispec_Message.size rfl (fun w hS => ?_)
  exact ⟨_, _, rfl, obj_rs hS (i := 0) (m := 3) (sz := 8) rfl rfl (by simp [flat, Value.cells]), (RFs.leaf (RFs.leaf (RFs.leaf rfl)))⟩
theorem ok_F_FindCoordinatorRequest : okFs F_FindCoordinatorRequest = true ∧ ofOks F_FindCoordinatorRequest = true ∧ F_FindCoordinatorRequest.length < 1000000 := by decide
theorem max_ver_FindCoordinatorRequest (t : Vw) (p : Value) : CS Tryz.prog 45 [p] t (.int .i16 6) := by
  refine CA.cs ?_
  refine ca_enter Tryz.func45 rfl Tryz.ntmps45 rfl ?_
  refine cd_sr ?_
  refine ln_pv (pv_assign rfl) rfl ?_
  refine ln_cd ?_
  refine cd_sr ?_
  refine ln_pv (pv_assign rfl) rfl ?_
  refine ln_cd ?_
  refine cd_ret ?_
  exact at_retA rfl rfl (fun w hS => rfl)
theorem dflt_FindCoordinatorRequest (t : Vw) (p : Value) : CS Tryz.prog 68 [p] t (.tuple #[]) := by
  refine CA.cs ?_
  refine ca_enter Tryz.func68 rfl Tryz.ntmps68 rfl ?_
  refine cd_skip ?_
  exact at_retA0 rfl (fun w hS => rfl)
theorem newptr_FindCoordinatorRequest (t : Vw) : CA Tryz.prog 44 [] t fun u r => True := by
  refine ca_enter Tryz.func44 rfl Tryz.ntmps44 rfl ?_
  refine cd_sr ?_
  refine ln_pv (pv_assign rfl) rfl ?_
  refine ln_cd ?_
  refine cd_sr ?_
  refine ln_alloc tipub_kmsg_FindCoordinatorRequest rfl rfl (fun b1 => ?_)
  refine ln_cd ?_
  refine cd_sr ?_
  refine ln_callS en_68 rfl (fun u hu => dflt_FindCoordinatorRequest u _) rfl ?_
  refine ln_cd ?_
  refine cd_sr ?_
  refine ln_pv (pv_assign rfl) rfl ?_
  refine ln_cd ?_
  refine cd_ret ?_
  exact at_retA rfl rfl (fun w hS => trivial)
theorem max_FindCoordinatorRequest (t : Vw) : CS Tryz.prog 23 [] t (.int .i64 6) := by
  refine CA.cs ?_
  refine ca_enter Tryz.func23 rfl Tryz.ntmps23 rfl ?_
  refine cd_sr ?_
  refine ln_pv (pv_assign rfl) rfl ?_
  refine ln_cd ?_
  refine cd_sr ?_
  refine ln_callA en_44 rfl (fun u hu => newptr_FindCoordinatorRequest u) rfl (fun u1 v1 ht1 hR1 => ?_)
  refine ln_callS en_45 rfl (fun u hu => max_ver_FindCoordinatorRequest u _) rfl ?_
  refine ln_pv (pv_conv Tryz.underlying45 Tryz.underlying3 rfl) rfl ?_
  refine ln_pv (pv_assign rfl) rfl ?_
  refine ln_cd ?_
  refine cd_ret ?_
  exact at_retA rfl rfl (fun w hS => rfl)
end K
end Go.Proofs.YtnolhlnncbajdaaGreatDoorR
