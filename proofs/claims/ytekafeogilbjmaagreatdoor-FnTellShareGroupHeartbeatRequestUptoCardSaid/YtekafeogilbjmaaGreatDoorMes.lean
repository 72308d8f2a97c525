import Derived.Test.YtekafeogilbjmaaGreatDoorQ0
set_option linter.unusedVariables false
set_option linter.unusedSimpArgs false
namespace Go.Proofs.YtekafeogilbjmaaGreatDoor
namespace K
open Go Go.Lib
def F_ShareGroupHeartbeatRequest : List Fld := [.mk 8 0 (-1) (-1) (-1) 0 0 [], .mk 8 0 (-1) (-1) (-1) 0 0 [], .mk 3 0 (-1) (-1) (-1) 0 0 [], .mk 8 0 (-1) 0 (-1) 0 0 [], .mk 11 0 (-1) 0 (-1) 0 8 []]
theorem sch_F_ShareGroupHeartbeatRequest (t : Vw) : CA Tryz.prog 32 [] t fun u r => ∃ sv lc, r = .agg #[sv, .int .i64 (0)] ∧ RS u 8 sv F_ShareGroupHeartbeatRequest.length lc ∧ RFs u F_ShareGroupHeartbeatRequest lc := by
  refine ca_enter Tryz.func32 rfl Tryz.ntmps32 rfl ?_
  refine cd_sr ?_
  refine ln_alloc tispec_Message rfl rfl (fun b1 => ?_)
  refine ln_cd ?_
  refine cd_sr ?_
  refine ln_pv (pv_struct [(0, 1), (1, 1), (2, 1), (3, 1), (4, 1), (5, 1), (6, 1), (7, 1)] (l := [_, _, _, _, _, _, _, _]) rfl Tryz.underlying51 tispec_Field (by kernel_rfl) rfl rfl) rfl ?_
  refine ln_pv (pv_struct [(0, 1), (1, 1), (2, 1), (3, 1), (4, 1), (5, 1), (6, 1), (7, 1)] (l := [_, _, _, _, _, _, _, _]) rfl Tryz.underlying51 tispec_Field (by kernel_rfl) rfl rfl) rfl ?_
  refine ln_pv (pv_struct [(0, 1), (1, 1), (2, 1), (3, 1), (4, 1), (5, 1), (6, 1), (7, 1)] (l := [_, _, _, _, _, _, _, _]) rfl Tryz.underlying51 tispec_Field (by kernel_rfl) rfl rfl) rfl ?_
  refine ln_pv (pv_struct [(0, 1), (1, 1), (2, 1), (3, 1), (4, 1), (5, 1), (6, 1), (7, 1)] (l := [_, _, _, _, _, _, _, _]) rfl Tryz.underlying51 tispec_Field (by kernel_rfl) rfl rfl) rfl ?_
  refine ln_pv (pv_struct [(0, 1), (1, 1), (2, 1), (3, 1), (4, 1), (5, 1), (6, 1), (7, 1)] (l := [_, _, _, _, _, _, _, _]) rfl Tryz.underlying51 tispec_Field (by kernel_rfl) rfl rfl) rfl ?_
  refine ln_lit (vs := [_, _, _, _, _]) Tryz.underlying29 tispec_Field rfl (by decide) rfl rfl rfl rfl rfl rfl (fun b2 => ?_)
  refine ln_pv (pv_struct [(0, 1), (1, 1)] (l := [_, _]) rfl Tryz.underlying31 tispec_Message (by kernel_rfl) rfl rfl) rfl ?_
  refine ln_storeW (i := 1) rfl rfl rfl rfl (tispec_Message).size rfl (by simp []) ?_
  refine ln_cd ?_
  refine cd_ret ?_
  refine at_retC (i := 1) rfl rfl rfl Tryz.underlying31 rfl tispec_Message.size rfl (fun w hS => ?_)
  exact ⟨_, _, rfl, obj_rs hS (i := 0) (m := 5) (sz := 8) rfl rfl (by simp [flat, Value.cells]), (RFs.leaf (RFs.leaf (RFs.leaf (RFs.leaf (RFs.leaf rfl)))))⟩
theorem ok_F_ShareGroupHeartbeatRequest : okFs F_ShareGroupHeartbeatRequest = true ∧ ofOks F_ShareGroupHeartbeatRequest = true ∧ F_ShareGroupHeartbeatRequest.length < 1000000 := by decide
theorem max_ver_ShareGroupHeartbeatRequest (t : Vw) (p : Value) : CS Tryz.prog 85 [p] t (.int .i16 1) := by
  refine CA.cs ?_
  refine ca_enter Tryz.func85 rfl Tryz.ntmps85 rfl ?_
  refine cd_sr ?_
  refine ln_pv (pv_assign rfl) rfl ?_
  refine ln_cd ?_
  refine cd_sr ?_
  refine ln_pv (pv_assign rfl) rfl ?_
  refine ln_cd ?_
  refine cd_ret ?_
  exact at_retA rfl rfl (fun w hS => rfl)
theorem dflt_ShareGroupHeartbeatRequest (t : Vw) (p : Value) : CS Tryz.prog 150 [p] t (.tuple #[]) := by
  refine CA.cs ?_
  refine ca_enter Tryz.func150 rfl Tryz.ntmps150 rfl ?_
  refine cd_skip ?_
  exact at_retA0 rfl (fun w hS => rfl)
theorem newptr_ShareGroupHeartbeatRequest (t : Vw) : CA Tryz.prog 84 [] t fun u r => True := by
  refine ca_enter Tryz.func84 rfl Tryz.ntmps84 rfl ?_
  refine cd_sr ?_
  refine ln_pv (pv_assign rfl) rfl ?_
  refine ln_cd ?_
  refine cd_sr ?_
  refine ln_alloc tipub_kmsg_ShareGroupHeartbeatRequest rfl rfl (fun b1 => ?_)
  refine ln_cd ?_
  refine cd_sr ?_
  refine ln_callS en_150 rfl (fun u hu => dflt_ShareGroupHeartbeatRequest u _) rfl ?_
  refine ln_cd ?_
  refine cd_sr ?_
  refine ln_pv (pv_assign rfl) rfl ?_
  refine ln_cd ?_
  refine cd_ret ?_
  exact at_retA rfl rfl (fun w hS => trivial)
theorem max_ShareGroupHeartbeatRequest (t : Vw) : CS Tryz.prog 31 [] t (.int .i64 1) := by
  refine CA.cs ?_
  refine ca_enter Tryz.func31 rfl Tryz.ntmps31 rfl ?_
  refine cd_sr ?_
  refine ln_pv (pv_assign rfl) rfl ?_
  refine ln_cd ?_
  refine cd_sr ?_
  refine ln_callA en_84 rfl (fun u hu => newptr_ShareGroupHeartbeatRequest u) rfl (fun u1 v1 ht1 hR1 => ?_)
  refine ln_callS en_85 rfl (fun u hu => max_ver_ShareGroupHeartbeatRequest u _) rfl ?_
  refine ln_pv (pv_conv Tryz.underlying46 Tryz.underlying3 rfl) rfl ?_
  refine ln_pv (pv_assign rfl) rfl ?_
  refine ln_cd ?_
  refine cd_ret ?_
  exact at_retA rfl rfl (fun w hS => rfl)
end K
end Go.Proofs.YtekafeogilbjmaaGreatDoor
