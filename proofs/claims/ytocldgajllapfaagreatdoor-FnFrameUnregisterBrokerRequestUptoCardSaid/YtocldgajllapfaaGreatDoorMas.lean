import Derived.Test.YtocldgajllapfaaGreatDoorQ0
set_option linter.unusedVariables false
set_option linter.unusedSimpArgs false
namespace Go.Proofs.YtocldgajllapfaaGreatDoor
namespace K
open Go Go.Lib
def F_UnregisterBrokerRequest : List Fld := [.mk 3 0 (-1) (-1) (-1) 0 0 []]
theorem sch_F_UnregisterBrokerRequest (t : Vw) : CA Tryz.prog 9 [] t fun u r => ∃ sv lc, r = .agg #[sv, .int .i64 (0)] ∧ RS u 8 sv F_UnregisterBrokerRequest.length lc ∧ RFs u F_UnregisterBrokerRequest lc := by
  refine ca_enter Tryz.func9 rfl Tryz.ntmps9 rfl ?_
  refine cd_sr ?_
  refine ln_alloc tispec_Message rfl rfl (fun b1 => ?_)
  refine ln_cd ?_
  refine cd_sr ?_
  refine ln_pv (pv_struct [(0, 1), (1, 1), (2, 1), (3, 1), (4, 1), (5, 1), (6, 1), (7, 1)] (l := [_, _, _, _, _, _, _, _]) rfl Tryz.underlying50 tispec_Field (by kernel_rfl) rfl rfl) rfl ?_
  refine ln_lit (vs := [_]) Tryz.underlying32 tispec_Field rfl (by decide) rfl rfl rfl rfl rfl rfl (fun b2 => ?_)
  refine ln_pv (pv_struct [(0, 1), (1, 1)] (l := [_, _]) rfl Tryz.underlying34 tispec_Message (by kernel_rfl) rfl rfl) rfl ?_
  refine ln_storeW (i := 1) rfl rfl rfl rfl (tispec_Message).size rfl (by simp []) ?_
  refine ln_cd ?_
  refine cd_ret ?_
  refine at_retC (i := 1) rfl rfl rfl Tryz.underlying34 rfl tispec_Message.size rfl (fun w hS => ?_)
  exact ⟨_, _, rfl, obj_rs hS (i := 0) (m := 1) (sz := 8) rfl rfl (by simp [flat, Value.cells]), (RFs.leaf rfl)⟩
theorem ok_F_UnregisterBrokerRequest : okFs F_UnregisterBrokerRequest = true ∧ ofOks F_UnregisterBrokerRequest = true ∧ F_UnregisterBrokerRequest.length < 1000000 := by decide
theorem max_ver_UnregisterBrokerRequest (t : Vw) (p : Value) : CS Tryz.prog 24 [p] t (.int .i16 0) := by
  refine CA.cs ?_
  refine ca_enter Tryz.func24 rfl Tryz.ntmps24 rfl ?_
  refine cd_sr ?_
  refine ln_pv (pv_assign rfl) rfl ?_
  refine ln_cd ?_
  refine cd_sr ?_
  refine ln_pv (pv_assign rfl) rfl ?_
  refine ln_cd ?_
  refine cd_ret ?_
  exact at_retA rfl rfl (fun w hS => rfl)
theorem dflt_UnregisterBrokerRequest (t : Vw) (p : Value) : CS Tryz.prog 39 [p] t (.tuple #[]) := by
  refine CA.cs ?_
  refine ca_enter Tryz.func39 rfl Tryz.ntmps39 rfl ?_
  refine cd_skip ?_
  exact at_retA0 rfl (fun w hS => rfl)
theorem newptr_UnregisterBrokerRequest (t : Vw) : CA Tryz.prog 23 [] t fun u r => True := by
  refine ca_enter Tryz.func23 rfl Tryz.ntmps23 rfl ?_
  refine cd_sr ?_
  refine ln_pv (pv_assign rfl) rfl ?_
  refine ln_cd ?_
  refine cd_sr ?_
  refine ln_alloc tipub_kmsg_UnregisterBrokerRequest rfl rfl (fun b1 => ?_)
  refine ln_cd ?_
  refine cd_sr ?_
  refine ln_callS en_39 rfl (fun u hu => dflt_UnregisterBrokerRequest u _) rfl ?_
  refine ln_cd ?_
  refine cd_sr ?_
  refine ln_pv (pv_assign rfl) rfl ?_
  refine ln_cd ?_
  refine cd_ret ?_
  exact at_retA rfl rfl (fun w hS => trivial)
theorem max_UnregisterBrokerRequest (t : Vw) : CS Tryz.prog 8 [] t (.int .i64 0) := by
  refine CA.cs ?_
  refine ca_enter Tryz.func8 rfl Tryz.ntmps8 rfl ?_
  refine cd_sr ?_
  refine ln_pv (pv_assign rfl) rfl ?_
  refine ln_cd ?_
  refine cd_sr ?_
  refine ln_callA en_23 rfl (fun u hu => newptr_UnregisterBrokerRequest u) rfl (fun u1 v1 ht1 hR1 => ?_)
  refine ln_callS en_24 rfl (fun u hu => max_ver_UnregisterBrokerRequest u _) rfl ?_
  refine ln_pv (pv_conv Tryz.underlying45 Tryz.underlying3 rfl) rfl ?_
  refine ln_pv (pv_assign rfl) rfl ?_
  refine ln_cd ?_
  refine cd_ret ?_
  exact at_retA rfl rfl (fun w hS => rfl)
end K
end Go.Proofs.YtocldgajllapfaaGreatDoor
