import Derived.Test.YtjjfpdofkdolnaaDoorQ0
set_option linter.unusedVariables false
set_option linter.unusedSimpArgs false
namespace Go.Proofs.YtjjfpdofkdolnaaDoor
namespace K
open Go Go.Lib
def F_sListGroupsResponseGroup : List Fld := [.mk 8 0 (-1) (-1) (-1) 0 0 [], .mk 8 0 (-1) (-1) (-1) 0 0 [], .mk 8 4 (-1) (-1) (-1) 0 0 [], .mk 8 5 (-1) (-1) (-1) 0 0 []]
def F_ListGroupsResponse : List Fld := [.mk 3 1 (-1) (-1) (-1) 0 0 [], .mk 2 0 (-1) (-1) (-1) 0 0 [], .mk 11 0 (-1) (-1) (-1) 0 10 F_sListGroupsResponseGroup]
theorem ok_F_ListGroupsResponse : okFs F_ListGroupsResponse = true ∧ ofOks F_ListGroupsResponse = true ∧ F_ListGroupsResponse.length < 1000000 := by decide
theorem max_ver_ListGroupsResponse (t : Vw) (p : Value) : CS Tryd.prog 49 [p] t (.int .i16 5) := by
  refine CA.cs ?_
  refine ca_enter Tryd.func49 rfl Tryd.ntmps49 rfl ?_
  refine cd_sr ?_
  refine ln_pv (pv_assign rfl) rfl ?_
  refine ln_cd ?_
  refine cd_sr ?_
  refine ln_pv (pv_assign rfl) rfl ?_
  refine ln_cd ?_
  refine cd_ret ?_
  exact at_retA rfl rfl (fun w hS => rfl)
theorem dflt_ListGroupsResponse (t : Vw) (p : Value) : CS Tryd.prog 89 [p] t (.tuple #[]) := by
  refine CA.cs ?_
  refine ca_enter Tryd.func89 rfl Tryd.ntmps89 rfl ?_
  refine cd_skip ?_
  exact at_retA0 rfl (fun w hS => rfl)
theorem newptr_ListGroupsResponse (t : Vw) : CA Tryd.prog 48 [] t fun u r => True := by
  refine ca_enter Tryd.func48 rfl Tryd.ntmps48 rfl ?_
  refine cd_sr ?_
  refine ln_pv (pv_assign rfl) rfl ?_
  refine ln_cd ?_
  refine cd_sr ?_
  refine ln_alloc tipub_kmsg_ListGroupsResponse rfl rfl (fun b1 => ?_)
  refine ln_cd ?_
  refine cd_sr ?_
  refine ln_callS en_89 rfl (fun u hu => dflt_ListGroupsResponse u _) rfl ?_
  refine ln_cd ?_
  refine cd_sr ?_
  refine ln_pv (pv_assign rfl) rfl ?_
  refine ln_cd ?_
  refine cd_ret ?_
  exact at_retA rfl rfl (fun w hS => trivial)
theorem max_ListGroupsResponse (t : Vw) : CS Tryd.prog 19 [] t (.int .i64 5) := by
  refine CA.cs ?_
  refine ca_enter Tryd.func19 rfl Tryd.ntmps19 rfl ?_
  refine cd_sr ?_
  refine ln_pv (pv_assign rfl) rfl ?_
  refine ln_cd ?_
  refine cd_sr ?_
  refine ln_callA en_48 rfl (fun u hu => newptr_ListGroupsResponse u) rfl (fun u1 v1 ht1 hR1 => ?_)
  refine ln_callS en_49 rfl (fun u hu => max_ver_ListGroupsResponse u _) rfl ?_
  refine ln_pv (pv_conv Tryd.underlying45 Tryd.underlying3 rfl) rfl ?_
  refine ln_pv (pv_assign rfl) rfl ?_
  refine ln_cd ?_
  refine cd_ret ?_
  exact at_retA rfl rfl (fun w hS => rfl)
end K
end Go.Proofs.YtjjfpdofkdolnaaDoor
