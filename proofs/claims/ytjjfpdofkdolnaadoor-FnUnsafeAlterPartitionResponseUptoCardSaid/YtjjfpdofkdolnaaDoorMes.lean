import Derived.Test.YtjjfpdofkdolnaaDoorQ0
set_option linter.unusedVariables false
set_option linter.unusedSimpArgs false
namespace Go.Proofs.YtjjfpdofkdolnaaDoor
namespace K
open Go Go.Lib
def F_sAlterPartitionResponseTopicPartition : List Fld := [.mk 3 0 (-1) (-1) (-1) 0 0 [], .mk 2 0 (-1) (-1) (-1) 0 0 [], .mk 3 0 (-1) (-1) (-1) 0 0 [], .mk 3 0 (-1) (-1) (-1) 0 0 [], .mk 11 0 (-1) (-1) (-1) 0 3 [], .mk 1 1 (-1) (-1) (-1) 0 0 [], .mk 3 0 (-1) (-1) (-1) 0 0 []]
def F_sAlterPartitionResponseTopic : List Fld := [.mk 8 0 1 (-1) (-1) 0 0 [], .mk 7 2 (-1) (-1) (-1) 0 0 [], .mk 11 0 (-1) (-1) (-1) 0 10 F_sAlterPartitionResponseTopicPartition]
def F_AlterPartitionResponse : List Fld := [.mk 3 0 (-1) (-1) (-1) 0 0 [], .mk 2 0 (-1) (-1) (-1) 0 0 [], .mk 11 0 (-1) (-1) (-1) 0 10 F_sAlterPartitionResponseTopic]
theorem ok_F_AlterPartitionResponse : okFs F_AlterPartitionResponse = true ∧ ofOks F_AlterPartitionResponse = true ∧ F_AlterPartitionResponse.length < 1000000 := by decide
theorem max_ver_AlterPartitionResponse (t : Vw) (p : Value) : CS Tryd.prog 67 [p] t (.int .i16 3) := by
  refine CA.cs ?_
  refine ca_enter Tryd.func67 rfl Tryd.ntmps67 rfl ?_
  refine cd_sr ?_
  refine ln_pv (pv_assign rfl) rfl ?_
  refine ln_cd ?_
  refine cd_sr ?_
  refine ln_pv (pv_assign rfl) rfl ?_
  refine ln_cd ?_
  refine cd_ret ?_
  exact at_retA rfl rfl (fun w hS => rfl)
theorem dflt_AlterPartitionResponse (t : Vw) (p : Value) : CS Tryd.prog 101 [p] t (.tuple #[]) := by
  refine CA.cs ?_
  refine ca_enter Tryd.func101 rfl Tryd.ntmps101 rfl ?_
  refine cd_skip ?_
  exact at_retA0 rfl (fun w hS => rfl)
theorem newptr_AlterPartitionResponse (t : Vw) : CA Tryd.prog 66 [] t fun u r => True := by
  refine ca_enter Tryd.func66 rfl Tryd.ntmps66 rfl ?_
  refine cd_sr ?_
  refine ln_pv (pv_assign rfl) rfl ?_
  refine ln_cd ?_
  refine cd_sr ?_
  refine ln_alloc tipub_kmsg_AlterPartitionResponse rfl rfl (fun b1 => ?_)
  refine ln_cd ?_
  refine cd_sr ?_
  refine ln_callS en_101 rfl (fun u hu => dflt_AlterPartitionResponse u _) rfl ?_
  refine ln_cd ?_
  refine cd_sr ?_
  refine ln_pv (pv_assign rfl) rfl ?_
  refine ln_cd ?_
  refine cd_ret ?_
  exact at_retA rfl rfl (fun w hS => trivial)
theorem max_AlterPartitionResponse (t : Vw) : CS Tryd.prog 28 [] t (.int .i64 3) := by
  refine CA.cs ?_
  refine ca_enter Tryd.func28 rfl Tryd.ntmps28 rfl ?_
  refine cd_sr ?_
  refine ln_pv (pv_assign rfl) rfl ?_
  refine ln_cd ?_
  refine cd_sr ?_
  refine ln_callA en_66 rfl (fun u hu => newptr_AlterPartitionResponse u) rfl (fun u1 v1 ht1 hR1 => ?_)
  refine ln_callS en_67 rfl (fun u hu => max_ver_AlterPartitionResponse u _) rfl ?_
  refine ln_pv (pv_conv Tryd.underlying45 Tryd.underlying3 rfl) rfl ?_
  refine ln_pv (pv_assign rfl) rfl ?_
  refine ln_cd ?_
  refine cd_ret ?_
  exact at_retA rfl rfl (fun w hS => rfl)
end K
end Go.Proofs.YtjjfpdofkdolnaaDoor
