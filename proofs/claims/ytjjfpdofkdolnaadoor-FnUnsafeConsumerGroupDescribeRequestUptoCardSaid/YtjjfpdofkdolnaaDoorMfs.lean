import Derived.Test.YtjjfpdofkdolnaaDoorQ0
set_option linter.unusedVariables false
set_option linter.unusedSimpArgs false
namespace Go.Proofs.YtjjfpdofkdolnaaDoor
namespace K
open Go Go.Lib
def F_ConsumerGroupDescribeRequest : List Fld := [.mk 11 0 (-1) (-1) (-1) 0 8 [], .mk 0 0 (-1) (-1) (-1) 0 0 []]
theorem ok_F_ConsumerGroupDescribeRequest : okFs F_ConsumerGroupDescribeRequest = true ∧ ofOks F_ConsumerGroupDescribeRequest = true ∧ F_ConsumerGroupDescribeRequest.length < 1000000 := by decide
theorem max_ver_ConsumerGroupDescribeRequest (t : Vw) (p : Value) : CS Tryd.prog 36 [p] t (.int .i16 1) := by
  refine CA.cs ?_
  refine ca_enter Tryd.func36 rfl Tryd.ntmps36 rfl ?_
  refine cd_sr ?_
  refine ln_pv (pv_assign rfl) rfl ?_
  refine ln_cd ?_
  refine cd_sr ?_
  refine ln_pv (pv_assign rfl) rfl ?_
  refine ln_cd ?_
  refine cd_ret ?_
  exact at_retA rfl rfl (fun w hS => rfl)
theorem dflt_ConsumerGroupDescribeRequest (t : Vw) (p : Value) : CS Tryd.prog 79 [p] t (.tuple #[]) := by
  refine CA.cs ?_
  refine ca_enter Tryd.func79 rfl Tryd.ntmps79 rfl ?_
  refine cd_skip ?_
  exact at_retA0 rfl (fun w hS => rfl)
theorem newptr_ConsumerGroupDescribeRequest (t : Vw) : CA Tryd.prog 35 [] t fun u r => True := by
  refine ca_enter Tryd.func35 rfl Tryd.ntmps35 rfl ?_
  refine cd_sr ?_
  refine ln_pv (pv_assign rfl) rfl ?_
  refine ln_cd ?_
  refine cd_sr ?_
  refine ln_alloc tipub_kmsg_ConsumerGroupDescribeRequest rfl rfl (fun b1 => ?_)
  refine ln_cd ?_
  refine cd_sr ?_
  refine ln_callS en_79 rfl (fun u hu => dflt_ConsumerGroupDescribeRequest u _) rfl ?_
  refine ln_cd ?_
  refine cd_sr ?_
  refine ln_pv (pv_assign rfl) rfl ?_
  refine ln_cd ?_
  refine cd_ret ?_
  exact at_retA rfl rfl (fun w hS => trivial)
theorem max_ConsumerGroupDescribeRequest (t : Vw) : CS Tryd.prog 10 [] t (.int .i64 1) := by
  refine CA.cs ?_
  refine ca_enter Tryd.func10 rfl Tryd.ntmps10 rfl ?_
  refine cd_sr ?_
  refine ln_pv (pv_assign rfl) rfl ?_
  refine ln_cd ?_
  refine cd_sr ?_
  refine ln_callA en_35 rfl (fun u hu => newptr_ConsumerGroupDescribeRequest u) rfl (fun u1 v1 ht1 hR1 => ?_)
  refine ln_callS en_36 rfl (fun u hu => max_ver_ConsumerGroupDescribeRequest u _) rfl ?_
  refine ln_pv (pv_conv Tryd.underlying45 Tryd.underlying3 rfl) rfl ?_
  refine ln_pv (pv_assign rfl) rfl ?_
  refine ln_cd ?_
  refine cd_ret ?_
  exact at_retA rfl rfl (fun w hS => rfl)
end K
end Go.Proofs.YtjjfpdofkdolnaaDoor
