import Derived.Test.YtoledocfkjohhabQ0
set_option linter.unusedVariables false
set_option linter.unusedSimpArgs false
namespace Go.Proofs.Ytoledocfkjohhab
namespace K
open Go Go.Lib
def F_sDescribeProducersRequestTopic : List Fld := [.mk 8 0 (-1) (-1) (-1) 0 0 [], .mk 11 0 (-1) (-1) (-1) 0 3 []]
theorem sch_F_sDescribeProducersRequestTopic (t : Vw) : CA Try.prog 31 [] t fun u r => ∃ lc, RS u 8 r F_sDescribeProducersRequestTopic.length lc ∧ RFs u F_sDescribeProducersRequestTopic lc := by
  refine ca_enter Try.func31 rfl Try.ntmps31 rfl ?_
  refine cd_sr ?_
  refine ln_pv (pv_assign rfl) rfl ?_
  refine ln_cd ?_
  refine cd_sr ?_
  refine ln_pv (pv_struct [(0, 1), (1, 1), (2, 1), (3, 1), (4, 1), (5, 1), (6, 1), (7, 1)] (l := [_, _, _, _, _, _, _, _]) rfl Try.underlying50 tispec_Field (by kernel_rfl) rfl rfl) rfl ?_
  refine ln_pv (pv_struct [(0, 1), (1, 1), (2, 1), (3, 1), (4, 1), (5, 1), (6, 1), (7, 1)] (l := [_, _, _, _, _, _, _, _]) rfl Try.underlying50 tispec_Field (by kernel_rfl) rfl rfl) rfl ?_
  refine ln_lit (vs := [_, _]) Try.underlying29 tispec_Field rfl (by decide) rfl rfl rfl rfl rfl rfl (fun b1 => ?_)
  refine ln_pv (pv_assign rfl) rfl ?_
  refine ln_cd ?_
  refine cd_ret ?_
  refine at_retA rfl rfl (fun w hS => ?_)
  exact ⟨_, obj_rs hS (i := 0) (m := 2) (sz := 8) rfl rfl (by simp [flat, Value.cells]), (RFs.leaf (RFs.leaf rfl))⟩

def F_DescribeProducersRequest : List Fld := [.mk 11 0 (-1) (-1) (-1) 0 10 F_sDescribeProducersRequestTopic]
theorem sch_F_DescribeProducersRequest (t : Vw) : CA Try.prog 15 [] t fun u r => ∃ sv lc, r = .agg #[sv, .int .i64 (0)] ∧ RS u 8 sv F_DescribeProducersRequest.length lc ∧ RFs u F_DescribeProducersRequest lc := by
  refine ca_enter Try.func15 rfl Try.ntmps15 rfl ?_
  refine cd_sr ?_
  refine ln_alloc tispec_Message rfl rfl (fun b1 => ?_)
  refine ln_cd ?_
  refine cd_sr ?_
  refine ln_callA en_31 rfl (fun u hu => sch_F_sDescribeProducersRequestTopic u) rfl (fun u1 v1 ht1 hR1 => ?_)
  obtain ⟨lc1, hV1, hF1⟩ := hR1
  refine ln_pv (pv_struct [(0, 1), (1, 1), (2, 1), (3, 1), (4, 1), (5, 1), (6, 1), (7, 1)] (l := [_, _, _, _, _, _, _, _]) rfl Try.underlying50 tispec_Field (by kernel_rfl) rfl (by simp [okL, Nat.ble_eq, Value.cells, (RS.one hV1)])) rfl ?_
  refine ln_lit (vs := [_]) Try.underlying29 tispec_Field rfl (by decide) rfl rfl rfl rfl rfl rfl (fun b2 => ?_)
  refine ln_pv (pv_struct [(0, 1), (1, 1)] (l := [_, _]) rfl Try.underlying31 tispec_Message (by kernel_rfl) rfl rfl) rfl ?_
  refine ln_storeW (i := 1) rfl rfl rfl rfl (tispec_Message).size rfl (by simp []) ?_
  refine ln_cd ?_
  refine cd_ret ?_
  refine at_retC (i := 1) rfl rfl rfl Try.underlying31 rfl tispec_Message.size rfl (fun w hS => ?_)
  exact ⟨_, _, rfl, obj_rs hS (i := 0) (m := 1) (sz := 8) rfl rfl (by simp [flat, Value.cells, RS.one hV1]), (RFs.part (RS.mv hV1 hS.trFin) (RFs.mv hF1 hS.trFin) rfl)⟩
theorem ok_F_DescribeProducersRequest : okFs F_DescribeProducersRequest = true ∧ ofOks F_DescribeProducersRequest = true ∧ F_DescribeProducersRequest.length < 1000000 := by decide
theorem max_ver_DescribeProducersRequest (t : Vw) (p : Value) : CS Try.prog 30 [p] t (.int .i16 0) := by
  refine CA.cs ?_
  refine ca_enter Try.func30 rfl Try.ntmps30 rfl ?_
  refine cd_sr ?_
  refine ln_pv (pv_assign rfl) rfl ?_
  refine ln_cd ?_
  refine cd_sr ?_
  refine ln_pv (pv_assign rfl) rfl ?_
  refine ln_cd ?_
  refine cd_ret ?_
  exact at_retA rfl rfl (fun w hS => rfl)
theorem dflt_DescribeProducersRequest (t : Vw) (p : Value) : CS Try.prog 56 [p] t (.tuple #[]) := by
  refine CA.cs ?_
  refine ca_enter Try.func56 rfl Try.ntmps56 rfl ?_
  refine cd_skip ?_
  exact at_retA0 rfl (fun w hS => rfl)
theorem newptr_DescribeProducersRequest (t : Vw) : CA Try.prog 29 [] t fun u r => True := by
  refine ca_enter Try.func29 rfl Try.ntmps29 rfl ?_
  refine cd_sr ?_
  refine ln_pv (pv_assign rfl) rfl ?_
  refine ln_cd ?_
  refine cd_sr ?_
  refine ln_alloc tipub_kmsg_DescribeProducersRequest rfl rfl (fun b1 => ?_)
  refine ln_cd ?_
  refine cd_sr ?_
  refine ln_callS en_56 rfl (fun u hu => dflt_DescribeProducersRequest u _) rfl ?_
  refine ln_cd ?_
  refine cd_sr ?_
  refine ln_pv (pv_assign rfl) rfl ?_
  refine ln_cd ?_
  refine cd_ret ?_
  exact at_retA rfl rfl (fun w hS => trivial)
theorem max_DescribeProducersRequest (t : Vw) : CS Try.prog 14 [] t (.int .i64 0) := by
  refine CA.cs ?_
  refine ca_enter Try.func14 rfl Try.ntmps14 rfl ?_
  refine cd_sr ?_
  refine ln_pv (pv_assign rfl) rfl ?_
  refine ln_cd ?_
  refine cd_sr ?_
  refine ln_callA en_29 rfl (fun u hu => newptr_DescribeProducersRequest u) rfl (fun u1 v1 ht1 hR1 => ?_)
  refine ln_callS en_30 rfl (fun u hu => max_ver_DescribeProducersRequest u _) rfl ?_
  refine ln_pv (pv_conv Try.underlying45 Try.underlying3 rfl) rfl ?_
  refine ln_pv (pv_assign rfl) rfl ?_
  refine ln_cd ?_
  refine cd_ret ?_
  exact at_retA rfl rfl (fun w hS => rfl)
end K
end Go.Proofs.Ytoledocfkjohhab
