import Derived.Test.YtmknncmdbmnmgaaQ0
set_option linter.unusedVariables false
set_option linter.unusedSimpArgs false
namespace Go.Proofs.Ytmknncmdbmnmgaa
namespace K
open Go Go.Lib
def F_sDeleteRecordsResponseTopicPartition : List Fld := [.mk 3 0 (-1) (-1) (-1) 0 0 [], .mk 4 0 (-1) (-1) (-1) 0 0 [], .mk 2 0 (-1) (-1) (-1) 0 0 []]
theorem sch_F_sDeleteRecordsResponseTopicPartition (t : Vw) : CA Try.prog 176 [] t fun u r => ∃ lc, RS u 8 r F_sDeleteRecordsResponseTopicPartition.length lc ∧ RFs u F_sDeleteRecordsResponseTopicPartition lc := by
  refine ca_enter Try.func176 rfl Try.ntmps176 rfl ?_
  refine cd_sr ?_
  refine ln_pv (pv_assign rfl) rfl ?_
  refine ln_cd ?_
  refine cd_sr ?_
  refine ln_pv (pv_struct [(0, 1), (1, 1), (2, 1), (3, 1), (4, 1), (5, 1), (6, 1), (7, 1)] (l := [_, _, _, _, _, _, _, _]) rfl Try.underlying46 tispec_Field (by kernel_rfl) rfl rfl) rfl ?_
  refine ln_pv (pv_struct [(0, 1), (1, 1), (2, 1), (3, 1), (4, 1), (5, 1), (6, 1), (7, 1)] (l := [_, _, _, _, _, _, _, _]) rfl Try.underlying46 tispec_Field (by kernel_rfl) rfl rfl) rfl ?_
  refine ln_pv (pv_struct [(0, 1), (1, 1), (2, 1), (3, 1), (4, 1), (5, 1), (6, 1), (7, 1)] (l := [_, _, _, _, _, _, _, _]) rfl Try.underlying46 tispec_Field (by kernel_rfl) rfl rfl) rfl ?_
  refine ln_lit (vs := [_, _, _]) Try.underlying28 tispec_Field rfl (by decide) rfl rfl rfl rfl rfl rfl (fun b1 => ?_)
  refine ln_pv (pv_assign rfl) rfl ?_
  refine ln_cd ?_
  refine cd_ret ?_
  refine at_retA rfl rfl (fun w hS => ?_)
  exact ⟨_, obj_rs hS (i := 0) (m := 3) (sz := 8) rfl rfl (by simp [flat, Value.cells]), (RFs.leaf (RFs.leaf (RFs.leaf rfl)))⟩

def F_sDeleteRecordsResponseTopic : List Fld := [.mk 8 0 (-1) (-1) (-1) 0 0 [], .mk 11 0 (-1) (-1) (-1) 0 10 F_sDeleteRecordsResponseTopicPartition]
theorem sch_F_sDeleteRecordsResponseTopic (t : Vw) : CA Try.prog 104 [] t fun u r => ∃ lc, RS u 8 r F_sDeleteRecordsResponseTopic.length lc ∧ RFs u F_sDeleteRecordsResponseTopic lc := by
  refine ca_enter Try.func104 rfl Try.ntmps104 rfl ?_
  refine cd_sr ?_
  refine ln_pv (pv_assign rfl) rfl ?_
  refine ln_cd ?_
  refine cd_sr ?_
  refine ln_pv (pv_struct [(0, 1), (1, 1), (2, 1), (3, 1), (4, 1), (5, 1), (6, 1), (7, 1)] (l := [_, _, _, _, _, _, _, _]) rfl Try.underlying46 tispec_Field (by kernel_rfl) rfl rfl) rfl ?_
  refine ln_callA en_176 rfl (fun u hu => sch_F_sDeleteRecordsResponseTopicPartition u) rfl (fun u1 v1 ht1 hR1 => ?_)
  obtain ⟨lc1, hV1, hF1⟩ := hR1
  refine ln_pv (pv_struct [(0, 1), (1, 1), (2, 1), (3, 1), (4, 1), (5, 1), (6, 1), (7, 1)] (l := [_, _, _, _, _, _, _, _]) rfl Try.underlying46 tispec_Field (by kernel_rfl) rfl (by simp [okL, Nat.ble_eq, Value.cells, (RS.one hV1)])) rfl ?_
  refine ln_lit (vs := [_, _]) Try.underlying28 tispec_Field rfl (by decide) rfl rfl rfl rfl rfl rfl (fun b1 => ?_)
  refine ln_pv (pv_assign rfl) rfl ?_
  refine ln_cd ?_
  refine cd_ret ?_
  refine at_retA rfl rfl (fun w hS => ?_)
  exact ⟨_, obj_rs hS (i := 0) (m := 2) (sz := 8) rfl rfl (by simp [flat, Value.cells, RS.one hV1]), (RFs.leaf (RFs.part (RS.mv hV1 hS.trFin) (RFs.mv hF1 hS.trFin) rfl))⟩

def F_DeleteRecordsResponse : List Fld := [.mk 3 0 (-1) (-1) (-1) 0 0 [], .mk 11 0 (-1) (-1) (-1) 0 10 F_sDeleteRecordsResponseTopic]
theorem sch_F_DeleteRecordsResponse (t : Vw) : CA Try.prog 43 [] t fun u r => ∃ sv lc, r = .agg #[sv, .int .i64 (2)] ∧ RS u 8 sv F_DeleteRecordsResponse.length lc ∧ RFs u F_DeleteRecordsResponse lc := by
  refine ca_enter Try.func43 rfl Try.ntmps43 rfl ?_
  refine cd_sr ?_
  refine ln_alloc tispec_Message rfl rfl (fun b1 => ?_)
  refine ln_cd ?_
  refine cd_sr ?_
  refine ln_pv (pv_struct [(0, 1), (1, 1), (2, 1), (3, 1), (4, 1), (5, 1), (6, 1), (7, 1)] (l := [_, _, _, _, _, _, _, _]) rfl Try.underlying46 tispec_Field (by kernel_rfl) rfl rfl) rfl ?_
  refine ln_callA en_104 rfl (fun u hu => sch_F_sDeleteRecordsResponseTopic u) rfl (fun u1 v1 ht1 hR1 => ?_)
  obtain ⟨lc1, hV1, hF1⟩ := hR1
  refine ln_pv (pv_struct [(0, 1), (1, 1), (2, 1), (3, 1), (4, 1), (5, 1), (6, 1), (7, 1)] (l := [_, _, _, _, _, _, _, _]) rfl Try.underlying46 tispec_Field (by kernel_rfl) rfl (by simp [okL, Nat.ble_eq, Value.cells, (RS.one hV1)])) rfl ?_
  refine ln_lit (vs := [_, _]) Try.underlying28 tispec_Field rfl (by decide) rfl rfl rfl rfl rfl rfl (fun b2 => ?_)
  refine ln_pv (pv_struct [(0, 1), (1, 1)] (l := [_, _]) rfl Try.underlying30 tispec_Message (by kernel_rfl) rfl rfl) rfl ?_
  refine ln_storeW (i := 1) rfl rfl rfl rfl (tispec_Message).size rfl (by simp []) ?_
  refine ln_cd ?_
  refine cd_ret ?_
  refine at_retC (i := 1) rfl rfl rfl Try.underlying30 rfl tispec_Message.size rfl (fun w hS => ?_)
  exact ⟨_, _, rfl, obj_rs hS (i := 0) (m := 2) (sz := 8) rfl rfl (by simp [flat, Value.cells, RS.one hV1]), (RFs.leaf (RFs.part (RS.mv hV1 hS.trFin) (RFs.mv hF1 hS.trFin) rfl))⟩
theorem ok_F_DeleteRecordsResponse : okFs F_DeleteRecordsResponse = true ∧ ofOks F_DeleteRecordsResponse = true ∧ F_DeleteRecordsResponse.length < 1000000 := by decide
theorem max_ver_DeleteRecordsResponse (t : Vw) (p : Value) : CS Try.prog 103 [p] t (.int .i16 2) := by
  refine CA.cs ?_
  refine ca_enter Try.func103 rfl Try.ntmps103 rfl ?_
  refine cd_sr ?_
  refine ln_pv (pv_assign rfl) rfl ?_
  refine ln_cd ?_
  refine cd_sr ?_
  refine ln_pv (pv_assign rfl) rfl ?_
  refine ln_cd ?_
  refine cd_ret ?_
  exact at_retA rfl rfl (fun w hS => rfl)
theorem dflt_DeleteRecordsResponse (t : Vw) (p : Value) : CS Try.prog 175 [p] t (.tuple #[]) := by
  refine CA.cs ?_
  refine ca_enter Try.func175 rfl Try.ntmps175 rfl ?_
  refine cd_skip ?_
  exact at_retA0 rfl (fun w hS => rfl)
theorem newptr_DeleteRecordsResponse (t : Vw) : CA Try.prog 102 [] t fun u r => True := by
  refine ca_enter Try.func102 rfl Try.ntmps102 rfl ?_
  refine cd_sr ?_
  refine ln_pv (pv_assign rfl) rfl ?_
  refine ln_cd ?_
  refine cd_sr ?_
  refine ln_alloc tipub_kmsg_DeleteRecordsResponse rfl rfl (fun b1 => ?_)
  refine ln_cd ?_
  refine cd_sr ?_
  refine ln_callS en_175 rfl (fun u hu => dflt_DeleteRecordsResponse u _) rfl ?_
  refine ln_cd ?_
  refine cd_sr ?_
  refine ln_pv (pv_assign rfl) rfl ?_
  refine ln_cd ?_
  refine cd_ret ?_
  exact at_retA rfl rfl (fun w hS => trivial)
theorem max_DeleteRecordsResponse (t : Vw) : CS Try.prog 42 [] t (.int .i64 2) := by
  refine CA.cs ?_
  refine ca_enter Try.func42 rfl Try.ntmps42 rfl ?_
  refine cd_sr ?_
  refine ln_pv (pv_assign rfl) rfl ?_
  refine ln_cd ?_
  refine cd_sr ?_
  refine ln_callA en_102 rfl (fun u hu => newptr_DeleteRecordsResponse u) rfl (fun u1 v1 ht1 hR1 => ?_)
  refine ln_callS en_103 rfl (fun u hu => max_ver_DeleteRecordsResponse u _) rfl ?_
  refine ln_pv (pv_conv Try.underlying49 Try.underlying3 rfl) rfl ?_
  refine ln_pv (pv_assign rfl) rfl ?_
  refine ln_cd ?_
  refine cd_ret ?_
  exact at_retA rfl rfl (fun w hS => rfl)
end K
end Go.Proofs.Ytmknncmdbmnmgaa
