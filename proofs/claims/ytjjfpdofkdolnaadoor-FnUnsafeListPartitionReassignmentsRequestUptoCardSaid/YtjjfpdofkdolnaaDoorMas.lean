import Derived.Test.YtjjfpdofkdolnaaDoorQ0
set_option linter.unusedVariables false
set_option linter.unusedSimpArgs false
namespace Go.Proofs.YtjjfpdofkdolnaaDoor
namespace K
open Go Go.Lib
def F_sListPartitionReassignmentsRequestTopic : List Fld := [.mk 8 0 (-1) (-1) (-1) 0 0 [], .mk 11 0 (-1) (-1) (-1) 0 3 []]
def F_ListPartitionReassignmentsRequest : List Fld := [.mk 3 0 (-1) (-1) (-1) 60000 0 [], .mk 11 0 (-1) 0 (-1) 0 10 F_sListPartitionReassignmentsRequestTopic]
theorem ok_F_ListPartitionReassignmentsRequest : okFs F_ListPartitionReassignmentsRequest = true ∧ ofOks F_ListPartitionReassignmentsRequest = true ∧ F_ListPartitionReassignmentsRequest.length < 1000000 := by decide
theorem max_ver_ListPartitionReassignmentsRequest (t : Vw) (p : Value) : CS Tryd.prog 43 [p] t (.int .i16 0) := by
  refine CA.cs ?_
  refine ca_enter Tryd.func43 rfl Tryd.ntmps43 rfl ?_
  refine cd_sr ?_
  refine ln_pv (pv_assign rfl) rfl ?_
  refine ln_cd ?_
  refine cd_sr ?_
  refine ln_pv (pv_assign rfl) rfl ?_
  refine ln_cd ?_
  refine cd_ret ?_
  exact at_retA rfl rfl (fun w hS => rfl)
theorem dflt_ListPartitionReassignmentsRequest (t : Vw) (b : Nat) (hok : (.obj b (.cells ([.int .i16 0, .int .i32 0, .slice none 0 0, .map none] : List Value).toArray 99) : Ent).ok t.w) (hav : ∀ q ∈ (.obj b (.cells ([.int .i16 0, .int .i32 0, .slice none 0 0, .map none] : List Value).toArray 99) : Ent).blk, t.av q) : CT Tryd.prog 85 [.pointer (some ⟨b, 0, none⟩)] t (.obj b (.cells ([.int .i16 0, .int .i32 0, .slice none 0 0, .map none] : List Value).toArray 99) : Ent) fun u r e' => ∃ M : List Value, e' = .obj b (.cells M.toArray 99) := by
  refine ct_enter Tryd.func85 rfl Tryd.ntmps85 rfl hok hav (by simp [Ent.blk]) ?_
  refine cd_region ?_
  refine ln_pv (pv_move rfl) rfl ?_
  refine ln_pv (pv_nilCheck rfl) rfl ?_
  refine ln_pv (pv_fieldAddr (off := 1) (r := 1) Tryd.underlying99 rfl (tiint32).size rfl rfl rfl) rfl ?_
  refine ln_store1 (i := 0) rfl rfl rfl rfl (tiint32).size rfl ?_
  refine ln_nil ?_
  exact at_retT0 (i := 0) rfl rfl (fun w hS => ⟨_, rfl⟩)
theorem newptr_ListPartitionReassignmentsRequest (t : Vw) : CA Tryd.prog 42 [] t fun u r => True := by
  refine ca_enter Tryd.func42 rfl Tryd.ntmps42 rfl ?_
  refine cd_sr ?_
  refine ln_pv (pv_assign rfl) rfl ?_
  refine ln_cd ?_
  refine cd_sr ?_
  refine ln_alloc tipub_kmsg_ListPartitionReassignmentsRequest rfl rfl (fun b1 => ?_)
  refine ln_cd ?_
  refine cd_sr ?_
  refine ln_callT (i := 0) en_85 rfl rfl (fun u hu hok hav => dflt_ListPartitionReassignmentsRequest u _ hok hav) rfl ?_
  rintro u1 v1 _ ht1 ⟨_, ⟨M1, rfl⟩, _⟩
  refine ln_cd ?_
  refine cd_sr ?_
  refine ln_pv (pv_assign rfl) rfl ?_
  refine ln_cd ?_
  refine cd_ret ?_
  exact at_retA rfl rfl (fun w hS => trivial)
theorem max_ListPartitionReassignmentsRequest (t : Vw) : CS Tryd.prog 16 [] t (.int .i64 0) := by
  refine CA.cs ?_
  refine ca_enter Tryd.func16 rfl Tryd.ntmps16 rfl ?_
  refine cd_sr ?_
  refine ln_pv (pv_assign rfl) rfl ?_
  refine ln_cd ?_
  refine cd_sr ?_
  refine ln_callA en_42 rfl (fun u hu => newptr_ListPartitionReassignmentsRequest u) rfl (fun u1 v1 ht1 hR1 => ?_)
  refine ln_callS en_43 rfl (fun u hu => max_ver_ListPartitionReassignmentsRequest u _) rfl ?_
  refine ln_pv (pv_conv Tryd.underlying45 Tryd.underlying3 rfl) rfl ?_
  refine ln_pv (pv_assign rfl) rfl ?_
  refine ln_cd ?_
  refine cd_ret ?_
  exact at_retA rfl rfl (fun w hS => rfl)
end K
end Go.Proofs.YtjjfpdofkdolnaaDoor
