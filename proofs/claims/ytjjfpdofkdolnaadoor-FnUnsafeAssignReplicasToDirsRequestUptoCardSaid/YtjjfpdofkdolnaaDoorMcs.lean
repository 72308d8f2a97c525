import Derived.Test.YtjjfpdofkdolnaaDoorQ0
set_option linter.unusedVariables false
set_option linter.unusedSimpArgs false
namespace Go.Proofs.YtjjfpdofkdolnaaDoor
namespace K
open Go Go.Lib
def F_sAssignReplicasToDirsRequestDirectoryTopicPartition : List Fld := [.mk 3 0 (-1) (-1) (-1) 0 0 []]
def F_sAssignReplicasToDirsRequestDirectoryTopic : List Fld := [.mk 7 0 (-1) (-1) (-1) 0 0 [], .mk 11 0 (-1) (-1) (-1) 0 10 F_sAssignReplicasToDirsRequestDirectoryTopicPartition]
def F_sAssignReplicasToDirsRequestDirectory : List Fld := [.mk 7 0 (-1) (-1) (-1) 0 0 [], .mk 11 0 (-1) (-1) (-1) 0 10 F_sAssignReplicasToDirsRequestDirectoryTopic]
def F_AssignReplicasToDirsRequest : List Fld := [.mk 3 0 (-1) (-1) (-1) 0 0 [], .mk 4 0 (-1) (-1) (-1) (-1) 0 [], .mk 11 0 (-1) (-1) (-1) 0 10 F_sAssignReplicasToDirsRequestDirectory]
theorem ok_F_AssignReplicasToDirsRequest : okFs F_AssignReplicasToDirsRequest = true ∧ ofOks F_AssignReplicasToDirsRequest = true ∧ F_AssignReplicasToDirsRequest.length < 1000000 := by decide
theorem max_ver_AssignReplicasToDirsRequest (t : Vw) (p : Value) : CS Tryd.prog 55 [p] t (.int .i16 0) := by
  refine CA.cs ?_
  refine ca_enter Tryd.func55 rfl Tryd.ntmps55 rfl ?_
  refine cd_sr ?_
  refine ln_pv (pv_assign rfl) rfl ?_
  refine ln_cd ?_
  refine cd_sr ?_
  refine ln_pv (pv_assign rfl) rfl ?_
  refine ln_cd ?_
  refine cd_ret ?_
  exact at_retA rfl rfl (fun w hS => rfl)
theorem dflt_AssignReplicasToDirsRequest (t : Vw) (b : Nat) (hok : (.obj b (.cells ([.int .i16 0, .int .i32 0, .int .i64 0, .slice none 0 0, .map none] : List Value).toArray 114) : Ent).ok t.w) (hav : ∀ q ∈ (.obj b (.cells ([.int .i16 0, .int .i32 0, .int .i64 0, .slice none 0 0, .map none] : List Value).toArray 114) : Ent).blk, t.av q) : CT Tryd.prog 93 [.pointer (some ⟨b, 0, none⟩)] t (.obj b (.cells ([.int .i16 0, .int .i32 0, .int .i64 0, .slice none 0 0, .map none] : List Value).toArray 114) : Ent) fun u r e' => ∃ M : List Value, e' = .obj b (.cells M.toArray 114) := by
  refine ct_enter Tryd.func93 rfl Tryd.ntmps93 rfl hok hav (by simp [Ent.blk]) ?_
  refine cd_region ?_
  refine ln_pv (pv_move rfl) rfl ?_
  refine ln_pv (pv_nilCheck rfl) rfl ?_
  refine ln_pv (pv_fieldAddr (off := 2) (r := 2) Tryd.underlying114 rfl (tiint64).size rfl rfl rfl) rfl ?_
  refine ln_store1 (i := 0) rfl rfl rfl rfl (tiint64).size rfl ?_
  refine ln_nil ?_
  exact at_retT0 (i := 0) rfl rfl (fun w hS => ⟨_, rfl⟩)
theorem newptr_AssignReplicasToDirsRequest (t : Vw) : CA Tryd.prog 54 [] t fun u r => True := by
  refine ca_enter Tryd.func54 rfl Tryd.ntmps54 rfl ?_
  refine cd_sr ?_
  refine ln_pv (pv_assign rfl) rfl ?_
  refine ln_cd ?_
  refine cd_sr ?_
  refine ln_alloc tipub_kmsg_AssignReplicasToDirsRequest rfl rfl (fun b1 => ?_)
  refine ln_cd ?_
  refine cd_sr ?_
  refine ln_callT (i := 0) en_93 rfl rfl (fun u hu hok hav => dflt_AssignReplicasToDirsRequest u _ hok hav) rfl ?_
  rintro u1 v1 _ ht1 ⟨_, ⟨M1, rfl⟩, _⟩
  refine ln_cd ?_
  refine cd_sr ?_
  refine ln_pv (pv_assign rfl) rfl ?_
  refine ln_cd ?_
  refine cd_ret ?_
  exact at_retA rfl rfl (fun w hS => trivial)
theorem max_AssignReplicasToDirsRequest (t : Vw) : CS Tryd.prog 22 [] t (.int .i64 0) := by
  refine CA.cs ?_
  refine ca_enter Tryd.func22 rfl Tryd.ntmps22 rfl ?_
  refine cd_sr ?_
  refine ln_pv (pv_assign rfl) rfl ?_
  refine ln_cd ?_
  refine cd_sr ?_
  refine ln_callA en_54 rfl (fun u hu => newptr_AssignReplicasToDirsRequest u) rfl (fun u1 v1 ht1 hR1 => ?_)
  refine ln_callS en_55 rfl (fun u hu => max_ver_AssignReplicasToDirsRequest u _) rfl ?_
  refine ln_pv (pv_conv Tryd.underlying45 Tryd.underlying3 rfl) rfl ?_
  refine ln_pv (pv_assign rfl) rfl ?_
  refine ln_cd ?_
  refine cd_ret ?_
  exact at_retA rfl rfl (fun w hS => rfl)
end K
end Go.Proofs.YtjjfpdofkdolnaaDoor
