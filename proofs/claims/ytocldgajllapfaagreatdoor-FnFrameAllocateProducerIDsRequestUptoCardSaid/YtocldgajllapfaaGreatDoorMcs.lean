import Derived.Test.YtocldgajllapfaaGreatDoorQ0
set_option linter.unusedVariables false
set_option linter.unusedSimpArgs false
namespace Go.Proofs.YtocldgajllapfaaGreatDoor
namespace K
open Go Go.Lib
def F_AllocateProducerIDsRequest : List Fld := [.mk 3 0 (-1) (-1) (-1) 0 0 [], .mk 4 0 (-1) (-1) (-1) (-1) 0 []]
theorem sch_F_AllocateProducerIDsRequest (t : Vw) : CA Tryz.prog 20 [] t fun u r => ∃ sv lc, r = .agg #[sv, .int .i64 (0)] ∧ RS u 8 sv F_AllocateProducerIDsRequest.length lc ∧ RFs u F_AllocateProducerIDsRequest lc := by
  refine ca_enter Tryz.func20 rfl Tryz.ntmps20 rfl ?_
  refine cd_sr ?_
  refine ln_alloc tispec_Message rfl rfl (fun b1 => ?_)
  refine ln_cd ?_
  refine cd_sr ?_
  refine ln_pv (pv_struct [(0, 1), (1, 1), (2, 1), (3, 1), (4, 1), (5, 1), (6, 1), (7, 1)] (l := [_, _, _, _, _, _, _, _]) rfl Tryz.underlying50 tispec_Field (by kernel_rfl) rfl rfl) rfl ?_
  refine ln_pv (pv_struct [(0, 1), (1, 1), (2, 1), (3, 1), (4, 1), (5, 1), (6, 1), (7, 1)] (l := [_, _, _, _, _, _, _, _]) rfl Tryz.underlying50 tispec_Field (by kernel_rfl) rfl rfl) rfl ?_
  refine ln_lit (vs := [_, _]) Tryz.underlying32 tispec_Field rfl (by decide) rfl rfl rfl rfl rfl rfl (fun b2 => ?_)
  refine ln_pv (pv_struct [(0, 1), (1, 1)] (l := [_, _]) rfl Tryz.underlying34 tispec_Message (by kernel_rfl) rfl rfl) rfl ?_
  refine ln_storeW (i := 1) rfl rfl rfl rfl (tispec_Message).size rfl (by simp []) ?_
  refine ln_cd ?_
  refine cd_ret ?_
  refine at_retC (i := 1) rfl rfl rfl Tryz.underlying34 rfl tispec_Message.size rfl (fun w hS => ?_)
  exact ⟨_, _, rfl, obj_rs hS (i := 0) (m := 2) (sz := 8) rfl rfl (by simp [flat, Value.cells]), (RFs.leaf (RFs.leaf rfl))⟩
theorem ok_F_AllocateProducerIDsRequest : okFs F_AllocateProducerIDsRequest = true ∧ ofOks F_AllocateProducerIDsRequest = true ∧ F_AllocateProducerIDsRequest.length < 1000000 := by decide
theorem max_ver_AllocateProducerIDsRequest (t : Vw) (p : Value) : CS Tryz.prog 35 [p] t (.int .i16 0) := by
  refine CA.cs ?_
  refine ca_enter Tryz.func35 rfl Tryz.ntmps35 rfl ?_
  refine cd_sr ?_
  refine ln_pv (pv_assign rfl) rfl ?_
  refine ln_cd ?_
  refine cd_sr ?_
  refine ln_pv (pv_assign rfl) rfl ?_
  refine ln_cd ?_
  refine cd_ret ?_
  exact at_retA rfl rfl (fun w hS => rfl)
theorem dflt_AllocateProducerIDsRequest (t : Vw) (b : Nat) (hok : (.obj b (.cells ([.int .i16 0, .int .i32 0, .int .i64 0, .map none] : List Value).toArray 92) : Ent).ok t.w) (hav : ∀ q ∈ (.obj b (.cells ([.int .i16 0, .int .i32 0, .int .i64 0, .map none] : List Value).toArray 92) : Ent).blk, t.av q) : CT Tryz.prog 54 [.pointer (some ⟨b, 0, none⟩)] t (.obj b (.cells ([.int .i16 0, .int .i32 0, .int .i64 0, .map none] : List Value).toArray 92) : Ent) fun u r e' => ∃ M : List Value, e' = .obj b (.cells M.toArray 92) := by
  refine ct_enter Tryz.func54 rfl Tryz.ntmps54 rfl hok hav (by simp [Ent.blk]) ?_
  refine cd_region ?_
  refine ln_pv (pv_move rfl) rfl ?_
  refine ln_pv (pv_nilCheck rfl) rfl ?_
  refine ln_pv (pv_fieldAddr (off := 2) (r := 2) Tryz.underlying92 rfl (tiint64).size rfl rfl rfl) rfl ?_
  refine ln_store1 (i := 0) rfl rfl rfl rfl (tiint64).size rfl ?_
  refine ln_nil ?_
  exact at_retT0 (i := 0) rfl rfl (fun w hS => ⟨_, rfl⟩)
theorem newptr_AllocateProducerIDsRequest (t : Vw) : CA Tryz.prog 34 [] t fun u r => True := by
  refine ca_enter Tryz.func34 rfl Tryz.ntmps34 rfl ?_
  refine cd_sr ?_
  refine ln_pv (pv_assign rfl) rfl ?_
  refine ln_cd ?_
  refine cd_sr ?_
  refine ln_alloc tipub_kmsg_AllocateProducerIDsRequest rfl rfl (fun b1 => ?_)
  refine ln_cd ?_
  refine cd_sr ?_
  refine ln_callT (i := 0) en_54 rfl rfl (fun u hu hok hav => dflt_AllocateProducerIDsRequest u _ hok hav) rfl ?_
  rintro u1 v1 _ ht1 ⟨_, ⟨M1, rfl⟩, _⟩
  refine ln_cd ?_
  refine cd_sr ?_
  refine ln_pv (pv_assign rfl) rfl ?_
  refine ln_cd ?_
  refine cd_ret ?_
  exact at_retA rfl rfl (fun w hS => trivial)
theorem max_AllocateProducerIDsRequest (t : Vw) : CS Tryz.prog 19 [] t (.int .i64 0) := by
  refine CA.cs ?_
  refine ca_enter Tryz.func19 rfl Tryz.ntmps19 rfl ?_
  refine cd_sr ?_
  refine ln_pv (pv_assign rfl) rfl ?_
  refine ln_cd ?_
  refine cd_sr ?_
  refine ln_callA en_34 rfl (fun u hu => newptr_AllocateProducerIDsRequest u) rfl (fun u1 v1 ht1 hR1 => ?_)
  refine ln_callS en_35 rfl (fun u hu => max_ver_AllocateProducerIDsRequest u _) rfl ?_
  refine ln_pv (pv_conv Tryz.underlying45 Tryz.underlying3 rfl) rfl ?_
  refine ln_pv (pv_assign rfl) rfl ?_
  refine ln_cd ?_
  refine cd_ret ?_
  exact at_retA rfl rfl (fun w hS => rfl)
end K
end Go.Proofs.YtocldgajllapfaaGreatDoor
