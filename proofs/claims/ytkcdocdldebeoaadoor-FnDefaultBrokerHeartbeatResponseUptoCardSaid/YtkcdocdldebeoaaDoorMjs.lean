import Derived.Test.YtkcdocdldebeoaaDoorQ0
set_option linter.unusedVariables false
set_option linter.unusedSimpArgs false
namespace Go.Proofs.YtkcdocdldebeoaaDoor
namespace K
open Go Go.Lib
def F_BrokerHeartbeatResponse : List Fld := [.mk 3 0 (-1) (-1) (-1) 0 0 [], .mk 2 0 (-1) (-1) (-1) 0 0 [], .mk 0 0 (-1) (-1) (-1) 0 0 [], .mk 0 0 (-1) (-1) (-1) 1 0 [], .mk 0 0 (-1) (-1) (-1) 0 0 []]
theorem sch_F_BrokerHeartbeatResponse (t : Vw) : CA Tryd.prog 15 [] t fun u r => ∃ sv lc, r = .agg #[sv, .int .i64 (0)] ∧ RS u 8 sv F_BrokerHeartbeatResponse.length lc ∧ RFs u F_BrokerHeartbeatResponse lc := by
  refine ca_enter Tryd.func15 rfl Tryd.ntmps15 rfl ?_
  refine cd_sr ?_
  refine ln_alloc tispec_Message rfl rfl (fun b1 => ?_)
  refine ln_cd ?_
  refine cd_sr ?_
  refine ln_pv (pv_struct [(0, 1), (1, 1), (2, 1), (3, 1), (4, 1), (5, 1), (6, 1), (7, 1)] (l := [_, _, _, _, _, _, _, _]) rfl Tryd.underlying54 tispec_Field (by kernel_rfl) rfl rfl) rfl ?_
  refine ln_pv (pv_struct [(0, 1), (1, 1), (2, 1), (3, 1), (4, 1), (5, 1), (6, 1), (7, 1)] (l := [_, _, _, _, _, _, _, _]) rfl Tryd.underlying54 tispec_Field (by kernel_rfl) rfl rfl) rfl ?_
  refine ln_pv (pv_struct [(0, 1), (1, 1), (2, 1), (3, 1), (4, 1), (5, 1), (6, 1), (7, 1)] (l := [_, _, _, _, _, _, _, _]) rfl Tryd.underlying54 tispec_Field (by kernel_rfl) rfl rfl) rfl ?_
  refine ln_pv (pv_struct [(0, 1), (1, 1), (2, 1), (3, 1), (4, 1), (5, 1), (6, 1), (7, 1)] (l := [_, _, _, _, _, _, _, _]) rfl Tryd.underlying54 tispec_Field (by kernel_rfl) rfl rfl) rfl ?_
  refine ln_pv (pv_struct [(0, 1), (1, 1), (2, 1), (3, 1), (4, 1), (5, 1), (6, 1), (7, 1)] (l := [_, _, _, _, _, _, _, _]) rfl Tryd.underlying54 tispec_Field (by kernel_rfl) rfl rfl) rfl ?_
  refine ln_lit (vs := [_, _, _, _, _]) Tryd.underlying29 tispec_Field rfl (by decide) rfl rfl rfl rfl rfl rfl (fun b2 => ?_)
  refine ln_pv (pv_struct [(0, 1), (1, 1)] (l := [_, _]) rfl Tryd.underlying31 tispec_Message (by kernel_rfl) rfl rfl) rfl ?_
  refine ln_storeW (i := 1) rfl rfl rfl rfl (tispec_Message).size rfl (by simp []) ?_
  refine ln_cd ?_
  refine cd_ret ?_
  refine at_retC (i := 1) rfl rfl rfl Tryd.underlying31 rfl tispec_Message.size rfl (fun w hS => ?_)
  exact ⟨_, _, rfl, obj_rs hS (i := 0) (m := 5) (sz := 8) rfl rfl (by simp [flat, Value.cells]), (RFs.leaf (RFs.leaf (RFs.leaf (RFs.leaf (RFs.leaf rfl)))))⟩
theorem ok_F_BrokerHeartbeatResponse : okFs F_BrokerHeartbeatResponse = true ∧ ofOks F_BrokerHeartbeatResponse = true ∧ F_BrokerHeartbeatResponse.length < 1000000 := by decide
theorem max_ver_BrokerHeartbeatResponse (t : Vw) (p : Value) : CS Tryd.prog 32 [p] t (.int .i16 2) := by
  refine CA.cs ?_
  refine ca_enter Tryd.func32 rfl Tryd.ntmps32 rfl ?_
  refine cd_sr ?_
  refine ln_pv (pv_assign rfl) rfl ?_
  refine ln_cd ?_
  refine cd_sr ?_
  refine ln_pv (pv_assign rfl) rfl ?_
  refine ln_cd ?_
  refine cd_ret ?_
  exact at_retA rfl rfl (fun w hS => rfl)
theorem dflt_BrokerHeartbeatResponse (t : Vw) (b : Nat) (hok : (.obj b (.cells ([.int .i16 0, .int .i32 0, .int .i16 0, .bool false, .bool false, .bool false, .map none] : List Value).toArray 93) : Ent).ok t.w) (hav : ∀ q ∈ (.obj b (.cells ([.int .i16 0, .int .i32 0, .int .i16 0, .bool false, .bool false, .bool false, .map none] : List Value).toArray 93) : Ent).blk, t.av q) : CT Tryd.prog 35 [.pointer (some ⟨b, 0, none⟩)] t (.obj b (.cells ([.int .i16 0, .int .i32 0, .int .i16 0, .bool false, .bool false, .bool false, .map none] : List Value).toArray 93) : Ent) fun u r e' => ∃ M : List Value, e' = .obj b (.cells M.toArray 93) := by
  refine ct_enter Tryd.func35 rfl Tryd.ntmps35 rfl hok hav (by simp [Ent.blk]) ?_
  refine cd_region ?_
  refine ln_pv (pv_move rfl) rfl ?_
  refine ln_pv (pv_nilCheck rfl) rfl ?_
  refine ln_pv (pv_fieldAddr (off := 4) (r := 4) Tryd.underlying93 rfl (tibool).size rfl rfl rfl) rfl ?_
  refine ln_store1 (i := 0) rfl rfl rfl rfl (tibool).size rfl ?_
  refine ln_nil ?_
  exact at_retT0 (i := 0) rfl rfl (fun w hS => ⟨_, rfl⟩)
theorem newptr_BrokerHeartbeatResponse (t : Vw) : CA Tryd.prog 31 [] t fun u r => True := by
  refine ca_enter Tryd.func31 rfl Tryd.ntmps31 rfl ?_
  refine cd_sr ?_
  refine ln_pv (pv_assign rfl) rfl ?_
  refine ln_cd ?_
  refine cd_sr ?_
  refine ln_alloc tipub_kmsg_BrokerHeartbeatResponse rfl rfl (fun b1 => ?_)
  refine ln_cd ?_
  refine cd_sr ?_
  refine ln_callT (i := 0) en_35 rfl rfl (fun u hu hok hav => dflt_BrokerHeartbeatResponse u _ hok hav) rfl ?_
  rintro u1 v1 _ ht1 ⟨_, ⟨M1, rfl⟩, _⟩
  refine ln_cd ?_
  refine cd_sr ?_
  refine ln_pv (pv_assign rfl) rfl ?_
  refine ln_cd ?_
  refine cd_ret ?_
  exact at_retA rfl rfl (fun w hS => trivial)
theorem max_BrokerHeartbeatResponse (t : Vw) : CS Tryd.prog 14 [] t (.int .i64 2) := by
  refine CA.cs ?_
  refine ca_enter Tryd.func14 rfl Tryd.ntmps14 rfl ?_
  refine cd_sr ?_
  refine ln_pv (pv_assign rfl) rfl ?_
  refine ln_cd ?_
  refine cd_sr ?_
  refine ln_callA en_31 rfl (fun u hu => newptr_BrokerHeartbeatResponse u) rfl (fun u1 v1 ht1 hR1 => ?_)
  refine ln_callS en_32 rfl (fun u hu => max_ver_BrokerHeartbeatResponse u _) rfl ?_
  refine ln_pv (pv_conv Tryd.underlying49 Tryd.underlying3 rfl) rfl ?_
  refine ln_pv (pv_assign rfl) rfl ?_
  refine ln_cd ?_
  refine cd_ret ?_
  exact at_retA rfl rfl (fun w hS => rfl)
end K
end Go.Proofs.YtkcdocdldebeoaaDoor
