import Derived.Test.YtjjfpdofkdolnaaDoorQ0
set_option linter.unusedVariables false
set_option linter.unusedSimpArgs false
namespace Go.Proofs.YtjjfpdofkdolnaaDoor
namespace K
open Go Go.Lib
def F_sCreatePartitionsRequestTopicAssignment : List Fld := [.mk 11 0 (-1) (-1) (-1) 0 3 []]
def F_sCreatePartitionsRequestTopic : List Fld := [.mk 8 0 (-1) (-1) (-1) 0 0 [], .mk 3 0 (-1) (-1) (-1) 0 0 [], .mk 11 0 (-1) 0 (-1) 0 10 F_sCreatePartitionsRequestTopicAssignment]
def F_CreatePartitionsRequest : List Fld := [.mk 11 0 (-1) (-1) (-1) 0 10 F_sCreatePartitionsRequestTopic, .mk 3 0 (-1) (-1) (-1) 15000 0 [], .mk 0 0 (-1) (-1) (-1) 0 0 []]
theorem ok_F_CreatePartitionsRequest : okFs F_CreatePartitionsRequest = true ∧ ofOks F_CreatePartitionsRequest = true ∧ F_CreatePartitionsRequest.length < 1000000 := by decide
theorem max_ver_CreatePartitionsRequest (t : Vw) (p : Value) : CS Tryd.prog 61 [p] t (.int .i16 3) := by
  refine CA.cs ?_
  refine ca_enter Tryd.func61 rfl Tryd.ntmps61 rfl ?_
  refine cd_sr ?_
  refine ln_pv (pv_assign rfl) rfl ?_
  refine ln_cd ?_
  refine cd_sr ?_
  refine ln_pv (pv_assign rfl) rfl ?_
  refine ln_cd ?_
  refine cd_ret ?_
  exact at_retA rfl rfl (fun w hS => rfl)
theorem dflt_CreatePartitionsRequest (t : Vw) (b : Nat) (hok : (.obj b (.cells ([.int .i16 0, .slice none 0 0, .int .i32 0, .bool false, .map none] : List Value).toArray 123) : Ent).ok t.w) (hav : ∀ q ∈ (.obj b (.cells ([.int .i16 0, .slice none 0 0, .int .i32 0, .bool false, .map none] : List Value).toArray 123) : Ent).blk, t.av q) : CT Tryd.prog 97 [.pointer (some ⟨b, 0, none⟩)] t (.obj b (.cells ([.int .i16 0, .slice none 0 0, .int .i32 0, .bool false, .map none] : List Value).toArray 123) : Ent) fun u r e' => ∃ M : List Value, e' = .obj b (.cells M.toArray 123) := by
  refine ct_enter Tryd.func97 rfl Tryd.ntmps97 rfl hok hav (by simp [Ent.blk]) ?_
  refine cd_region ?_
  refine ln_pv (pv_move rfl) rfl ?_
  refine ln_pv (pv_nilCheck rfl) rfl ?_
  refine ln_pv (pv_fieldAddr (off := 2) (r := 2) Tryd.underlying123 rfl (tiint32).size rfl rfl rfl) rfl ?_
  refine ln_store1 (i := 0) rfl rfl rfl rfl (tiint32).size rfl ?_
  refine ln_nil ?_
  exact at_retT0 (i := 0) rfl rfl (fun w hS => ⟨_, rfl⟩)
theorem newptr_CreatePartitionsRequest (t : Vw) : CA Tryd.prog 60 [] t fun u r => True := by
  refine ca_enter Tryd.func60 rfl Tryd.ntmps60 rfl ?_
  refine cd_sr ?_
  refine ln_pv (pv_assign rfl) rfl ?_
  refine ln_cd ?_
  refine cd_sr ?_
  refine ln_alloc tipub_kmsg_CreatePartitionsRequest rfl rfl (fun b1 => ?_)
  refine ln_cd ?_
  refine cd_sr ?_
  refine ln_callT (i := 0) en_97 rfl rfl (fun u hu hok hav => dflt_CreatePartitionsRequest u _ hok hav) rfl ?_
  rintro u1 v1 _ ht1 ⟨_, ⟨M1, rfl⟩, _⟩
  refine ln_cd ?_
  refine cd_sr ?_
  refine ln_pv (pv_assign rfl) rfl ?_
  refine ln_cd ?_
  refine cd_ret ?_
  exact at_retA rfl rfl (fun w hS => trivial)
theorem max_CreatePartitionsRequest (t : Vw) : CS Tryd.prog 25 [] t (.int .i64 3) := by
  refine CA.cs ?_
  refine ca_enter Tryd.func25 rfl Tryd.ntmps25 rfl ?_
  refine cd_sr ?_
  refine ln_pv (pv_assign rfl) rfl ?_
  refine ln_cd ?_
  refine cd_sr ?_
  refine ln_callA en_60 rfl (fun u hu => newptr_CreatePartitionsRequest u) rfl (fun u1 v1 ht1 hR1 => ?_)
  refine ln_callS en_61 rfl (fun u hu => max_ver_CreatePartitionsRequest u _) rfl ?_
  refine ln_pv (pv_conv Tryd.underlying45 Tryd.underlying3 rfl) rfl ?_
  refine ln_pv (pv_assign rfl) rfl ?_
  refine ln_cd ?_
  refine cd_ret ?_
  exact at_retA rfl rfl (fun w hS => rfl)
end K
end Go.Proofs.YtjjfpdofkdolnaaDoor
