import Derived.Test.YtoledocfkjohhaaG1
set_option linter.unusedVariables false
set_option linter.unusedSimpArgs false
namespace Go.Proofs.Ytoledocfkjohhaa
namespace K
open Go Go.Lib
theorem RFs.leaf {s : Vw} {k a b c d e o : Int} {r : List Fld} {cs : List Value} (h : RFs s r cs) : RFs s (.mk k a b c d e o [] :: r) (.int .i64 k :: .int .i64 a :: .int .i64 b :: .int .i64 c :: .int .i64 d :: .int .i64 e :: .int .i64 o :: .slice none 0 0 :: cs) := by
  simp only [RFs, RF]
  exact ⟨[_, _, _, _, _, _, _, _], cs, rfl, ⟨_, rfl, [], ⟨by simp, by simp, .inl ⟨rfl, rfl⟩⟩, rfl⟩, h⟩
theorem RFs.part {s : Vw} {k a b c d e o : Int} {sub r : List Fld} {sv : Value} {lc cs : List Value} (hV : RS s 8 sv sub.length lc) (hF : RFs s sub lc) (h : RFs s r cs) : RFs s (.mk k a b c d e o sub :: r) (.int .i64 k :: .int .i64 a :: .int .i64 b :: .int .i64 c :: .int .i64 d :: .int .i64 e :: .int .i64 o :: sv :: cs) := by
  simp only [RFs, RF]
  exact ⟨[_, _, _, _, _, _, _, _], cs, rfl, ⟨_, rfl, lc, hV, hF⟩, h⟩
def F_AddOffsetsToTxnResponse : List Fld := [.mk 3 0 (-1) (-1) (-1) 0 0 [], .mk 2 0 (-1) (-1) (-1) 0 0 []]
theorem sch_F_AddOffsetsToTxnResponse (t : Vw) : CA Try.prog 10 [] t fun u r => ∃ sv lc, r = .agg #[sv, .int .i64 (3)] ∧ RS u 8 sv F_AddOffsetsToTxnResponse.length lc ∧ RFs u F_AddOffsetsToTxnResponse lc := by
  refine ca_enter Try.func10 rfl Try.ntmps10 rfl ?_
  refine cd_sr ?_
  refine ln_alloc tispec_Message rfl rfl (fun b1 => ?_)
  refine ln_cd ?_
  refine cd_sr ?_
  refine ln_pv (pv_struct [(0, 1), (1, 1), (2, 1), (3, 1), (4, 1), (5, 1), (6, 1), (7, 1)] (l := [_, _, _, _, _, _, _, _]) rfl Try.underlying50 tispec_Field (by kernel_rfl) rfl rfl) rfl ?_
  refine ln_pv (pv_struct [(0, 1), (1, 1), (2, 1), (3, 1), (4, 1), (5, 1), (6, 1), (7, 1)] (l := [_, _, _, _, _, _, _, _]) rfl Try.underlying50 tispec_Field (by kernel_rfl) rfl rfl) rfl ?_
  refine ln_lit (vs := [_, _]) Try.underlying29 tispec_Field rfl (by decide) rfl rfl rfl rfl rfl rfl (fun b2 => ?_)
  refine ln_pv (pv_struct [(0, 1), (1, 1)] (l := [_, _]) rfl Try.underlying31 tispec_Message (by kernel_rfl) rfl rfl) rfl ?_
  refine ln_storeW (i := 1) rfl rfl rfl rfl (tispec_Message).size rfl (by simp []) ?_
  refine ln_cd ?_
  refine cd_ret ?_
  refine at_retC (i := 1) rfl rfl rfl Try.underlying31 rfl tispec_Message.size rfl (fun w hS => ?_)
  exact ⟨_, _, rfl, obj_rs hS (i := 0) (m := 2) (sz := 8) rfl rfl (by simp [flat, Value.cells]), (RFs.leaf (RFs.leaf rfl))⟩
theorem ok_F_AddOffsetsToTxnResponse : okFs F_AddOffsetsToTxnResponse = true ∧ ofOks F_AddOffsetsToTxnResponse = true ∧ F_AddOffsetsToTxnResponse.length < 1000000 := by decide
def F_ExpireDelegationTokenResponse : List Fld := [.mk 2 0 (-1) (-1) (-1) 0 0 [], .mk 4 0 (-1) (-1) (-1) 0 0 [], .mk 3 0 (-1) (-1) (-1) 0 0 []]
theorem sch_F_ExpireDelegationTokenResponse (t : Vw) : CA Try.prog 18 [] t fun u r => ∃ sv lc, r = .agg #[sv, .int .i64 (2)] ∧ RS u 8 sv F_ExpireDelegationTokenResponse.length lc ∧ RFs u F_ExpireDelegationTokenResponse lc := by
  refine ca_enter Try.func18 rfl Try.ntmps18 rfl ?_
  refine cd_sr ?_
  refine ln_alloc tispec_Message rfl rfl (fun b1 => ?_)
  refine ln_cd ?_
  refine cd_sr ?_
  refine ln_pv (pv_struct [(0, 1), (1, 1), (2, 1), (3, 1), (4, 1), (5, 1), (6, 1), (7, 1)] (l := [_, _, _, _, _, _, _, _]) rfl Try.underlying50 tispec_Field (by kernel_rfl) rfl rfl) rfl ?_
  refine ln_pv (pv_struct [(0, 1), (1, 1), (2, 1), (3, 1), (4, 1), (5, 1), (6, 1), (7, 1)] (l := [_, _, _, _, _, _, _, _]) rfl Try.underlying50 tispec_Field (by kernel_rfl) rfl rfl) rfl ?_
  refine ln_pv (pv_struct [(0, 1), (1, 1), (2, 1), (3, 1), (4, 1), (5, 1), (6, 1), (7, 1)] (l := [_, _, _, _, _, _, _, _]) rfl Try.underlying50 tispec_Field (by kernel_rfl) rfl rfl) rfl ?_
  refine ln_lit (vs := [_, _, _]) Try.underlying29 tispec_Field rfl (by decide) rfl rfl rfl rfl rfl rfl (fun b2 => ?_)
  refine ln_pv (pv_struct [(0, 1), (1, 1)] (l := [_, _]) rfl Try.underlying31 tispec_Message (by kernel_rfl) rfl rfl) rfl ?_
  refine ln_storeW (i := 1) rfl rfl rfl rfl (tispec_Message).size rfl (by simp []) ?_
  refine ln_cd ?_
  refine cd_ret ?_
  refine at_retC (i := 1) rfl rfl rfl Try.underlying31 rfl tispec_Message.size rfl (fun w hS => ?_)
  exact ⟨_, _, rfl, obj_rs hS (i := 0) (m := 3) (sz := 8) rfl rfl (by simp [flat, Value.cells]), (RFs.leaf (RFs.leaf (RFs.leaf rfl)))⟩
theorem ok_F_ExpireDelegationTokenResponse : okFs F_ExpireDelegationTokenResponse = true ∧ ofOks F_ExpireDelegationTokenResponse = true ∧ F_ExpireDelegationTokenResponse.length < 1000000 := by decide
def F_RenewDelegationTokenRequest : List Fld := [.mk 9 0 (-1) (-1) (-1) 0 0 [], .mk 4 0 (-1) (-1) (-1) 0 0 []]
theorem sch_F_RenewDelegationTokenRequest (t : Vw) : CA Try.prog 21 [] t fun u r => ∃ sv lc, r = .agg #[sv, .int .i64 (2)] ∧ RS u 8 sv F_RenewDelegationTokenRequest.length lc ∧ RFs u F_RenewDelegationTokenRequest lc := by
  refine ca_enter Try.func21 rfl Try.ntmps21 rfl ?_
  refine cd_sr ?_
  refine ln_alloc tispec_Message rfl rfl (fun b1 => ?_)
  refine ln_cd ?_
  refine cd_sr ?_
  refine ln_pv (pv_struct [(0, 1), (1, 1), (2, 1), (3, 1), (4, 1), (5, 1), (6, 1), (7, 1)] (l := [_, _, _, _, _, _, _, _]) rfl Try.underlying50 tispec_Field (by kernel_rfl) rfl rfl) rfl ?_
  refine ln_pv (pv_struct [(0, 1), (1, 1), (2, 1), (3, 1), (4, 1), (5, 1), (6, 1), (7, 1)] (l := [_, _, _, _, _, _, _, _]) rfl Try.underlying50 tispec_Field (by kernel_rfl) rfl rfl) rfl ?_
  refine ln_lit (vs := [_, _]) Try.underlying29 tispec_Field rfl (by decide) rfl rfl rfl rfl rfl rfl (fun b2 => ?_)
  refine ln_pv (pv_struct [(0, 1), (1, 1)] (l := [_, _]) rfl Try.underlying31 tispec_Message (by kernel_rfl) rfl rfl) rfl ?_
  refine ln_storeW (i := 1) rfl rfl rfl rfl (tispec_Message).size rfl (by simp []) ?_
  refine ln_cd ?_
  refine cd_ret ?_
  refine at_retC (i := 1) rfl rfl rfl Try.underlying31 rfl tispec_Message.size rfl (fun w hS => ?_)
  exact ⟨_, _, rfl, obj_rs hS (i := 0) (m := 2) (sz := 8) rfl rfl (by simp [flat, Value.cells]), (RFs.leaf (RFs.leaf rfl))⟩
theorem ok_F_RenewDelegationTokenRequest : okFs F_RenewDelegationTokenRequest = true ∧ ofOks F_RenewDelegationTokenRequest = true ∧ F_RenewDelegationTokenRequest.length < 1000000 := by decide
def F_EnvelopeRequest : List Fld := [.mk 9 0 (-1) (-1) (-1) 0 0 [], .mk 9 0 (-1) 0 (-1) 0 0 [], .mk 9 0 (-1) (-1) (-1) 0 0 []]
theorem sch_F_EnvelopeRequest (t : Vw) : CA Try.prog 24 [] t fun u r => ∃ sv lc, r = .agg #[sv, .int .i64 (0)] ∧ RS u 8 sv F_EnvelopeRequest.length lc ∧ RFs u F_EnvelopeRequest lc := by
  refine ca_enter Try.func24 rfl Try.ntmps24 rfl ?_
  refine cd_sr ?_
  refine ln_alloc tispec_Message rfl rfl (fun b1 => ?_)
  refine ln_cd ?_
  refine cd_sr ?_
  refine ln_pv (pv_struct [(0, 1), (1, 1), (2, 1), (3, 1), (4, 1), (5, 1), (6, 1), (7, 1)] (l := [_, _, _, _, _, _, _, _]) rfl Try.underlying50 tispec_Field (by kernel_rfl) rfl rfl) rfl ?_
  refine ln_pv (pv_struct [(0, 1), (1, 1), (2, 1), (3, 1), (4, 1), (5, 1), (6, 1), (7, 1)] (l := [_, _, _, _, _, _, _, _]) rfl Try.underlying50 tispec_Field (by kernel_rfl) rfl rfl) rfl ?_
  refine ln_pv (pv_struct [(0, 1), (1, 1), (2, 1), (3, 1), (4, 1), (5, 1), (6, 1), (7, 1)] (l := [_, _, _, _, _, _, _, _]) rfl Try.underlying50 tispec_Field (by kernel_rfl) rfl rfl) rfl ?_
  refine ln_lit (vs := [_, _, _]) Try.underlying29 tispec_Field rfl (by decide) rfl rfl rfl rfl rfl rfl (fun b2 => ?_)
  refine ln_pv (pv_struct [(0, 1), (1, 1)] (l := [_, _]) rfl Try.underlying31 tispec_Message (by kernel_rfl) rfl rfl) rfl ?_
  refine ln_storeW (i := 1) rfl rfl rfl rfl (tispec_Message).size rfl (by simp []) ?_
  refine ln_cd ?_
  refine cd_ret ?_
  refine at_retC (i := 1) rfl rfl rfl Try.underlying31 rfl tispec_Message.size rfl (fun w hS => ?_)
  exact ⟨_, _, rfl, obj_rs hS (i := 0) (m := 3) (sz := 8) rfl rfl (by simp [flat, Value.cells]), (RFs.leaf (RFs.leaf (RFs.leaf rfl)))⟩
theorem ok_F_EnvelopeRequest : okFs F_EnvelopeRequest = true ∧ ofOks F_EnvelopeRequest = true ∧ F_EnvelopeRequest.length < 1000000 := by decide
def F_HeartbeatRequest : List Fld := [.mk 8 0 (-1) (-1) (-1) 0 0 [], .mk 3 0 (-1) (-1) (-1) 0 0 [], .mk 8 0 (-1) (-1) (-1) 0 0 [], .mk 8 3 (-1) 3 (-1) 0 0 []]
theorem sch_F_HeartbeatRequest (t : Vw) : CA Try.prog 27 [] t fun u r => ∃ sv lc, r = .agg #[sv, .int .i64 (4)] ∧ RS u 8 sv F_HeartbeatRequest.length lc ∧ RFs u F_HeartbeatRequest lc := by
  refine ca_enter Try.func27 rfl Try.ntmps27 rfl ?_
  refine cd_sr ?_
  refine ln_alloc tispec_Message rfl rfl (fun b1 => ?_)
  refine ln_cd ?_
  refine cd_sr ?_
  refine ln_pv (pv_struct [(0, 1), (1, 1), (2, 1), (3, 1), (4, 1), (5, 1), (6, 1), (7, 1)] (l := [_, _, _, _, _, _, _, _]) rfl Try.underlying50 tispec_Field (by kernel_rfl) rfl rfl) rfl ?_
  refine ln_pv (pv_struct [(0, 1), (1, 1), (2, 1), (3, 1), (4, 1), (5, 1), (6, 1), (7, 1)] (l := [_, _, _, _, _, _, _, _]) rfl Try.underlying50 tispec_Field (by kernel_rfl) rfl rfl) rfl ?_
  refine ln_pv (pv_struct [(0, 1), (1, 1), (2, 1), (3, 1), (4, 1), (5, 1), (6, 1), (7, 1)] (l := [_, _, _, _, _, _, _, _]) rfl Try.underlying50 tispec_Field (by kernel_rfl) rfl rfl) rfl ?_
  refine ln_pv (pv_struct [(0, 1), (1, 1), (2, 1), (3, 1), (4, 1), (5, 1), (6, 1), (7, 1)] (l := [_, _, _, _, _, _, _, _]) rfl Try.underlying50 tispec_Field (by kernel_rfl) rfl rfl) rfl ?_
  refine ln_lit (vs := [_, _, _, _]) Try.underlying29 tispec_Field rfl (by decide) rfl rfl rfl rfl rfl rfl (fun b2 => ?_)
  refine ln_pv (pv_struct [(0, 1), (1, 1)] (l := [_, _]) rfl Try.underlying31 tispec_Message (by kernel_rfl) rfl rfl) rfl ?_
  refine ln_storeW (i := 1) rfl rfl rfl rfl (tispec_Message).size rfl (by simp []) ?_
  refine ln_cd ?_
  refine cd_ret ?_
  refine at_retC (i := 1) rfl rfl rfl Try.underlying31 rfl tispec_Message.size rfl (fun w hS => ?_)
  exact ⟨_, _, rfl, obj_rs hS (i := 0) (m := 4) (sz := 8) rfl rfl (by simp [flat, Value.cells]), (RFs.leaf (RFs.leaf (RFs.leaf (RFs.leaf rfl))))⟩
theorem ok_F_HeartbeatRequest : okFs F_HeartbeatRequest = true ∧ ofOks F_HeartbeatRequest = true ∧ F_HeartbeatRequest.length < 1000000 := by decide
theorem max_ver_AddOffsetsToTxnResponse (t : Vw) (p : Value) : CS Try.prog 31 [p] t (.int .i16 4) := by
  refine CA.cs ?_
  refine ca_enter Try.func31 rfl Try.ntmps31 rfl ?_
  refine cd_sr ?_
  refine ln_pv (pv_assign rfl) rfl ?_
  refine ln_cd ?_
  refine cd_sr ?_
  refine ln_pv (pv_assign rfl) rfl ?_
  refine ln_cd ?_
  refine cd_ret ?_
  exact at_retA rfl rfl (fun w hS => rfl)
theorem dflt_AddOffsetsToTxnResponse (t : Vw) (p : Value) : CS Try.prog 61 [p] t (.tuple #[]) := by
  refine CA.cs ?_
  refine ca_enter Try.func61 rfl Try.ntmps61 rfl ?_
  refine cd_skip ?_
  exact at_retA0 rfl (fun w hS => rfl)
theorem newptr_AddOffsetsToTxnResponse (t : Vw) : CA Try.prog 30 [] t fun u r => True := by
  refine ca_enter Try.func30 rfl Try.ntmps30 rfl ?_
  refine cd_sr ?_
  refine ln_pv (pv_assign rfl) rfl ?_
  refine ln_cd ?_
  refine cd_sr ?_
  refine ln_alloc tipub_kmsg_AddOffsetsToTxnResponse rfl rfl (fun b1 => ?_)
  refine ln_cd ?_
  refine cd_sr ?_
  refine ln_callS en_61 rfl (fun u hu => dflt_AddOffsetsToTxnResponse u _) rfl ?_
  refine ln_cd ?_
  refine cd_sr ?_
  refine ln_pv (pv_assign rfl) rfl ?_
  refine ln_cd ?_
  refine cd_ret ?_
  exact at_retA rfl rfl (fun w hS => trivial)
theorem max_AddOffsetsToTxnResponse (t : Vw) : CS Try.prog 9 [] t (.int .i64 4) := by
  refine CA.cs ?_
  refine ca_enter Try.func9 rfl Try.ntmps9 rfl ?_
  refine cd_sr ?_
  refine ln_pv (pv_assign rfl) rfl ?_
  refine ln_cd ?_
  refine cd_sr ?_
  refine ln_callA en_30 rfl (fun u hu => newptr_AddOffsetsToTxnResponse u) rfl (fun u1 v1 ht1 hR1 => ?_)
  refine ln_callS en_31 rfl (fun u hu => max_ver_AddOffsetsToTxnResponse u _) rfl ?_
  refine ln_pv (pv_conv Try.underlying45 Try.underlying3 rfl) rfl ?_
  refine ln_pv (pv_assign rfl) rfl ?_
  refine ln_cd ?_
  refine cd_ret ?_
  exact at_retA rfl rfl (fun w hS => rfl)
theorem max_ver_ExpireDelegationTokenResponse (t : Vw) (p : Value) : CS Try.prog 41 [p] t (.int .i16 2) := by
  refine CA.cs ?_
  refine ca_enter Try.func41 rfl Try.ntmps41 rfl ?_
  refine cd_sr ?_
  refine ln_pv (pv_assign rfl) rfl ?_
  refine ln_cd ?_
  refine cd_sr ?_
  refine ln_pv (pv_assign rfl) rfl ?_
  refine ln_cd ?_
  refine cd_ret ?_
  exact at_retA rfl rfl (fun w hS => rfl)
theorem dflt_ExpireDelegationTokenResponse (t : Vw) (p : Value) : CS Try.prog 76 [p] t (.tuple #[]) := by
  refine CA.cs ?_
  refine ca_enter Try.func76 rfl Try.ntmps76 rfl ?_
  refine cd_skip ?_
  exact at_retA0 rfl (fun w hS => rfl)
theorem newptr_ExpireDelegationTokenResponse (t : Vw) : CA Try.prog 40 [] t fun u r => True := by
  refine ca_enter Try.func40 rfl Try.ntmps40 rfl ?_
  refine cd_sr ?_
  refine ln_pv (pv_assign rfl) rfl ?_
  refine ln_cd ?_
  refine cd_sr ?_
  refine ln_alloc tipub_kmsg_ExpireDelegationTokenResponse rfl rfl (fun b1 => ?_)
  refine ln_cd ?_
  refine cd_sr ?_
  refine ln_callS en_76 rfl (fun u hu => dflt_ExpireDelegationTokenResponse u _) rfl ?_
  refine ln_cd ?_
  refine cd_sr ?_
  refine ln_pv (pv_assign rfl) rfl ?_
  refine ln_cd ?_
  refine cd_ret ?_
  exact at_retA rfl rfl (fun w hS => trivial)
theorem max_ExpireDelegationTokenResponse (t : Vw) : CS Try.prog 17 [] t (.int .i64 2) := by
  refine CA.cs ?_
  refine ca_enter Try.func17 rfl Try.ntmps17 rfl ?_
  refine cd_sr ?_
  refine ln_pv (pv_assign rfl) rfl ?_
  refine ln_cd ?_
  refine cd_sr ?_
  refine ln_callA en_40 rfl (fun u hu => newptr_ExpireDelegationTokenResponse u) rfl (fun u1 v1 ht1 hR1 => ?_)
  refine ln_callS en_41 rfl (fun u hu => max_ver_ExpireDelegationTokenResponse u _) rfl ?_
  refine ln_pv (pv_conv Try.underlying45 Try.underlying3 rfl) rfl ?_
  refine ln_pv (pv_assign rfl) rfl ?_
  refine ln_cd ?_
  refine cd_ret ?_
  exact at_retA rfl rfl (fun w hS => rfl)
theorem max_ver_RenewDelegationTokenRequest (t : Vw) (p : Value) : CS Try.prog 46 [p] t (.int .i16 2) := by
  refine CA.cs ?_
  refine ca_enter Try.func46 rfl Try.ntmps46 rfl ?_
  refine cd_sr ?_
  refine ln_pv (pv_assign rfl) rfl ?_
  refine ln_cd ?_
  refine cd_sr ?_
  refine ln_pv (pv_assign rfl) rfl ?_
  refine ln_cd ?_
  refine cd_ret ?_
  exact at_retA rfl rfl (fun w hS => rfl)
theorem dflt_RenewDelegationTokenRequest (t : Vw) (p : Value) : CS Try.prog 78 [p] t (.tuple #[]) := by
  refine CA.cs ?_
  refine ca_enter Try.func78 rfl Try.ntmps78 rfl ?_
  refine cd_skip ?_
  exact at_retA0 rfl (fun w hS => rfl)
theorem newptr_RenewDelegationTokenRequest (t : Vw) : CA Try.prog 45 [] t fun u r => True := by
  refine ca_enter Try.func45 rfl Try.ntmps45 rfl ?_
  refine cd_sr ?_
  refine ln_pv (pv_assign rfl) rfl ?_
  refine ln_cd ?_
  refine cd_sr ?_
  refine ln_alloc tipub_kmsg_RenewDelegationTokenRequest rfl rfl (fun b1 => ?_)
  refine ln_cd ?_
  refine cd_sr ?_
  refine ln_callS en_78 rfl (fun u hu => dflt_RenewDelegationTokenRequest u _) rfl ?_
  refine ln_cd ?_
  refine cd_sr ?_
  refine ln_pv (pv_assign rfl) rfl ?_
  refine ln_cd ?_
  refine cd_ret ?_
  exact at_retA rfl rfl (fun w hS => trivial)
theorem max_RenewDelegationTokenRequest (t : Vw) : CS Try.prog 20 [] t (.int .i64 2) := by
  refine CA.cs ?_
  refine ca_enter Try.func20 rfl Try.ntmps20 rfl ?_
  refine cd_sr ?_
  refine ln_pv (pv_assign rfl) rfl ?_
  refine ln_cd ?_
  refine cd_sr ?_
  refine ln_callA en_45 rfl (fun u hu => newptr_RenewDelegationTokenRequest u) rfl (fun u1 v1 ht1 hR1 => ?_)
  refine ln_callS en_46 rfl (fun u hu => max_ver_RenewDelegationTokenRequest u _) rfl ?_
  refine ln_pv (pv_conv Try.underlying45 Try.underlying3 rfl) rfl ?_
  refine ln_pv (pv_assign rfl) rfl ?_
  refine ln_cd ?_
  refine cd_ret ?_
  exact at_retA rfl rfl (fun w hS => rfl)
theorem max_ver_EnvelopeRequest (t : Vw) (p : Value) : CS Try.prog 51 [p] t (.int .i16 0) := by
  refine CA.cs ?_
  refine ca_enter Try.func51 rfl Try.ntmps51 rfl ?_
  refine cd_sr ?_
  refine ln_pv (pv_assign rfl) rfl ?_
  refine ln_cd ?_
  refine cd_sr ?_
  refine ln_pv (pv_assign rfl) rfl ?_
  refine ln_cd ?_
  refine cd_ret ?_
  exact at_retA rfl rfl (fun w hS => rfl)
theorem dflt_EnvelopeRequest (t : Vw) (p : Value) : CS Try.prog 82 [p] t (.tuple #[]) := by
  refine CA.cs ?_
  refine ca_enter Try.func82 rfl Try.ntmps82 rfl ?_
  refine cd_skip ?_
  exact at_retA0 rfl (fun w hS => rfl)
theorem newptr_EnvelopeRequest (t : Vw) : CA Try.prog 50 [] t fun u r => True := by
  refine ca_enter Try.func50 rfl Try.ntmps50 rfl ?_
  refine cd_sr ?_
  refine ln_pv (pv_assign rfl) rfl ?_
  refine ln_cd ?_
  refine cd_sr ?_
  refine ln_alloc tipub_kmsg_EnvelopeRequest rfl rfl (fun b1 => ?_)
  refine ln_cd ?_
  refine cd_sr ?_
  refine ln_callS en_82 rfl (fun u hu => dflt_EnvelopeRequest u _) rfl ?_
  refine ln_cd ?_
  refine cd_sr ?_
  refine ln_pv (pv_assign rfl) rfl ?_
  refine ln_cd ?_
  refine cd_ret ?_
  exact at_retA rfl rfl (fun w hS => trivial)
theorem max_EnvelopeRequest (t : Vw) : CS Try.prog 23 [] t (.int .i64 0) := by
  refine CA.cs ?_
  refine ca_enter Try.func23 rfl Try.ntmps23 rfl ?_
  refine cd_sr ?_
  refine ln_pv (pv_assign rfl) rfl ?_
  refine ln_cd ?_
  refine cd_sr ?_
  refine ln_callA en_50 rfl (fun u hu => newptr_EnvelopeRequest u) rfl (fun u1 v1 ht1 hR1 => ?_)
  refine ln_callS en_51 rfl (fun u hu => max_ver_EnvelopeRequest u _) rfl ?_
  refine ln_pv (pv_conv Try.underlying45 Try.underlying3 rfl) rfl ?_
  refine ln_pv (pv_assign rfl) rfl ?_
  refine ln_cd ?_
  refine cd_ret ?_
  exact at_retA rfl rfl (fun w hS => rfl)
theorem max_ver_HeartbeatRequest (t : Vw) (p : Value) : CS Try.prog 56 [p] t (.int .i16 4) := by
  refine CA.cs ?_
  refine ca_enter Try.func56 rfl Try.ntmps56 rfl ?_
  refine cd_sr ?_
  refine ln_pv (pv_assign rfl) rfl ?_
  refine ln_cd ?_
  refine cd_sr ?_
  refine ln_pv (pv_assign rfl) rfl ?_
  refine ln_cd ?_
  refine cd_ret ?_
  exact at_retA rfl rfl (fun w hS => rfl)
theorem dflt_HeartbeatRequest (t : Vw) (p : Value) : CS Try.prog 85 [p] t (.tuple #[]) := by
  refine CA.cs ?_
  refine ca_enter Try.func85 rfl Try.ntmps85 rfl ?_
  refine cd_skip ?_
  exact at_retA0 rfl (fun w hS => rfl)
theorem newptr_HeartbeatRequest (t : Vw) : CA Try.prog 55 [] t fun u r => True := by
  refine ca_enter Try.func55 rfl Try.ntmps55 rfl ?_
  refine cd_sr ?_
  refine ln_pv (pv_assign rfl) rfl ?_
  refine ln_cd ?_
  refine cd_sr ?_
  refine ln_alloc tipub_kmsg_HeartbeatRequest rfl rfl (fun b1 => ?_)
  refine ln_cd ?_
  refine cd_sr ?_
  refine ln_callS en_85 rfl (fun u hu => dflt_HeartbeatRequest u _) rfl ?_
  refine ln_cd ?_
  refine cd_sr ?_
  refine ln_pv (pv_assign rfl) rfl ?_
  refine ln_cd ?_
  refine cd_ret ?_
  exact at_retA rfl rfl (fun w hS => trivial)
theorem max_HeartbeatRequest (t : Vw) : CS Try.prog 26 [] t (.int .i64 4) := by
  refine CA.cs ?_
  refine ca_enter Try.func26 rfl Try.ntmps26 rfl ?_
  refine cd_sr ?_
  refine ln_pv (pv_assign rfl) rfl ?_
  refine ln_cd ?_
  refine cd_sr ?_
  refine ln_callA en_55 rfl (fun u hu => newptr_HeartbeatRequest u) rfl (fun u1 v1 ht1 hR1 => ?_)
  refine ln_callS en_56 rfl (fun u hu => max_ver_HeartbeatRequest u _) rfl ?_
  refine ln_pv (pv_conv Try.underlying45 Try.underlying3 rfl) rfl ?_
  refine ln_pv (pv_assign rfl) rfl ?_
  refine ln_cd ?_
  refine cd_ret ?_
  exact at_retA rfl rfl (fun w hS => rfl)
end K
end Go.Proofs.Ytoledocfkjohhaa
