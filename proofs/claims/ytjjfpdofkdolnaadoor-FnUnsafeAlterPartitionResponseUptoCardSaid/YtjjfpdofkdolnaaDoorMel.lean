import Derived.Test.YtjjfpdofkdolnaaDoorMer
import Derived.Test.YtjjfpdofkdolnaaDoorUe
import Derived.Test.YtjjfpdofkdolnaaDoorMet
set_option linter.unusedVariables false
set_option linter.unusedSimpArgs false
namespace Go.Proofs.YtjjfpdofkdolnaaDoor
namespace K
open Go Go.Lib
theorem newp_AlterPartitionResponse (t : Vw) (hok : HF [] t.w) (hav : ∀ q ∈ blks [], t.av q) (hnd : (blks []).Nodup) : CH Tryd.prog 66 [] t [] fun u r E' => ∃ b, r = .pointer (some ⟨b, 0, none⟩) ∧ E' = [MsgBox b 131 [.int .i16 0, .int .i32 0, .int .i16 0, .slice none 0 0, .map none]] := by
  refine ch_enter Tryd.func66 rfl Tryd.ntmps66 rfl hok hav hnd ?_
  refine cd_sr ?_
  refine ln_pv (pv_assign rfl) rfl ?_
  refine ln_cd ?_
  refine cd_sr ?_
  refine ln_alloc tipub_kmsg_AlterPartitionResponse rfl rfl (fun b => ?_)
  refine ln_cd ?_
  refine cd_sr ?_
  refine ln_callT (i := 0) en_101 rfl rfl (fun u hu hok hav => df_AlterPartitionResponse _ _ _ _ _ (fun w => .obj b (.cells w.toArray 131)) b 0 (Tgt.obj b 131 5) u hok hav) rfl ?_
  rintro u1 _ _ ht1 ⟨_, ⟨rfl, rfl⟩, _⟩
  refine ln_cd ?_
  refine cd_sr ?_
  refine ln_pv (pv_assign rfl) rfl ?_
  refine ln_cd ?_
  refine cd_ret ?_
  exact at_retHq [MsgBox b 131 [.int .i16 0, .int .i32 0, .int .i16 0, .slice none 0 0, .map none]] (List.Sublist.refl _) rfl rfl (fun w hS => ⟨b, rfl, rfl⟩)
theorem setd_AlterPartitionResponse (t : Vw) (b : Nat) (v : Int) (hok : (MsgBox b 131 [.int .i16 0, .int .i32 0, .int .i16 0, .slice none 0 0, .map none]).ok t.w) (hav : ∀ q ∈ (MsgBox b 131 [.int .i16 0, .int .i32 0, .int .i16 0, .slice none 0 0, .map none]).blk, t.av q) : CT Tryd.prog 68 [.pointer (some ⟨b, 0, none⟩), .int .i16 v] t (MsgBox b 131 [.int .i16 0, .int .i32 0, .int .i16 0, .slice none 0 0, .map none]) fun u r e' => e' = MsgBox b 131 [.int .i16 v, .int .i32 0, .int .i16 0, .slice none 0 0, .map none] := by
  refine ct_enter Tryd.func68 rfl Tryd.ntmps68 rfl hok hav (by simp [Ent.blk]) ?_
  refine cd_region ?_
  refine ln_pv (pv_move rfl) rfl ?_
  refine ln_pv (pv_move rfl) rfl ?_
  refine ln_pv (pv_nilCheck rfl) rfl ?_
  refine ln_pv (pv_fieldAddr (off := 0) (r := 0) Tryd.underlying131 rfl (tiint16).size rfl rfl rfl) rfl ?_
  refine ln_store1 (i := 0) rfl rfl rfl rfl (tiint16).size rfl ?_
  refine ln_nil ?_
  exact at_retT0 (i := 0) rfl rfl (fun w hS => rfl)
theorem readfT_AlterPartitionResponse (t : Vw) (b : Nat) (v : Int) (D : List UInt8) (sv : Value) (hsv : RSv t sv D) (hD : D.length ≤ 32767) (hG : EG t) (h0 : 0 ≤ v) (h1 : v ≤ 3) (hok : (MsgBox b 131 (.int .i16 v :: ([.int .i32 0, .int .i16 0, .slice none 0 0, .map none] : List Value))).ok t.w) (hav : ∀ q ∈ (MsgBox b 131 (.int .i16 v :: ([.int .i32 0, .int .i16 0, .slice none 0 0, .map none] : List Value))).blk, t.av q) : CT Tryd.prog 69 [.pointer (some ⟨b, 0, none⟩), sv] t (MsgBox b 131 (.int .i16 v :: ([.int .i32 0, .int .i16 0, .slice none 0 0, .map none] : List Value))) fun u r e' => ∃ cells, e' = MsgBox b 131 (.int .i16 v :: cells) ∧ (((dcP F_AlterPartitionResponse v (flexB 0 v) (D, false)).2.2 = true ∧ ∃ ty x, r = .iface ty x) ∨ ((dcP F_AlterPartitionResponse v (flexB 0 v) (D, false)).2.2 = false ∧ r = .nilIface ∧ RMp u F_AlterPartitionResponse (dcP F_AlterPartitionResponse v (flexB 0 v) (D, false)).1 cells)) := by
  refine ct_enter Tryd.func69 rfl Tryd.ntmps69 rfl hok hav (by simp [Ent.blk]) ?_
  refine cd_sr ?_
  refine ln_pv (pv_assign rfl) rfl ?_
  refine ln_cd ?_
  refine cd_sr ?_
  refine ln_pv (pv_move rfl) rfl ?_
  refine ln_pv (pv_move rfl) rfl ?_
  refine ln_callT (i := 0) en_102 rfl rfl (fun u hu hok hav => readu_AlterPartitionResponse u b v false D sv (RSv.mv hsv hu) hD (hG.mv hu) h0 h1 hok hav) rfl ?_
  rintro u2 r2 _ ht2 ⟨ux, ⟨cells, rfl, hor⟩, hx⟩
  refine ln_pv (pv_assign rfl) rfl ?_
  refine ln_cd ?_
  refine cd_ret ?_
  refine at_retT (i := 0) rfl rfl rfl (fun w hS => ⟨cells, rfl, ?_⟩)
  rcases hor with ⟨h1, h2⟩ | ⟨h1, h2, hM⟩
  · exact .inl ⟨h1, h2⟩
  · exact .inr ⟨h1, h2, (hM.mv hx).mv (hS.trFinT _ _)⟩
theorem readfU_AlterPartitionResponse (t : Vw) (b : Nat) (v : Int) (D : List UInt8) (sv : Value) (hsv : RSv t sv D) (hD : D.length ≤ 32767) (hG : EG t) (h0 : 0 ≤ v) (h1 : v ≤ 3) (hok : (MsgBox b 131 (.int .i16 v :: ([.int .i32 0, .int .i16 0, .slice none 0 0, .map none] : List Value))).ok t.w) (hav : ∀ q ∈ (MsgBox b 131 (.int .i16 v :: ([.int .i32 0, .int .i16 0, .slice none 0 0, .map none] : List Value))).blk, t.av q) : CT Tryd.prog 71 [.pointer (some ⟨b, 0, none⟩), sv] t (MsgBox b 131 (.int .i16 v :: ([.int .i32 0, .int .i16 0, .slice none 0 0, .map none] : List Value))) fun u r e' => ∃ cells, e' = MsgBox b 131 (.int .i16 v :: cells) ∧ (((dcP F_AlterPartitionResponse v (flexB 0 v) (D, false)).2.2 = true ∧ ∃ ty x, r = .iface ty x) ∨ ((dcP F_AlterPartitionResponse v (flexB 0 v) (D, false)).2.2 = false ∧ r = .nilIface ∧ RMp u F_AlterPartitionResponse (dcP F_AlterPartitionResponse v (flexB 0 v) (D, false)).1 cells)) := by
  refine ct_enter Tryd.func71 rfl Tryd.ntmps71 rfl hok hav (by simp [Ent.blk]) ?_
  refine cd_sr ?_
  refine ln_pv (pv_assign rfl) rfl ?_
  refine ln_cd ?_
  refine cd_sr ?_
  refine ln_pv (pv_move rfl) rfl ?_
  refine ln_pv (pv_move rfl) rfl ?_
  refine ln_callT (i := 0) en_102 rfl rfl (fun u hu hok hav => readu_AlterPartitionResponse u b v true D sv (RSv.mv hsv hu) hD (hG.mv hu) h0 h1 hok hav) rfl ?_
  rintro u2 r2 _ ht2 ⟨ux, ⟨cells, rfl, hor⟩, hx⟩
  refine ln_pv (pv_assign rfl) rfl ?_
  refine ln_cd ?_
  refine cd_ret ?_
  refine at_retT (i := 0) rfl rfl rfl (fun w hS => ⟨cells, rfl, ?_⟩)
  rcases hor with ⟨h1, h2⟩ | ⟨h1, h2, hM⟩
  · exact .inl ⟨h1, h2⟩
  · exact .inr ⟨h1, h2, (hM.mv hx).mv (hS.trFinT _ _)⟩
theorem doorT_AlterPartitionResponse (t : Vw) (v : Int) (D : List UInt8) (sv : Value) (hsv : RSv t sv D) (hD : D.length ≤ 1000) (hG : EG t) (h0 : 0 ≤ v) (h1 : v ≤ 3) : CA Tryd.prog 29 [.int .i64 v, sv] t fun u r => ((dcP F_AlterPartitionResponse v (flexB 0 v) (D, false)).2.2 = true ∧ ∃ ds : List Value, r = .tuple #[.agg ds.toArray, .bool false] ∧ ds.length = 5 ∧ ∀ c ∈ ds, c.oneCell' = true) ∨ ((dcP F_AlterPartitionResponse v (flexB 0 v) (D, false)).2.2 = false ∧ ∃ ds : List Value, r = .tuple #[.agg ds.toArray, .bool true] ∧ RT u (tlT F_AlterPartitionResponse (dcP F_AlterPartitionResponse v (flexB 0 v) (D, false)).1) ds) := by
  refine ca_enter Tryd.func29 rfl Tryd.ntmps29 rfl ?_
  refine cd_sr ?_
  refine ln_alloc (l := [_, _, _, _, _]) tiimpl_Tree rfl rfl (fun br => ?_)
  refine ln_pv (pv_assign rfl) rfl ?_
  refine ln_cd ?_
  refine cd_sr ?_
  refine ln_callH (E := []) (H0 := [_]) (List.Perm.refl _) en_66 rfl (fun u hu hok hav hnd => newp_AlterPartitionResponse u hok hav hnd) rfl ?_
  rintro u1 _ _ ht1 ⟨_, ⟨b, rfl, rfl⟩, _⟩
  refine ln_pv (pv_assign rfl) rfl ?_
  refine ln_cd ?_
  refine cd_sr ?_
  refine ln_pv (pv_move rfl) rfl ?_
  refine ln_pv (pv_move rfl) rfl ?_
  refine ln_pv (pv_conv' Tryd.underlying3 Tryd.underlying45 rfl (r := v) (wrap_i16_in (by omega) (by omega))) rfl ?_
  refine ln_callT (i := 0) en_68 rfl rfl (fun u hu hok hav => setd_AlterPartitionResponse u b v hok hav) rfl ?_
  rintro u2 _ _ ht2 ⟨_, rfl, _⟩
  refine ln_cd ?_
  have hG := hG.mv (ht1.trans ht2)
  have hsv := hsv.mv (ht1.trans ht2)
  refine cd_seq ?_
  refine cd_sr ?_
  refine ln_pv (pv_move rfl) rfl ?_
  refine ln_pv (pv_move rfl) rfl ?_
  refine ln_nilrow 5 1 ?_
  refine ln_append (i := 0) rfl Tryd.underlying22 tiuint8 rfl (by decide) rfl rfl (RS.src hsv) (by simp only [maxLen]; omega) (by omega) rfl (k' := (D).length) (xs' := u8s (D)) (by omega) (by simp) (fun va hva => ?_)
  refine ln_free1 (fun q h => h.elim) (fun s3 ht3 hK => ?_)
  have hs3 : RSv s3 va D := Known.rs hK (u8s_one _)
  have hG := hG.mv ht3
  clear hK
  refine ln_callT (i := 0) en_69 rfl rfl (fun u hu hok hav => readfT_AlterPartitionResponse u b v D _ (RSv.mv hs3 hu) (by omega) (hG.mv hu) h0 h1 hok hav) rfl ?_
  rintro u4 r4 _ ht4 ⟨ux4, ⟨cells, rfl, hor⟩, hx4⟩
  rcases hor with ⟨hbd, ety, ex, rfl⟩ | ⟨hbd, rfl, hM⟩
  · skip
    refine ln_pv (pv_neqT Tryd.underlying51 rfl) rfl ?_
    refine ln_cd ?_
    refine cd_tt rfl ?_
    refine cd_sr ?_
    refine ln_pv (pv_struct [(0, 1), (1, 1), (2, 1), (3, 1), (4, 1)] (l := [.int .i64 0, .slice none 0 0, .bool false, .slice none 0 0, .slice none 0 0]) rfl Tryd.underlying27 tiimpl_Tree (by kernel_rfl) rfl rfl) rfl ?_
    refine ln_storeW (i := 1) (vs := [.int .i64 0, .slice none 0 0, .bool false, .slice none 0 0, .slice none 0 0]) rfl rfl rfl rfl tiimpl_Tree.size rfl (by simp [Value.oneCell']) ?_
    refine ln_pv (pv_assign rfl) rfl ?_
    refine ln_cd ?_
    refine cd_ret ?_
    exact at_retCA2 (i := 1) rfl rfl rfl rfl Tryd.underlying27 rfl tiimpl_Tree.size rfl (fun w hS => .inl ⟨hbd, _, rfl, rfl, by simp [Value.oneCell']⟩)
  have hM := hM.mv hx4
  refine ln_pv (pv_neqI Tryd.underlying51 rfl) rfl ?_
  refine ln_cd ?_
  refine cd_ff rfl ?_
  refine cd_skip ?_
  refine at_cd ?_
  refine cd_free1 (fun q h => h.elim) (fun s9 hs9 hK => ?_)
  have hob : OB s9 b (.cells (.int .i16 v :: cells).toArray 131) := hK
  clear hK
  have hM := hM.mv hs9
  refine cd_sr ?_
  refine ln_pv (pv_move rfl) rfl ?_
  refine ln_callA en_70 rfl (fun u hu => tell_AlterPartitionResponse u b v (dcP F_AlterPartitionResponse v (flexB 0 v) (D, false)).1 cells (hob.mv hu).rc (hM.mv hu) (tgT_dc v _ (by kernel_rfl) (by dsimp only; omega))) rfl (fun u7 v7 ht7 hR7 => ?_)
  obtain ⟨ds, rfl, hds⟩ := hR7
  refine ln_storeW (i := 0) rfl rfl rfl rfl tiimpl_Tree.size hds.len hds.cells ?_
  refine ln_pv (pv_assign rfl) rfl ?_
  refine ln_cd ?_
  refine cd_ret ?_
  exact at_retCA2 (i := 0) rfl rfl rfl rfl Tryd.underlying27 rfl tiimpl_Tree.size hds.len (fun w hS => .inr ⟨hbd, ds, rfl, hds.mv hS.trFin⟩)
theorem doorU_AlterPartitionResponse (t : Vw) (v : Int) (D : List UInt8) (sv : Value) (hsv : RSv t sv D) (hD : D.length ≤ 1000) (hG : EG t) (h0 : 0 ≤ v) (h1 : v ≤ 3) : CA Tryd.prog 30 [.int .i64 v, sv] t fun u r => ((dcP F_AlterPartitionResponse v (flexB 0 v) (D, false)).2.2 = true ∧ ∃ ds : List Value, r = .tuple #[.agg ds.toArray, .bool false] ∧ ds.length = 5 ∧ ∀ c ∈ ds, c.oneCell' = true) ∨ ((dcP F_AlterPartitionResponse v (flexB 0 v) (D, false)).2.2 = false ∧ ∃ ds : List Value, r = .tuple #[.agg ds.toArray, .bool true] ∧ RT u (tlT F_AlterPartitionResponse (dcP F_AlterPartitionResponse v (flexB 0 v) (D, false)).1) ds) := by
  refine ca_enter Tryd.func30 rfl Tryd.ntmps30 rfl ?_
  refine cd_sr ?_
  refine ln_alloc (l := [_, _, _, _, _]) tiimpl_Tree rfl rfl (fun br => ?_)
  refine ln_pv (pv_assign rfl) rfl ?_
  refine ln_cd ?_
  refine cd_sr ?_
  refine ln_callH (E := []) (H0 := [_]) (List.Perm.refl _) en_66 rfl (fun u hu hok hav hnd => newp_AlterPartitionResponse u hok hav hnd) rfl ?_
  rintro u1 _ _ ht1 ⟨_, ⟨b, rfl, rfl⟩, _⟩
  refine ln_pv (pv_assign rfl) rfl ?_
  refine ln_cd ?_
  refine cd_sr ?_
  refine ln_pv (pv_move rfl) rfl ?_
  refine ln_pv (pv_move rfl) rfl ?_
  refine ln_pv (pv_conv' Tryd.underlying3 Tryd.underlying45 rfl (r := v) (wrap_i16_in (by omega) (by omega))) rfl ?_
  refine ln_callT (i := 0) en_68 rfl rfl (fun u hu hok hav => setd_AlterPartitionResponse u b v hok hav) rfl ?_
  rintro u2 _ _ ht2 ⟨_, rfl, _⟩
  refine ln_cd ?_
  have hG := hG.mv (ht1.trans ht2)
  have hsv := hsv.mv (ht1.trans ht2)
  refine cd_seq ?_
  refine cd_sr ?_
  refine ln_pv (pv_move rfl) rfl ?_
  refine ln_pv (pv_move rfl) rfl ?_
  refine ln_nilrow 5 1 ?_
  refine ln_append (i := 0) rfl Tryd.underlying22 tiuint8 rfl (by decide) rfl rfl (RS.src hsv) (by simp only [maxLen]; omega) (by omega) rfl (k' := (D).length) (xs' := u8s (D)) (by omega) (by simp) (fun va hva => ?_)
  refine ln_free1 (fun q h => h.elim) (fun s3 ht3 hK => ?_)
  have hs3 : RSv s3 va D := Known.rs hK (u8s_one _)
  have hG := hG.mv ht3
  clear hK
  refine ln_callT (i := 0) en_71 rfl rfl (fun u hu hok hav => readfU_AlterPartitionResponse u b v D _ (RSv.mv hs3 hu) (by omega) (hG.mv hu) h0 h1 hok hav) rfl ?_
  rintro u4 r4 _ ht4 ⟨ux4, ⟨cells, rfl, hor⟩, hx4⟩
  rcases hor with ⟨hbd, ety, ex, rfl⟩ | ⟨hbd, rfl, hM⟩
  · skip
    refine ln_pv (pv_neqT Tryd.underlying51 rfl) rfl ?_
    refine ln_cd ?_
    refine cd_tt rfl ?_
    refine cd_sr ?_
    refine ln_pv (pv_struct [(0, 1), (1, 1), (2, 1), (3, 1), (4, 1)] (l := [.int .i64 0, .slice none 0 0, .bool false, .slice none 0 0, .slice none 0 0]) rfl Tryd.underlying27 tiimpl_Tree (by kernel_rfl) rfl rfl) rfl ?_
    refine ln_storeW (i := 1) (vs := [.int .i64 0, .slice none 0 0, .bool false, .slice none 0 0, .slice none 0 0]) rfl rfl rfl rfl tiimpl_Tree.size rfl (by simp [Value.oneCell']) ?_
    refine ln_pv (pv_assign rfl) rfl ?_
    refine ln_cd ?_
    refine cd_ret ?_
    exact at_retCA2 (i := 1) rfl rfl rfl rfl Tryd.underlying27 rfl tiimpl_Tree.size rfl (fun w hS => .inl ⟨hbd, _, rfl, rfl, by simp [Value.oneCell']⟩)
  have hM := hM.mv hx4
  refine ln_pv (pv_neqI Tryd.underlying51 rfl) rfl ?_
  refine ln_cd ?_
  refine cd_ff rfl ?_
  refine cd_skip ?_
  refine at_cd ?_
  refine cd_free1 (fun q h => h.elim) (fun s9 hs9 hK => ?_)
  have hob : OB s9 b (.cells (.int .i16 v :: cells).toArray 131) := hK
  clear hK
  have hM := hM.mv hs9
  refine cd_sr ?_
  refine ln_pv (pv_move rfl) rfl ?_
  refine ln_callA en_70 rfl (fun u hu => tell_AlterPartitionResponse u b v (dcP F_AlterPartitionResponse v (flexB 0 v) (D, false)).1 cells (hob.mv hu).rc (hM.mv hu) (tgT_dc v _ (by kernel_rfl) (by dsimp only; omega))) rfl (fun u7 v7 ht7 hR7 => ?_)
  obtain ⟨ds, rfl, hds⟩ := hR7
  refine ln_storeW (i := 0) rfl rfl rfl rfl tiimpl_Tree.size hds.len hds.cells ?_
  refine ln_pv (pv_assign rfl) rfl ?_
  refine ln_cd ?_
  refine cd_ret ?_
  exact at_retCA2 (i := 0) rfl rfl rfl rfl Tryd.underlying27 rfl tiimpl_Tree.size hds.len (fun w hS => .inr ⟨hbd, ds, rfl, hds.mv hS.trFin⟩)
theorem fn_AlterPartitionResponse (t : Vw) (n : Nat) (D : List UInt8) (sv : Value) (hn8 : n < 256) (hsv : RSv t sv D) (hDm : D.length ≤ 1048576) (hEG : EG t) : CS Tryd.prog 8 [.int .u8 (n : Int), sv] t (.bool true) := by
  have hok := ok_F_AlterPartitionResponse
  have hvn : versionN n 3 ≤ 3 := by have := Nat.mod_lt n (show 0 < 3 + 1 by omega); unfold versionN; omega
  obtain ⟨adD, cD, rfl, hleD⟩ := hsv.shape
  refine CA.cs ?_
  refine ca_enter Tryd.func8 rfl Tryd.ntmps8 rfl ?_
  by_cases hlong : 1000 < D.length
  · skip
    refine cd_sr ?_
    refine ln_pv (pv_assign rfl) rfl ?_
    refine ln_cd ?_
    refine cd_seq ?_
    refine cd_sr ?_
    refine ln_pv (pv_move rfl) rfl ?_
    refine ln_pv (pv_len_slice Tryd.underlying22 rfl) rfl ?_
    refine ln_pv (pv_ff (pv_gtr rfl rfl) (by omega)) rfl ?_
    refine ln_cd ?_
    refine cd_ff rfl ?_
    refine cd_skip ?_
    refine at_cd ?_
    refine cd_sr ?_
    refine ln_callS en_28 rfl (fun u hu => max_AlterPartitionResponse u) rfl ?_
    refine ln_pv (pv_assign rfl) rfl ?_
    refine ln_cd ?_
    refine cd_seq ?_
    refine cd_sr ?_
    refine ln_pv (pv_move rfl) rfl ?_
    refine ln_pv (pv_ff (pv_lss rfl rfl) (by omega)) rfl ?_
    refine ln_cd ?_
    refine cd_ff rfl ?_
    refine cd_skip ?_
    refine at_cd ?_
    refine cd_seq ?_
    refine cd_sr ?_
    refine ln_pv (pv_move rfl) rfl ?_
    refine ln_pv (pv_len_slice Tryd.underlying22 rfl) rfl ?_
    refine ln_pv (pv_tt (pv_gtr rfl rfl) (by omega)) rfl ?_
    refine ln_cd ?_
    refine cd_tt rfl ?_
    refine cd_sr ?_
    refine ln_pv (pv_assign rfl) rfl ?_
    refine ln_cd ?_
    refine cd_ret ?_
    refine at_retA rfl rfl (fun w hS => ?_)
    rfl
  have htg : tgT F_AlterPartitionResponse (dcP F_AlterPartitionResponse ((versionN n 3 : Nat) : Int) (flexB 0 ((versionN n 3 : Nat) : Int)) (D, false)).1 := tgT_dc ((versionN n 3 : Nat) : Int) _ (by kernel_rfl) (by dsimp only; omega)
  cases hbd : (dcP F_AlterPartitionResponse ((versionN n 3 : Nat) : Int) (flexB 0 ((versionN n 3 : Nat) : Int)) (D, false)).2.2 with
  | true =>
    refine cd_sr ?_
    refine ln_pv (pv_assign rfl) rfl ?_
    refine ln_cd ?_
    refine cd_seq ?_
    refine cd_sr ?_
    refine ln_pv (pv_move rfl) rfl ?_
    refine ln_pv (pv_len_slice Tryd.underlying22 rfl) rfl ?_
    refine ln_pv (pv_ff (pv_gtr rfl rfl) (by omega)) rfl ?_
    refine ln_cd ?_
    refine cd_ff rfl ?_
    refine cd_skip ?_
    refine at_cd ?_
    refine cd_sr ?_
    refine ln_callS en_28 rfl (fun u hu => max_AlterPartitionResponse u) rfl ?_
    refine ln_pv (pv_assign rfl) rfl ?_
    refine ln_cd ?_
    refine cd_seq ?_
    refine cd_sr ?_
    refine ln_pv (pv_move rfl) rfl ?_
    refine ln_pv (pv_ff (pv_lss rfl rfl) (by omega)) rfl ?_
    refine ln_cd ?_
    refine cd_ff rfl ?_
    refine cd_skip ?_
    refine at_cd ?_
    refine cd_seq ?_
    refine cd_sr ?_
    refine ln_pv (pv_move rfl) rfl ?_
    refine ln_pv (pv_len_slice Tryd.underlying22 rfl) rfl ?_
    refine ln_pv (pv_ff (pv_gtr rfl rfl) (by omega)) rfl ?_
    refine ln_cd ?_
    refine cd_ff rfl ?_
    refine cd_skip ?_
    refine at_cd ?_
    refine cd_sr ?_
    refine ln_pv (pv_move rfl) rfl ?_
    refine ln_pv (pv_move rfl) rfl ?_
    refine ln_callS en_12 rfl (fun u hu => laws_version u n 3 hn8 (by omega)) rfl ?_
    refine ln_pv (pv_move rfl) rfl ?_
    refine ln_callA en_29 rfl (fun u hu => doorT_AlterPartitionResponse u ((versionN n 3 : Nat) : Int) D _ (RSv.mv hsv hu) (by omega) (EG.mv hEG hu) (by omega) (by omega)) rfl (fun u1 v1 ht1 hR1 => ?_)
    have hsv := hsv.mv ht1
    have hEG := hEG.mv ht1
    obtain ⟨ds1, rfl, hl1, hc1⟩ := (hR1.resolve_right (fun h => by rw [hbd] at h; exact absurd h.1 (by decide))).2
    refine ln_pv (pv_move rfl) rfl ?_
    refine ln_pv (pv_extract rfl rfl) rfl ?_
    refine ln_pv (pv_extract rfl rfl) rfl ?_
    refine ln_alloc tiimpl_Tree rfl rfl (fun b1 => ?_)
    refine ln_storeW (i := 0) rfl rfl rfl rfl (tiimpl_Tree).size hl1 hc1 ?_
    refine ln_pv (pv_assign rfl) rfl ?_
    refine ln_cd ?_
    refine cd_sr ?_
    refine ln_pv (pv_move rfl) rfl ?_
    refine ln_pv (pv_move rfl) rfl ?_
    refine ln_callS en_12 rfl (fun u hu => laws_version u n 3 hn8 (by omega)) rfl ?_
    refine ln_pv (pv_move rfl) rfl ?_
    refine ln_callA en_30 rfl (fun u hu => doorU_AlterPartitionResponse u ((versionN n 3 : Nat) : Int) D _ (RSv.mv hsv hu) (by omega) (EG.mv hEG hu) (by omega) (by omega)) rfl (fun u2 v2 ht2 hR2 => ?_)
    have hsv := hsv.mv ht2
    have hEG := hEG.mv ht2
    obtain ⟨ds2, rfl, hl2, hc2⟩ := (hR2.resolve_right (fun h => by rw [hbd] at h; exact absurd h.1 (by decide))).2
    refine ln_pv (pv_move rfl) rfl ?_
    refine ln_pv (pv_extract rfl rfl) rfl ?_
    refine ln_pv (pv_extract rfl rfl) rfl ?_
    refine ln_alloc tiimpl_Tree rfl rfl (fun b2 => ?_)
    refine ln_storeW (i := 0) rfl rfl rfl rfl (tiimpl_Tree).size hl2 hc2 ?_
    refine ln_pv (pv_assign rfl) rfl ?_
    refine ln_cd ?_
    refine cd_dr' [0, 1] [0, 1, 6, 7, 9, 12, 13, 14] [0, 1, 2, 3, 4, 5, 6, 7, 9, 8, 10, 11, 12, 13, 14] mixed (by kernel_rfl) ?_
    refine lo_pv rfl rfl (sk_js (Tr.refl _) [0, 1] rfl) (pv_move rfl) rfl ?_
    refine lo_pv rfl rfl (sk_js (Tr.refl _) [0, 1] rfl) (pv_move rfl) rfl ?_
    refine lo_eff rfl rfl ?_
    refine ln_pv (pv_eqB Tryd.underlying4 rfl rfl rfl) rfl ?_
    refine lo_back (sk_js (Tr.refl _) [0, 1] rfl) ?_
    refine lo_eff rfl rfl ?_
    refine ln_pv (pv_move rfl) rfl ?_
    refine lo_back (sk_js (Tr.refl _) [0, 1] rfl) ?_
    refine lo_eff rfl rfl ?_
    refine ln_gt rfl rfl rfl (pv_move rfl) rfl ?_
    refine lo_back (sk_js (Tr.refl _) [0, 1] rfl) ?_
    refine lo_eff rfl rfl ?_
    refine ln_gt rfl rfl rfl (pv_not rfl) rfl ?_
    refine lo_back (sk_js (Tr.refl _) [0, 1] rfl) ?_
    refine lo_gt rfl rfl (sk_js (Tr.refl _) [0, 1] rfl) rfl rfl rfl (pv_move rfl) rfl ?_
    refine lo_gf rfl rfl (sk_js (Tr.refl _) [0, 1] rfl) rfl rfl rfl rfl rfl ?_
    refine lo_gf rfl rfl (sk_js (Tr.refl _) [0, 1] rfl) rfl rfl rfl rfl rfl ?_
    refine lo_ef rfl rfl (fun _ => sk_js (Tr.refl _) [0, 1] rfl) rfl rfl rfl rfl rfl ?_
    refine lo_ef rfl rfl (fun _ => sk_js (Tr.refl _) [0, 1] rfl) rfl rfl rfl rfl rfl ?_
    refine lo_ef rfl rfl (fun _ => sk_js (Tr.refl _) [0, 1] rfl) rfl rfl rfl rfl rfl ?_
    refine lo_gt rfl rfl (sk_js (Tr.refl _) [0, 1] rfl) rfl rfl rfl (pv_pick rfl (fun _ => rfl) (fun _ => rfl)) rfl ?_
    refine lo_pv rfl rfl (sk_js (Tr.refl _) [0, 1] rfl) (pv_pick rfl (fun _ => rfl) (fun _ => rfl)) rfl ?_
    refine lo_pv rfl rfl (sk_js (Tr.refl _) [0, 1] rfl) (pv_assign rfl) rfl ?_
    refine lo_cd ?_
    refine cd_ret ?_
    refine at_retA rfl rfl (fun w hS => ?_)
    rfl
  | false =>
    refine cd_sr ?_
    refine ln_pv (pv_assign rfl) rfl ?_
    refine ln_cd ?_
    refine cd_seq ?_
    refine cd_sr ?_
    refine ln_pv (pv_move rfl) rfl ?_
    refine ln_pv (pv_len_slice Tryd.underlying22 rfl) rfl ?_
    refine ln_pv (pv_ff (pv_gtr rfl rfl) (by omega)) rfl ?_
    refine ln_cd ?_
    refine cd_ff rfl ?_
    refine cd_skip ?_
    refine at_cd ?_
    refine cd_sr ?_
    refine ln_callS en_28 rfl (fun u hu => max_AlterPartitionResponse u) rfl ?_
    refine ln_pv (pv_assign rfl) rfl ?_
    refine ln_cd ?_
    refine cd_seq ?_
    refine cd_sr ?_
    refine ln_pv (pv_move rfl) rfl ?_
    refine ln_pv (pv_ff (pv_lss rfl rfl) (by omega)) rfl ?_
    refine ln_cd ?_
    refine cd_ff rfl ?_
    refine cd_skip ?_
    refine at_cd ?_
    refine cd_seq ?_
    refine cd_sr ?_
    refine ln_pv (pv_move rfl) rfl ?_
    refine ln_pv (pv_len_slice Tryd.underlying22 rfl) rfl ?_
    refine ln_pv (pv_ff (pv_gtr rfl rfl) (by omega)) rfl ?_
    refine ln_cd ?_
    refine cd_ff rfl ?_
    refine cd_skip ?_
    refine at_cd ?_
    refine cd_sr ?_
    refine ln_pv (pv_move rfl) rfl ?_
    refine ln_pv (pv_move rfl) rfl ?_
    refine ln_callS en_12 rfl (fun u hu => laws_version u n 3 hn8 (by omega)) rfl ?_
    refine ln_pv (pv_move rfl) rfl ?_
    refine ln_callA en_29 rfl (fun u hu => doorT_AlterPartitionResponse u ((versionN n 3 : Nat) : Int) D _ (RSv.mv hsv hu) (by omega) (EG.mv hEG hu) (by omega) (by omega)) rfl (fun u1 v1 ht1 hR1 => ?_)
    have hsv := hsv.mv ht1
    have hEG := hEG.mv ht1
    obtain ⟨ds1, rfl, hT1⟩ := (hR1.resolve_left (fun h => by rw [hbd] at h; exact absurd h.1 (by decide))).2
    refine ln_pv (pv_move rfl) rfl ?_
    refine ln_pv (pv_extract rfl rfl) rfl ?_
    refine ln_pv (pv_extract rfl rfl) rfl ?_
    refine ln_alloc tiimpl_Tree rfl rfl (fun b1 => ?_)
    refine ln_storeW (i := 0) rfl rfl rfl rfl (tiimpl_Tree).size hT1.len hT1.cells ?_
    refine ln_pv (pv_assign rfl) rfl ?_
    refine ln_cd ?_
    refine cd_sr ?_
    refine ln_pv (pv_move rfl) rfl ?_
    refine ln_pv (pv_move rfl) rfl ?_
    refine ln_callS en_12 rfl (fun u hu => laws_version u n 3 hn8 (by omega)) rfl ?_
    refine ln_pv (pv_move rfl) rfl ?_
    refine ln_callA en_30 rfl (fun u hu => doorU_AlterPartitionResponse u ((versionN n 3 : Nat) : Int) D _ (RSv.mv hsv hu) (by omega) (EG.mv hEG hu) (by omega) (by omega)) rfl (fun u2 v2 ht2 hR2 => ?_)
    have hsv := hsv.mv ht2
    have hEG := hEG.mv ht2
    have hT1 := hT1.mv ht2
    obtain ⟨ds2, rfl, hT2⟩ := (hR2.resolve_left (fun h => by rw [hbd] at h; exact absurd h.1 (by decide))).2
    refine ln_pv (pv_move rfl) rfl ?_
    refine ln_pv (pv_extract rfl rfl) rfl ?_
    refine ln_pv (pv_extract rfl rfl) rfl ?_
    refine ln_alloc tiimpl_Tree rfl rfl (fun b2 => ?_)
    refine ln_storeW (i := 0) rfl rfl rfl rfl (tiimpl_Tree).size hT2.len hT2.cells ?_
    refine ln_pv (pv_assign rfl) rfl ?_
    refine ln_cd ?_
    refine cd_dr' [0, 1] [0, 1, 6, 7, 9, 12, 13, 14] [0, 1, 2, 3, 4, 5, 6, 7, 9, 8, 10, 11, 12, 13, 14] mixed (by kernel_rfl) ?_
    refine lo_pv rfl rfl (sk_js (Tr.refl _) [0, 1] rfl) (pv_move rfl) rfl ?_
    refine lo_pv rfl rfl (sk_js (Tr.refl _) [0, 1] rfl) (pv_move rfl) rfl ?_
    refine lo_eff rfl rfl ?_
    refine ln_pv (pv_eqB Tryd.underlying4 rfl rfl rfl) rfl ?_
    refine lo_back (sk_js (Tr.refl _) [0, 1] rfl) ?_
    refine lo_eff rfl rfl ?_
    refine ln_pv (pv_move rfl) rfl ?_
    refine lo_back (sk_js (Tr.refl _) [0, 1] rfl) ?_
    refine lo_eff rfl rfl ?_
    refine ln_gt rfl rfl rfl (pv_move rfl) rfl ?_
    refine lo_back (sk_js (Tr.refl _) [0, 1] rfl) ?_
    refine lo_eff rfl rfl ?_
    refine ln_gt rfl rfl rfl (pv_not rfl) rfl ?_
    refine lo_back (sk_js (Tr.refl _) [0, 1] rfl) ?_
    refine lo_gt rfl rfl (sk_js (Tr.refl _) [0, 1] rfl) rfl rfl rfl (pv_move rfl) rfl ?_
    refine lo_gt rfl rfl (sk_js (Tr.refl _) [0, 1] rfl) rfl rfl rfl (pv_ldO (i := 1) rfl Tryd.underlying27 rfl (tiimpl_Tree).size rfl hT1.len) rfl ?_
    refine lo_gt rfl rfl (sk_js (Tr.refl _) [0, 1] rfl) rfl rfl rfl (pv_ldO (i := 0) rfl Tryd.underlying27 rfl (tiimpl_Tree).size rfl hT2.len) rfl ?_
    refine lo_eff rfl rfl ?_
    refine ln_gE rfl rfl rfl ?_
    refine ln_callA en_15 rfl (fun u hu => laws_got (tlT F_AlterPartitionResponse (dcP F_AlterPartitionResponse ((versionN n 3 : Nat) : Int) (flexB 0 ((versionN n 3 : Nat) : Int)) (D, false)).1) u _ (RT.mv hT1 hu) (smT_tlT hok.1 (by decide) htg)) rfl (fun u3 v3 ht3 hR3 => ?_)
    have hsv := hsv.mv ht3
    have hEG := hEG.mv ht3
    have hT1 := hT1.mv ht3
    have hT2 := hT2.mv ht3
    obtain ⟨dg1, rfl, hG1⟩ := hR3
    refine lo_back (sk_js ht3 [0, 1] rfl) ?_
    refine lo_eff rfl rfl ?_
    refine ln_gE rfl rfl rfl ?_
    refine ln_callA en_15 rfl (fun u hu => laws_got (tlT F_AlterPartitionResponse (dcP F_AlterPartitionResponse ((versionN n 3 : Nat) : Int) (flexB 0 ((versionN n 3 : Nat) : Int)) (D, false)).1) u _ (RT.mv hT2 hu) (smT_tlT hok.1 (by decide) htg)) rfl (fun u4 v4 ht4 hR4 => ?_)
    have hsv := hsv.mv ht4
    have hEG := hEG.mv ht4
    have hT1 := hT1.mv ht4
    have hT2 := hT2.mv ht4
    have hG1 := hG1.mv ht4
    obtain ⟨dg2, rfl, hG2⟩ := hR4
    refine lo_back (sk_js (ht3.trans ht4) [0, 1] rfl) ?_
    refine lo_eff rfl rfl ?_
    refine ln_gE rfl rfl rfl ?_
    refine ln_callS en_14 rfl (fun u hu => spec_SameTree (tlT F_AlterPartitionResponse (dcP F_AlterPartitionResponse ((versionN n 3 : Nat) : Int) (flexB 0 ((versionN n 3 : Nat) : Int)) (D, false)).1) u _ _ (RT.mv hG1 hu) (RT.mv hG2 hu) (smT_tlT hok.1 (by decide) htg) (smV_tlT htg)) rfl ?_
    refine lo_back (sk_js (ht3.trans ht4) [0, 1] rfl) ?_
    refine lo_gt rfl rfl (sk_js (ht3.trans ht4) [0, 1] rfl) rfl rfl rfl (pv_pick rfl (fun _ => rfl) (fun _ => rfl)) rfl ?_
    refine lo_pv rfl rfl (sk_js (ht3.trans ht4) [0, 1] rfl) (pv_pick rfl (fun _ => rfl) (fun _ => rfl)) rfl ?_
    refine lo_pv rfl rfl (sk_js (ht3.trans ht4) [0, 1] rfl) (pv_assign rfl) rfl ?_
    refine lo_cd ?_
    refine cd_ret ?_
    refine at_retA rfl rfl (fun w hS => ?_)
    rfl
end K
end Go.Proofs.YtjjfpdofkdolnaaDoor
