import Derived.Test.YtjjfpdofkdolnaaDoorMgr
import Derived.Test.YtjjfpdofkdolnaaDoorMgt
import Derived.Test.YtjjfpdofkdolnaaDoorMgs
set_option linter.unusedVariables false
set_option linter.unusedSimpArgs false
namespace Go.Proofs.YtjjfpdofkdolnaaDoor
namespace K
open Go Go.Lib
theorem new_txn (t : Vw) : CS Tryd.prog 72 [] t (.agg (([.int .i16 0, .int .i64 0, .int .i16 0, .int .i32 0, .int .i8 0, .slice none 0 0, .int .i64 0, .int .i64 0, .int .i64 (-1), .int .i64 (-1), .int .i16 0, .int .i16 (-1), .map none] : List Value)).toArray) := by
  refine CA.cs ?_
  refine ca_enter Tryd.func72 rfl Tryd.ntmps72 rfl ?_
  refine cd_sr ?_
  refine ln_alloc (l := [.int .i16 0, .int .i64 0, .int .i16 0, .int .i32 0, .int .i8 0, .slice none 0 0, .int .i64 0, .int .i64 0, .int .i64 0, .int .i64 0, .int .i16 0, .int .i16 0, .map none]) tipub_kmsg_TxnMetadataValue rfl rfl (fun b0 => ?_)
  refine ln_cd ?_
  refine cd_sr ?_
  refine ln_alloc (l := [.int .i16 0, .int .i64 0, .int .i16 0, .int .i32 0, .int .i8 0, .slice none 0 0, .int .i64 0, .int .i64 0, .int .i64 0, .int .i64 0, .int .i16 0, .int .i16 0, .map none]) tipub_kmsg_TxnMetadataValue rfl rfl (fun b1 => ?_)
  refine ln_cd ?_
  refine cd_sr ?_
  refine ln_callT (i := 0) en_105 rfl rfl (fun u hu hok hav => df_TxnMetadataValue _ _ _ _ _ _ _ _ _ _ _ _ _ (fun w => .obj b1 (.cells w.toArray 81)) b1 0 (Tgt.obj b1 81 13) u hok hav) rfl ?_
  rintro u1 _ _ ht1 ⟨_, ⟨rfl, rfl⟩, _⟩
  refine ln_cd ?_
  refine cd_sr ?_
  refine ln_pv (pv_ldO (i := 0) rfl Tryd.underlying81 rfl tipub_kmsg_TxnMetadataValue.size rfl rfl) rfl ?_
  refine ln_storeW (i := 1) (vs := ([.int .i16 0, .int .i64 0, .int .i16 0, .int .i32 0, .int .i8 0, .slice none 0 0, .int .i64 0, .int .i64 0, .int .i64 (-1), .int .i64 (-1), .int .i16 0, .int .i16 (-1), .map none] : List Value)) rfl rfl rfl rfl tipub_kmsg_TxnMetadataValue.size rfl (by simp [Value.oneCell']) ?_
  refine ln_cd ?_
  refine cd_ret ?_
  exact at_retC (i := 1) rfl rfl rfl Tryd.underlying81 rfl tipub_kmsg_TxnMetadataValue.size rfl (fun w hS => rfl)
theorem readfT_TxnMetadataValue (t : Vw) (b : Nat) (D : List UInt8) (sv : Value) (hsv : RSv t sv D) (hD : D.length ≤ 32767) (hG : EG t) (hok : (MsgBox b 81 ([.int .i16 0, .int .i64 0, .int .i16 0, .int .i32 0, .int .i8 0, .slice none 0 0, .int .i64 0, .int .i64 0, .int .i64 (-1), .int .i64 (-1), .int .i16 0, .int .i16 (-1), .map none] : List Value)).ok t.w) (hav : ∀ q ∈ (MsgBox b 81 ([.int .i16 0, .int .i64 0, .int .i16 0, .int .i32 0, .int .i8 0, .slice none 0 0, .int .i64 0, .int .i64 0, .int .i64 (-1), .int .i64 (-1), .int .i16 0, .int .i16 (-1), .map none] : List Value)).blk, t.av q) : CT Tryd.prog 73 [.pointer (some ⟨b, 0, none⟩), sv] t (MsgBox b 81 ([.int .i16 0, .int .i64 0, .int .i16 0, .int .i32 0, .int .i8 0, .slice none 0 0, .int .i64 0, .int .i64 0, .int .i64 (-1), .int .i64 (-1), .int .i16 0, .int .i16 (-1), .map none] : List Value)) fun u r e' => ∃ cells, e' = MsgBox b 81 (.int .i16 (tV (D, false)) :: cells) ∧ (((tE (D, false)).1.2 = true ∧ ∃ ty x, r = .iface ty x) ∨ ((tE (D, false)).1.2 = false ∧ r = .nilIface ∧ RMp u tAll (tY (D, false)) cells)) := by
  refine ct_enter Tryd.func73 rfl Tryd.ntmps73 rfl hok hav (by simp [Ent.blk]) ?_
  refine cd_sr ?_
  refine ln_pv (pv_assign rfl) rfl ?_
  refine ln_cd ?_
  refine cd_sr ?_
  refine ln_pv (pv_move rfl) rfl ?_
  refine ln_pv (pv_move rfl) rfl ?_
  refine ln_callT (i := 0) en_106 rfl rfl (fun u hu hok hav => readu_TxnMetadataValue u b false D sv (RSv.mv hsv hu) hD (hG.mv hu) hok hav) rfl ?_
  rintro u2 r2 _ ht2 ⟨ux, ⟨cells, rfl, hor⟩, hx⟩
  refine ln_pv (pv_assign rfl) rfl ?_
  refine ln_cd ?_
  refine cd_ret ?_
  refine at_retT (i := 0) rfl rfl rfl (fun w hS => ⟨cells, rfl, ?_⟩)
  rcases hor with ⟨h1, h2⟩ | ⟨h1, h2, hM⟩
  · exact .inl ⟨h1, h2⟩
  · exact .inr ⟨h1, h2, (hM.mv hx).mv (hS.trFinT _ _)⟩
theorem readfU_TxnMetadataValue (t : Vw) (b : Nat) (D : List UInt8) (sv : Value) (hsv : RSv t sv D) (hD : D.length ≤ 32767) (hG : EG t) (hok : (MsgBox b 81 ([.int .i16 0, .int .i64 0, .int .i16 0, .int .i32 0, .int .i8 0, .slice none 0 0, .int .i64 0, .int .i64 0, .int .i64 (-1), .int .i64 (-1), .int .i16 0, .int .i16 (-1), .map none] : List Value)).ok t.w) (hav : ∀ q ∈ (MsgBox b 81 ([.int .i16 0, .int .i64 0, .int .i16 0, .int .i32 0, .int .i8 0, .slice none 0 0, .int .i64 0, .int .i64 0, .int .i64 (-1), .int .i64 (-1), .int .i16 0, .int .i16 (-1), .map none] : List Value)).blk, t.av q) : CT Tryd.prog 78 [.pointer (some ⟨b, 0, none⟩), sv] t (MsgBox b 81 ([.int .i16 0, .int .i64 0, .int .i16 0, .int .i32 0, .int .i8 0, .slice none 0 0, .int .i64 0, .int .i64 0, .int .i64 (-1), .int .i64 (-1), .int .i16 0, .int .i16 (-1), .map none] : List Value)) fun u r e' => ∃ cells, e' = MsgBox b 81 (.int .i16 (tV (D, false)) :: cells) ∧ (((tE (D, false)).1.2 = true ∧ ∃ ty x, r = .iface ty x) ∨ ((tE (D, false)).1.2 = false ∧ r = .nilIface ∧ RMp u tAll (tY (D, false)) cells)) := by
  refine ct_enter Tryd.func78 rfl Tryd.ntmps78 rfl hok hav (by simp [Ent.blk]) ?_
  refine cd_sr ?_
  refine ln_pv (pv_assign rfl) rfl ?_
  refine ln_cd ?_
  refine cd_sr ?_
  refine ln_pv (pv_move rfl) rfl ?_
  refine ln_pv (pv_move rfl) rfl ?_
  refine ln_callT (i := 0) en_106 rfl rfl (fun u hu hok hav => readu_TxnMetadataValue u b true D sv (RSv.mv hsv hu) hD (hG.mv hu) hok hav) rfl ?_
  rintro u2 r2 _ ht2 ⟨ux, ⟨cells, rfl, hor⟩, hx⟩
  refine ln_pv (pv_assign rfl) rfl ?_
  refine ln_cd ?_
  refine cd_ret ?_
  refine at_retT (i := 0) rfl rfl rfl (fun w hS => ⟨cells, rfl, ?_⟩)
  rcases hor with ⟨h1, h2⟩ | ⟨h1, h2, hM⟩
  · exact .inl ⟨h1, h2⟩
  · exact .inr ⟨h1, h2, (hM.mv hx).mv (hS.trFinT _ _)⟩
/-- what is told: the tree, and its version -/
noncomputable def tTd (s : Rst) : Tre := .mk (tV s) [] false (tlL tAll (tY s) 0) (tY s).u
theorem smT_tTd {s : Rst} (hK : s.1.length ≤ 32767) : smT (tTd s) := (smT_tlT (fs := tAll) (by kernel_rfl) (by decide) (tgT_tY hK) : smT (tlT tAll (tY s)))
theorem smV_tTd {s : Rst} (hK : s.1.length ≤ 32767) : smV (tTd s) := (smV_tlT (tgT_tY hK) : smV (tlT tAll (tY s)))
theorem doorT_TxnMetadataValue (t : Vw) (D : List UInt8) (sv : Value) (hsv : RSv t sv D) (hD : D.length ≤ 1000) (hG : EG t) : CA Tryd.prog 31 [sv] t fun u r => ((tE (D, false)).1.2 = true ∧ ∃ ds : List Value, r = .tuple #[.agg ds.toArray, .bool false] ∧ ds.length = 5 ∧ ∀ c ∈ ds, c.oneCell' = true) ∨ ((tE (D, false)).1.2 = false ∧ ∃ ds : List Value, r = .tuple #[.agg ds.toArray, .bool true] ∧ RT u (tTd (D, false)) ds) := by
  refine ca_enter Tryd.func31 rfl Tryd.ntmps31 rfl ?_
  refine cd_sr ?_
  refine ln_alloc (l := [_, _, _, _, _]) tiimpl_Tree rfl rfl (fun br => ?_)
  refine ln_pv (pv_assign rfl) rfl ?_
  refine ln_cd ?_
  refine cd_sr ?_
  refine ln_callS (vals := []) en_72 rfl (fun u hu => new_txn u) rfl ?_
  refine ln_alloc (l := [.int .i16 0, .int .i64 0, .int .i16 0, .int .i32 0, .int .i8 0, .slice none 0 0, .int .i64 0, .int .i64 0, .int .i64 0, .int .i64 0, .int .i16 0, .int .i16 0, .map none]) tipub_kmsg_TxnMetadataValue rfl rfl (fun b => ?_)
  refine ln_storeW (i := 0) (vs := ([.int .i16 0, .int .i64 0, .int .i16 0, .int .i32 0, .int .i8 0, .slice none 0 0, .int .i64 0, .int .i64 0, .int .i64 (-1), .int .i64 (-1), .int .i16 0, .int .i16 (-1), .map none] : List Value)) rfl rfl rfl rfl tipub_kmsg_TxnMetadataValue.size rfl (by simp [Value.oneCell']) ?_
  refine ln_cd ?_
  refine cd_seq ?_
  refine cd_sr ?_
  refine ln_pv (pv_move rfl) rfl ?_
  refine ln_nilrow 5 1 ?_
  refine ln_append (i := 0) rfl Tryd.underlying22 tiuint8 rfl (by decide) rfl rfl (RS.src hsv) (by simp only [maxLen]; omega) (by omega) rfl (k' := (D).length) (xs' := u8s (D)) (by omega) (by simp) (fun va hva => ?_)
  refine ln_free1 (fun q h => h.elim) (fun s3 ht3 hK => ?_)
  have hs3 : RSv s3 va D := Known.rs hK (u8s_one _)
  have hG := hG.mv ht3
  clear hK
  refine ln_callT (i := 0) en_73 rfl rfl (fun u hu hok hav => readfT_TxnMetadataValue u b D _ (RSv.mv hs3 hu) (by omega) (hG.mv hu) hok hav) rfl ?_
  rintro u4 r4 _ ht4 ⟨ux4, ⟨cells, rfl, hor⟩, hx4⟩
  rcases hor with ⟨hbd, ety, ex, rfl⟩ | ⟨hbd, rfl, hM⟩
  · skip
    refine ln_pv (pv_neqT Tryd.underlying51 rfl) rfl ?_
    refine ln_cd ?_
    refine cd_tt rfl ?_
    refine cd_sr ?_
    refine ln_pv (pv_struct [(0, 1), (1, 1), (2, 1), (3, 1), (4, 1)] (l := [.int .i64 0, .slice none 0 0, .bool false, .slice none 0 0, .slice none 0 0]) rfl Tryd.underlying27 tiimpl_Tree (by kernel_rfl) rfl rfl) rfl ?_
    refine ln_storeW (i := 1) (vs := [.int .i64 0, .slice none 0 0, .bool false, .slice none 0 0, .slice none 0 0]) rfl rfl rfl rfl tiimpl_Tree.size rfl (by simp [Value.oneCell']) ?_
    refine ln_pv (pv_assign rfl) rfl ?_
    refine ln_cd ?_
    refine cd_ret ?_
    exact at_retCA2 (i := 1) rfl rfl rfl rfl Tryd.underlying27 rfl tiimpl_Tree.size rfl (fun w hS => .inl ⟨hbd, _, rfl, rfl, by simp [Value.oneCell']⟩)
  have hM := hM.mv hx4
  refine ln_pv (pv_neqI Tryd.underlying51 rfl) rfl ?_
  refine ln_cd ?_
  refine cd_ff rfl ?_
  refine cd_skip ?_
  refine at_cd ?_
  refine cd_free1 (fun q h => h.elim) (fun s9 hs9 hK => ?_)
  have hob : OB s9 b (.cells (.int .i16 (tV (D, false)) :: cells).toArray 81) := hK
  clear hK
  have hM := hM.mv hs9
  refine cd_sr ?_
  refine ln_callA en_74 rfl (fun u hu => tell_TxnMetadataValue u b (tV (D, false)) (tY (D, false)) cells (hob.mv hu).rc (hM.mv hu) (tgT_tY (by dsimp only; omega))) rfl (fun u7 v7 ht7 hR7 => ?_)
  obtain ⟨ds, rfl, hds⟩ := hR7
  obtain ⟨qS, qL, qU, rfl, hqn, hqS, ⟨lcq, hqL, hqLs⟩, ⟨ucq, hqU, hqUs⟩⟩ := hds.open
  have hrc7 := (hob.mv ht7).rc
  refine ln_alloc (l := [.int .i64 0, .slice none 0 0, .bool false, .slice none 0 0, .slice none 0 0]) tiimpl_Tree rfl rfl (fun b5 => ?_)
  refine ln_storeW (i := 0) (vs := [_, _, _, _, _]) rfl rfl rfl rfl tiimpl_Tree.size rfl (by simp [RS.one hqS, RS.one hqL, RS.one hqU]) ?_
  refine ln_cd ?_
  refine cd_sr ?_
  refine ln_pv (pv_fieldAddr (off := 0) (r := 0) Tryd.underlying81 rfl tiint16.size rfl rfl rfl) rfl ?_
  refine ln_pv (pv_ldr (j := 0) hrc7 Tryd.underlying45 rfl rfl rfl) rfl ?_
  refine ln_pv (pv_conv' Tryd.underlying45 Tryd.underlying2 rfl (r := tV (D, false)) (by have := i16_tV (D, false); exact wrap_i64 (by omega) (by omega))) rfl ?_
  refine ln_pv (pv_fieldAddr (off := 0) (r := 0) Tryd.underlying27 rfl tiint64.size rfl rfl rfl) rfl ?_
  refine ln_store1 (i := 0) rfl rfl rfl rfl tiint64.size rfl ?_
  refine ln_cd ?_
  refine cd_sr ?_
  refine ln_pv (pv_ldO (i := 0) rfl Tryd.underlying27 rfl tiimpl_Tree.size rfl rfl) rfl ?_
  refine ln_storeW (i := 1) (vs := [_, _, _, _, _]) rfl rfl rfl rfl tiimpl_Tree.size rfl (by simp [RS.one hqS, RS.one hqL, RS.one hqU]) ?_
  refine ln_pv (pv_assign rfl) rfl ?_
  refine ln_cd ?_
  refine cd_ret ?_
  exact at_retCA2 (i := 1) rfl rfl rfl rfl Tryd.underlying27 rfl tiimpl_Tree.size rfl (fun w hS => .inr ⟨hbd, _, rfl, (RT.shut ⟨_, _, _, rfl, (show I64 (tV (D, false)) from by have := i16_tV (D, false); unfold I64; omega), hqS, ⟨lcq, hqL, hqLs⟩, ⟨ucq, hqU, hqUs⟩⟩ : RT u7 (tTd (D, false)) _).mv hS.trFin⟩)
theorem doorU_TxnMetadataValue (t : Vw) (D : List UInt8) (sv : Value) (hsv : RSv t sv D) (hD : D.length ≤ 1000) (hG : EG t) : CA Tryd.prog 34 [sv] t fun u r => ((tE (D, false)).1.2 = true ∧ ∃ ds : List Value, r = .tuple #[.agg ds.toArray, .bool false] ∧ ds.length = 5 ∧ ∀ c ∈ ds, c.oneCell' = true) ∨ ((tE (D, false)).1.2 = false ∧ ∃ ds : List Value, r = .tuple #[.agg ds.toArray, .bool true] ∧ RT u (tTd (D, false)) ds) := by
  refine ca_enter Tryd.func34 rfl Tryd.ntmps34 rfl ?_
  refine cd_sr ?_
  refine ln_alloc (l := [_, _, _, _, _]) tiimpl_Tree rfl rfl (fun br => ?_)
  refine ln_pv (pv_assign rfl) rfl ?_
  refine ln_cd ?_
  refine cd_sr ?_
  refine ln_callS (vals := []) en_72 rfl (fun u hu => new_txn u) rfl ?_
  refine ln_alloc (l := [.int .i16 0, .int .i64 0, .int .i16 0, .int .i32 0, .int .i8 0, .slice none 0 0, .int .i64 0, .int .i64 0, .int .i64 0, .int .i64 0, .int .i16 0, .int .i16 0, .map none]) tipub_kmsg_TxnMetadataValue rfl rfl (fun b => ?_)
  refine ln_storeW (i := 0) (vs := ([.int .i16 0, .int .i64 0, .int .i16 0, .int .i32 0, .int .i8 0, .slice none 0 0, .int .i64 0, .int .i64 0, .int .i64 (-1), .int .i64 (-1), .int .i16 0, .int .i16 (-1), .map none] : List Value)) rfl rfl rfl rfl tipub_kmsg_TxnMetadataValue.size rfl (by simp [Value.oneCell']) ?_
  refine ln_cd ?_
  refine cd_seq ?_
  refine cd_sr ?_
  refine ln_pv (pv_move rfl) rfl ?_
  refine ln_nilrow 5 1 ?_
  refine ln_append (i := 0) rfl Tryd.underlying22 tiuint8 rfl (by decide) rfl rfl (RS.src hsv) (by simp only [maxLen]; omega) (by omega) rfl (k' := (D).length) (xs' := u8s (D)) (by omega) (by simp) (fun va hva => ?_)
  refine ln_free1 (fun q h => h.elim) (fun s3 ht3 hK => ?_)
  have hs3 : RSv s3 va D := Known.rs hK (u8s_one _)
  have hG := hG.mv ht3
  clear hK
  refine ln_callT (i := 0) en_78 rfl rfl (fun u hu hok hav => readfU_TxnMetadataValue u b D _ (RSv.mv hs3 hu) (by omega) (hG.mv hu) hok hav) rfl ?_
  rintro u4 r4 _ ht4 ⟨ux4, ⟨cells, rfl, hor⟩, hx4⟩
  rcases hor with ⟨hbd, ety, ex, rfl⟩ | ⟨hbd, rfl, hM⟩
  · skip
    refine ln_pv (pv_neqT Tryd.underlying51 rfl) rfl ?_
    refine ln_cd ?_
    refine cd_tt rfl ?_
    refine cd_sr ?_
    refine ln_pv (pv_struct [(0, 1), (1, 1), (2, 1), (3, 1), (4, 1)] (l := [.int .i64 0, .slice none 0 0, .bool false, .slice none 0 0, .slice none 0 0]) rfl Tryd.underlying27 tiimpl_Tree (by kernel_rfl) rfl rfl) rfl ?_
    refine ln_storeW (i := 1) (vs := [.int .i64 0, .slice none 0 0, .bool false, .slice none 0 0, .slice none 0 0]) rfl rfl rfl rfl tiimpl_Tree.size rfl (by simp [Value.oneCell']) ?_
    refine ln_pv (pv_assign rfl) rfl ?_
    refine ln_cd ?_
    refine cd_ret ?_
    exact at_retCA2 (i := 1) rfl rfl rfl rfl Tryd.underlying27 rfl tiimpl_Tree.size rfl (fun w hS => .inl ⟨hbd, _, rfl, rfl, by simp [Value.oneCell']⟩)
  have hM := hM.mv hx4
  refine ln_pv (pv_neqI Tryd.underlying51 rfl) rfl ?_
  refine ln_cd ?_
  refine cd_ff rfl ?_
  refine cd_skip ?_
  refine at_cd ?_
  refine cd_free1 (fun q h => h.elim) (fun s9 hs9 hK => ?_)
  have hob : OB s9 b (.cells (.int .i16 (tV (D, false)) :: cells).toArray 81) := hK
  clear hK
  have hM := hM.mv hs9
  refine cd_sr ?_
  refine ln_callA en_74 rfl (fun u hu => tell_TxnMetadataValue u b (tV (D, false)) (tY (D, false)) cells (hob.mv hu).rc (hM.mv hu) (tgT_tY (by dsimp only; omega))) rfl (fun u7 v7 ht7 hR7 => ?_)
  obtain ⟨ds, rfl, hds⟩ := hR7
  obtain ⟨qS, qL, qU, rfl, hqn, hqS, ⟨lcq, hqL, hqLs⟩, ⟨ucq, hqU, hqUs⟩⟩ := hds.open
  have hrc7 := (hob.mv ht7).rc
  refine ln_alloc (l := [.int .i64 0, .slice none 0 0, .bool false, .slice none 0 0, .slice none 0 0]) tiimpl_Tree rfl rfl (fun b5 => ?_)
  refine ln_storeW (i := 0) (vs := [_, _, _, _, _]) rfl rfl rfl rfl tiimpl_Tree.size rfl (by simp [RS.one hqS, RS.one hqL, RS.one hqU]) ?_
  refine ln_cd ?_
  refine cd_sr ?_
  refine ln_pv (pv_fieldAddr (off := 0) (r := 0) Tryd.underlying81 rfl tiint16.size rfl rfl rfl) rfl ?_
  refine ln_pv (pv_ldr (j := 0) hrc7 Tryd.underlying45 rfl rfl rfl) rfl ?_
  refine ln_pv (pv_conv' Tryd.underlying45 Tryd.underlying2 rfl (r := tV (D, false)) (by have := i16_tV (D, false); exact wrap_i64 (by omega) (by omega))) rfl ?_
  refine ln_pv (pv_fieldAddr (off := 0) (r := 0) Tryd.underlying27 rfl tiint64.size rfl rfl rfl) rfl ?_
  refine ln_store1 (i := 0) rfl rfl rfl rfl tiint64.size rfl ?_
  refine ln_cd ?_
  refine cd_sr ?_
  refine ln_pv (pv_ldO (i := 0) rfl Tryd.underlying27 rfl tiimpl_Tree.size rfl rfl) rfl ?_
  refine ln_storeW (i := 1) (vs := [_, _, _, _, _]) rfl rfl rfl rfl tiimpl_Tree.size rfl (by simp [RS.one hqS, RS.one hqL, RS.one hqU]) ?_
  refine ln_pv (pv_assign rfl) rfl ?_
  refine ln_cd ?_
  refine cd_ret ?_
  exact at_retCA2 (i := 1) rfl rfl rfl rfl Tryd.underlying27 rfl tiimpl_Tree.size rfl (fun w hS => .inr ⟨hbd, _, rfl, (RT.shut ⟨_, _, _, rfl, (show I64 (tV (D, false)) from by have := i16_tV (D, false); unfold I64; omega), hqS, ⟨lcq, hqL, hqLs⟩, ⟨ucq, hqU, hqUs⟩⟩ : RT u7 (tTd (D, false)) _).mv hS.trFin⟩)
theorem spec_Kept (fs : List Fld) (fx : Int) (hok : okFs fs = true) (hlen : fs.length < 1000000) (t : Vw) (vf : Value) (lc cs : List Value) (v : Int) (x : Tre) (hVf : RS t 8 vf fs.length lc) (hFf : RFs t fs lc) (hx : RT t x cs) (hsm : smT x) (hB : (fixed v 2 ++ writeB fs fx v x).length < 1099511627776) : CA Tryd.prog 32 [.agg #[vf, .int .i64 fx], .int .i64 v, .agg cs.toArray] t fun u r => RSv u r (fixed v 2 ++ writeB fs fx v x) := by
  obtain ⟨sS, sL, sU, rfl, hn, hS, ⟨lc, hL, hLs⟩, hU⟩ := hx.open
  obtain ⟨adS, cS, rfl, hleS⟩ := hS.shape
  obtain ⟨adL, cL, rfl, hleL⟩ := hL.shape
  have hU0 := hU
  obtain ⟨uc, hU1, hUs⟩ := hU0
  obtain ⟨hz1, hz2, hz3, hz4⟩ := hsm.open
  refine ca_enter Tryd.func32 rfl Tryd.ntmps32 rfl ?_
  refine cd_sr ?_
  refine ln_box rfl rfl rfl (fun b1 => ?_)
  refine ln_box rfl rfl rfl (fun b2 => ?_)
  refine ln_pv (pv_assign rfl) rfl ?_
  refine ln_cd ?_
  refine cd_dr' [0, 1] [0, 2, 3, 4, 7] [0, 2, 3, 4, 1, 5, 6, 7] mixed (by kernel_rfl) ?_
  refine lo_pv rfl rfl (sk_js (Tr.refl _) [0, 1] rfl) (pv_move rfl) rfl ?_
  refine lo_pv rfl rfl (sk_js (Tr.refl _) [0, 1] rfl) (pv_ldO (i := 1) rfl Tryd.underlying42 rfl (tispec_Message).size rfl rfl) rfl ?_
  refine lo_pv rfl rfl (sk_js (Tr.refl _) [0, 1] rfl) (pv_move rfl) rfl ?_
  refine lo_pv rfl rfl (sk_js (Tr.refl _) [0, 1] rfl) (pv_ldO (i := 0) rfl Tryd.underlying35 rfl (tispec_Tree).size rfl rfl) rfl ?_
  refine lo_eff rfl rfl ?_
  refine ln_nilrow 5 1 ?_
  refine ln_callT (i := 0) en_75 rfl rfl (fun u hu hok hav => CN.ct (spec_Fixed_n u v 2 (by omega))) rfl ?_
  rintro u1 v1 _ ht1 ⟨_, ⟨rfl, h1v1⟩, _⟩
  have hVf := hVf.mv ht1
  have hFf := hFf.mv ht1
  have hx := hx.mv ht1
  refine lo_back (sk_js ht1 [1, 2] rfl) ?_
  refine lo_eff rfl rfl ?_
  refine ln_callA en_76 rfl (fun u hu => spec_Write fs fx hok hlen u _ _ _ v x (RS.mv hVf hu) (RFs.mv hFf hu) (RT.mv hx hu) hsm (by simp only [List.length_append] at hB; omega)) rfl (fun u2 v2 ht2 hR2 => ?_)
  have hVf := hVf.mv ht2
  have hFf := hFf.mv ht2
  have hx := hx.mv ht2
  refine lo_back (sk_js (ht1.trans ht2) [1, 2] rfl) ?_
  refine lo_eff rfl rfl ?_
  refine ln_append (i := 0) rfl Tryd.underlying22 tiuint8 rfl (by decide) rfl rfl (RS.src hR2) (by simp only [List.length_append, maxLen] at hB ⊢; omega) (by simp only [List.length_append, maxLen] at hB ⊢; omega) rfl (k' := (fixed v 2 ++ writeB fs fx v x).length) (xs' := u8s (fixed v 2 ++ writeB fs fx v x)) (by simp) (by simp [u8s]) (fun v3 hv3 => ?_)
  refine lo_back (sk_js (ht1.trans ht2) [1, 2] rfl) ?_
  refine lo_pv rfl rfl (sk_js (ht1.trans ht2) [1, 2] rfl) (pv_assign rfl) rfl ?_
  refine lo_cd ?_
  refine cd_ret ?_
  refine at_retA rfl rfl (fun w hS => ?_)
  exact row_rs hS (j := 0) rfl (u8s_one _)
theorem kept_nul : fixed 0 2 ++ writeB F_TxnMetadataValue 1 0 .nul = (List.replicate 37 (0 : UInt8)) := by kernel_rfl
theorem kept_good : (tE ((List.replicate 37 (0 : UInt8)), false)).1.2 = false := by kernel_rfl
theorem smT_nul9 : smT .nul := by simp [Tre.nul, smT, smTs]
theorem fn_TxnMetadataValue (t : Vw) (D : List UInt8) (sv : Value) (hsv : RSv t sv D) (hDm : D.length ≤ 1048576) (hEG : EG t) : CS Tryd.prog 9 [sv] t (.bool true) := by
  have hok := ok_F_TxnMetadataValue
  obtain ⟨adD, cD, rfl, hleD⟩ := hsv.shape
  refine CA.cs ?_
  refine ca_enter Tryd.func9 rfl Tryd.ntmps9 rfl ?_
  by_cases hlong : 1000 < D.length
  · skip
    refine cd_sr ?_
    refine ln_pv (pv_assign rfl) rfl ?_
    refine ln_cd ?_
    refine cd_seq ?_
    refine cd_sr ?_
    refine ln_pv (pv_move rfl) rfl ?_
    refine ln_pv (pv_len_slice Tryd.underlying22 rfl) rfl ?_
    refine ln_pv (pv_ff (pv_gtr rfl rfl) (by omega)) rfl ?_
    refine ln_cd ?_
    refine cd_ff rfl ?_
    refine cd_skip ?_
    refine at_cd ?_
    refine cd_seq ?_
    refine cd_sr ?_
    refine ln_pv (pv_move rfl) rfl ?_
    refine ln_pv (pv_len_slice Tryd.underlying22 rfl) rfl ?_
    refine ln_pv (pv_tt (pv_gtr rfl rfl) (by omega)) rfl ?_
    refine ln_cd ?_
    refine cd_tt rfl ?_
    refine cd_sr ?_
    refine ln_pv (pv_assign rfl) rfl ?_
    refine ln_cd ?_
    refine cd_ret ?_
    refine at_retA rfl rfl (fun w hS => ?_)
    rfl
  cases hbd : (tE (D, false)).1.2 with
  | true =>
    refine cd_sr ?_
    refine ln_pv (pv_assign rfl) rfl ?_
    refine ln_cd ?_
    refine cd_seq ?_
    refine cd_sr ?_
    refine ln_pv (pv_move rfl) rfl ?_
    refine ln_pv (pv_len_slice Tryd.underlying22 rfl) rfl ?_
    refine ln_pv (pv_ff (pv_gtr rfl rfl) (by omega)) rfl ?_
    refine ln_cd ?_
    refine cd_ff rfl ?_
    refine cd_skip ?_
    refine at_cd ?_
    refine cd_seq ?_
    refine cd_sr ?_
    refine ln_pv (pv_move rfl) rfl ?_
    refine ln_pv (pv_len_slice Tryd.underlying22 rfl) rfl ?_
    refine ln_pv (pv_ff (pv_gtr rfl rfl) (by omega)) rfl ?_
    refine ln_cd ?_
    refine cd_ff rfl ?_
    refine cd_skip ?_
    refine at_cd ?_
    refine cd_sr ?_
    refine ln_callA en_33 rfl (fun u hu => sch_F_TxnMetadataValue u) rfl (fun u1 v1 ht1 hR1 => ?_)
    have hsv := hsv.mv ht1
    have hEG := hEG.mv ht1
    obtain ⟨sv0, lcm, rfl, hVm, hFm⟩ := hR1
    refine ln_pv (pv_struct [(0, 1), (1, 1), (2, 1), (3, 1), (4, 1)] (l := [_, _, _, _, _]) rfl Tryd.underlying35 tispec_Tree (by kernel_rfl) rfl rfl) rfl ?_
    refine ln_callA en_32 rfl (fun u hu => spec_Kept F_TxnMetadataValue 1 hok.1 hok.2.2 u _ _ _ 0 .nul (RS.mv hVm hu) (RFs.mv hFm hu) (RT.nul u) smT_nul9 (by rw [kept_nul]; decide)) rfl (fun u2 v2 ht2 hR2 => ?_)
    have hsv := hsv.mv ht2
    have hEG := hEG.mv ht2
    have hVm := hVm.mv ht2
    have hFm := hFm.mv ht2
    refine ln_callA en_31 rfl (fun u hu => doorT_TxnMetadataValue u (List.replicate 37 (0 : UInt8)) _ (kept_nul ▸ RSv.mv hR2 hu) (by decide) (EG.mv hEG hu)) rfl (fun u3 v3 ht3 hR3 => ?_)
    have hsv := hsv.mv ht3
    have hEG := hEG.mv ht3
    have hVm := hVm.mv ht3
    have hFm := hFm.mv ht3
    have hR2 := hR2.mv ht3
    obtain ⟨ds0, rfl, hT0⟩ := (hR3.resolve_left (fun h => by rw [kept_good] at h; exact absurd h.1 (by decide))).2
    refine ln_pv (pv_move rfl) rfl ?_
    refine ln_pv (pv_extract rfl rfl) rfl ?_
    refine ln_pv (pv_extract rfl rfl) rfl ?_
    refine ln_alloc tiimpl_Tree rfl rfl (fun b1 => ?_)
    refine ln_storeW (i := 0) rfl rfl rfl rfl (tiimpl_Tree).size hT0.len hT0.cells ?_
    refine ln_pv (pv_assign rfl) rfl ?_
    refine ln_cd ?_
    refine cd_sr ?_
    refine ln_pv (pv_move rfl) rfl ?_
    refine ln_callA en_31 rfl (fun u hu => doorT_TxnMetadataValue u D _ (RSv.mv hsv hu) (by omega) (EG.mv hEG hu)) rfl (fun u4 v4 ht4 hR4 => ?_)
    have hsv := hsv.mv ht4
    have hEG := hEG.mv ht4
    have hVm := hVm.mv ht4
    have hFm := hFm.mv ht4
    have hR2 := hR2.mv ht4
    have hT0 := hT0.mv ht4
    obtain ⟨ds1, rfl, hl1, hc1⟩ := (hR4.resolve_right (fun h => by rw [hbd] at h; exact absurd h.1 (by decide))).2
    refine ln_pv (pv_move rfl) rfl ?_
    refine ln_pv (pv_extract rfl rfl) rfl ?_
    refine ln_pv (pv_extract rfl rfl) rfl ?_
    refine ln_alloc tiimpl_Tree rfl rfl (fun b2 => ?_)
    refine ln_storeW (i := 0) rfl rfl rfl rfl (tiimpl_Tree).size hl1 hc1 ?_
    refine ln_pv (pv_assign rfl) rfl ?_
    refine ln_cd ?_
    refine cd_sr ?_
    refine ln_pv (pv_move rfl) rfl ?_
    refine ln_callA en_34 rfl (fun u hu => doorU_TxnMetadataValue u D _ (RSv.mv hsv hu) (by omega) (EG.mv hEG hu)) rfl (fun u5 v5 ht5 hR5 => ?_)
    have hsv := hsv.mv ht5
    have hEG := hEG.mv ht5
    have hVm := hVm.mv ht5
    have hFm := hFm.mv ht5
    have hR2 := hR2.mv ht5
    have hT0 := hT0.mv ht5
    obtain ⟨ds2, rfl, hl2, hc2⟩ := (hR5.resolve_right (fun h => by rw [hbd] at h; exact absurd h.1 (by decide))).2
    refine ln_pv (pv_move rfl) rfl ?_
    refine ln_pv (pv_extract rfl rfl) rfl ?_
    refine ln_pv (pv_extract rfl rfl) rfl ?_
    refine ln_alloc tiimpl_Tree rfl rfl (fun b3 => ?_)
    refine ln_storeW (i := 0) rfl rfl rfl rfl (tiimpl_Tree).size hl2 hc2 ?_
    refine ln_pv (pv_assign rfl) rfl ?_
    refine ln_cd ?_
    refine cd_dr' [0, 1, 2] [2, 3, 9, 10, 12, 15, 16, 17] [0, 1, 2, 3, 4, 5, 6, 7, 8, 9, 10, 12, 11, 13, 14, 15, 16, 17] mixed (by kernel_rfl) ?_
    refine lo_eff rfl rfl ?_
    refine ln_pv (pv_move rfl) rfl ?_
    refine lo_back (sk_js (Tr.refl _) [0, 1, 2] rfl) ?_
    refine lo_eff rfl rfl ?_
    refine ln_pv (pv_move rfl) rfl ?_
    refine lo_back (sk_js (Tr.refl _) [0, 1, 2] rfl) ?_
    refine lo_gt rfl rfl (sk_js (Tr.refl _) [0, 1, 2] rfl) rfl rfl rfl (pv_move rfl) rfl ?_
    refine lo_gt rfl rfl (sk_js (Tr.refl _) [0, 1, 2] rfl) rfl rfl rfl (pv_move rfl) rfl ?_
    refine lo_eff rfl rfl ?_
    refine ln_gt rfl rfl rfl (pv_eqB Tryd.underlying4 rfl rfl rfl) rfl ?_
    refine lo_back (sk_js (Tr.refl _) [0, 1, 2] rfl) ?_
    refine lo_eff rfl rfl ?_
    refine ln_pv (pv_pick rfl (fun _ => rfl) (fun _ => rfl)) rfl ?_
    refine lo_back (sk_js (Tr.refl _) [0, 1, 2] rfl) ?_
    refine lo_eff rfl rfl ?_
    refine ln_pv (pv_move rfl) rfl ?_
    refine lo_back (sk_js (Tr.refl _) [0, 1, 2] rfl) ?_
    refine lo_eff rfl rfl ?_
    refine ln_gt rfl rfl rfl (pv_move rfl) rfl ?_
    refine lo_back (sk_js (Tr.refl _) [0, 1, 2] rfl) ?_
    refine lo_eff rfl rfl ?_
    refine ln_gt rfl rfl rfl (pv_not rfl) rfl ?_
    refine lo_back (sk_js (Tr.refl _) [0, 1, 2] rfl) ?_
    refine lo_gt rfl rfl (sk_js (Tr.refl _) [0, 1, 2] rfl) rfl rfl rfl (pv_move rfl) rfl ?_
    refine lo_gf rfl rfl (sk_js (Tr.refl _) [0, 1, 2] rfl) rfl rfl rfl rfl rfl ?_
    refine lo_gf rfl rfl (sk_js (Tr.refl _) [0, 1, 2] rfl) rfl rfl rfl rfl rfl ?_
    refine lo_ef rfl rfl (fun _ => sk_js (Tr.refl _) [0, 1, 2] rfl) rfl rfl rfl rfl rfl ?_
    refine lo_ef rfl rfl (fun _ => sk_js (Tr.refl _) [0, 1, 2] rfl) rfl rfl rfl rfl rfl ?_
    refine lo_ef rfl rfl (fun _ => sk_js (Tr.refl _) [0, 1, 2] rfl) rfl rfl rfl rfl rfl ?_
    refine lo_gt rfl rfl (sk_js (Tr.refl _) [0, 1, 2] rfl) rfl rfl rfl (pv_pick rfl (fun _ => rfl) (fun _ => rfl)) rfl ?_
    refine lo_pv rfl rfl (sk_js (Tr.refl _) [0, 1, 2] rfl) (pv_pick rfl (fun _ => rfl) (fun _ => rfl)) rfl ?_
    refine lo_pv rfl rfl (sk_js (Tr.refl _) [0, 1, 2] rfl) (pv_assign rfl) rfl ?_
    refine lo_cd ?_
    refine cd_ret ?_
    refine at_retA rfl rfl (fun w hS => ?_)
    rfl
  | false =>
    refine cd_sr ?_
    refine ln_pv (pv_assign rfl) rfl ?_
    refine ln_cd ?_
    refine cd_seq ?_
    refine cd_sr ?_
    refine ln_pv (pv_move rfl) rfl ?_
    refine ln_pv (pv_len_slice Tryd.underlying22 rfl) rfl ?_
    refine ln_pv (pv_ff (pv_gtr rfl rfl) (by omega)) rfl ?_
    refine ln_cd ?_
    refine cd_ff rfl ?_
    refine cd_skip ?_
    refine at_cd ?_
    refine cd_seq ?_
    refine cd_sr ?_
    refine ln_pv (pv_move rfl) rfl ?_
    refine ln_pv (pv_len_slice Tryd.underlying22 rfl) rfl ?_
    refine ln_pv (pv_ff (pv_gtr rfl rfl) (by omega)) rfl ?_
    refine ln_cd ?_
    refine cd_ff rfl ?_
    refine cd_skip ?_
    refine at_cd ?_
    refine cd_sr ?_
    refine ln_callA en_33 rfl (fun u hu => sch_F_TxnMetadataValue u) rfl (fun u1 v1 ht1 hR1 => ?_)
    have hsv := hsv.mv ht1
    have hEG := hEG.mv ht1
    obtain ⟨sv0, lcm, rfl, hVm, hFm⟩ := hR1
    refine ln_pv (pv_struct [(0, 1), (1, 1), (2, 1), (3, 1), (4, 1)] (l := [_, _, _, _, _]) rfl Tryd.underlying35 tispec_Tree (by kernel_rfl) rfl rfl) rfl ?_
    refine ln_callA en_32 rfl (fun u hu => spec_Kept F_TxnMetadataValue 1 hok.1 hok.2.2 u _ _ _ 0 .nul (RS.mv hVm hu) (RFs.mv hFm hu) (RT.nul u) smT_nul9 (by rw [kept_nul]; decide)) rfl (fun u2 v2 ht2 hR2 => ?_)
    have hsv := hsv.mv ht2
    have hEG := hEG.mv ht2
    have hVm := hVm.mv ht2
    have hFm := hFm.mv ht2
    refine ln_callA en_31 rfl (fun u hu => doorT_TxnMetadataValue u (List.replicate 37 (0 : UInt8)) _ (kept_nul ▸ RSv.mv hR2 hu) (by decide) (EG.mv hEG hu)) rfl (fun u3 v3 ht3 hR3 => ?_)
    have hsv := hsv.mv ht3
    have hEG := hEG.mv ht3
    have hVm := hVm.mv ht3
    have hFm := hFm.mv ht3
    have hR2 := hR2.mv ht3
    obtain ⟨ds0, rfl, hT0⟩ := (hR3.resolve_left (fun h => by rw [kept_good] at h; exact absurd h.1 (by decide))).2
    refine ln_pv (pv_move rfl) rfl ?_
    refine ln_pv (pv_extract rfl rfl) rfl ?_
    refine ln_pv (pv_extract rfl rfl) rfl ?_
    refine ln_alloc tiimpl_Tree rfl rfl (fun b1 => ?_)
    refine ln_storeW (i := 0) rfl rfl rfl rfl (tiimpl_Tree).size hT0.len hT0.cells ?_
    refine ln_pv (pv_assign rfl) rfl ?_
    refine ln_cd ?_
    refine cd_sr ?_
    refine ln_pv (pv_move rfl) rfl ?_
    refine ln_callA en_31 rfl (fun u hu => doorT_TxnMetadataValue u D _ (RSv.mv hsv hu) (by omega) (EG.mv hEG hu)) rfl (fun u4 v4 ht4 hR4 => ?_)
    have hsv := hsv.mv ht4
    have hEG := hEG.mv ht4
    have hVm := hVm.mv ht4
    have hFm := hFm.mv ht4
    have hR2 := hR2.mv ht4
    have hT0 := hT0.mv ht4
    obtain ⟨ds1, rfl, hT1⟩ := (hR4.resolve_left (fun h => by rw [hbd] at h; exact absurd h.1 (by decide))).2
    refine ln_pv (pv_move rfl) rfl ?_
    refine ln_pv (pv_extract rfl rfl) rfl ?_
    refine ln_pv (pv_extract rfl rfl) rfl ?_
    refine ln_alloc tiimpl_Tree rfl rfl (fun b2 => ?_)
    refine ln_storeW (i := 0) rfl rfl rfl rfl (tiimpl_Tree).size hT1.len hT1.cells ?_
    refine ln_pv (pv_assign rfl) rfl ?_
    refine ln_cd ?_
    refine cd_sr ?_
    refine ln_pv (pv_move rfl) rfl ?_
    refine ln_callA en_34 rfl (fun u hu => doorU_TxnMetadataValue u D _ (RSv.mv hsv hu) (by omega) (EG.mv hEG hu)) rfl (fun u5 v5 ht5 hR5 => ?_)
    have hsv := hsv.mv ht5
    have hEG := hEG.mv ht5
    have hVm := hVm.mv ht5
    have hFm := hFm.mv ht5
    have hR2 := hR2.mv ht5
    have hT0 := hT0.mv ht5
    have hT1 := hT1.mv ht5
    obtain ⟨ds2, rfl, hT2⟩ := (hR5.resolve_left (fun h => by rw [hbd] at h; exact absurd h.1 (by decide))).2
    refine ln_pv (pv_move rfl) rfl ?_
    refine ln_pv (pv_extract rfl rfl) rfl ?_
    refine ln_pv (pv_extract rfl rfl) rfl ?_
    refine ln_alloc tiimpl_Tree rfl rfl (fun b3 => ?_)
    refine ln_storeW (i := 0) rfl rfl rfl rfl (tiimpl_Tree).size hT2.len hT2.cells ?_
    refine ln_pv (pv_assign rfl) rfl ?_
    refine ln_cd ?_
    refine cd_dr' [0, 1, 2] [2, 3, 9, 10, 12, 15, 16, 17] [0, 1, 2, 3, 4, 5, 6, 7, 8, 9, 10, 12, 11, 13, 14, 15, 16, 17] mixed (by kernel_rfl) ?_
    refine lo_eff rfl rfl ?_
    refine ln_pv (pv_move rfl) rfl ?_
    refine lo_back (sk_js (Tr.refl _) [0, 1, 2] rfl) ?_
    refine lo_eff rfl rfl ?_
    refine ln_pv (pv_move rfl) rfl ?_
    refine lo_back (sk_js (Tr.refl _) [0, 1, 2] rfl) ?_
    refine lo_gt rfl rfl (sk_js (Tr.refl _) [0, 1, 2] rfl) rfl rfl rfl (pv_move rfl) rfl ?_
    refine lo_gt rfl rfl (sk_js (Tr.refl _) [0, 1, 2] rfl) rfl rfl rfl (pv_move rfl) rfl ?_
    refine lo_eff rfl rfl ?_
    refine ln_gt rfl rfl rfl (pv_eqB Tryd.underlying4 rfl rfl rfl) rfl ?_
    refine lo_back (sk_js (Tr.refl _) [0, 1, 2] rfl) ?_
    refine lo_eff rfl rfl ?_
    refine ln_pv (pv_pick rfl (fun _ => rfl) (fun _ => rfl)) rfl ?_
    refine lo_back (sk_js (Tr.refl _) [0, 1, 2] rfl) ?_
    refine lo_eff rfl rfl ?_
    refine ln_pv (pv_move rfl) rfl ?_
    refine lo_back (sk_js (Tr.refl _) [0, 1, 2] rfl) ?_
    refine lo_eff rfl rfl ?_
    refine ln_gt rfl rfl rfl (pv_move rfl) rfl ?_
    refine lo_back (sk_js (Tr.refl _) [0, 1, 2] rfl) ?_
    refine lo_eff rfl rfl ?_
    refine ln_gt rfl rfl rfl (pv_not rfl) rfl ?_
    refine lo_back (sk_js (Tr.refl _) [0, 1, 2] rfl) ?_
    refine lo_gt rfl rfl (sk_js (Tr.refl _) [0, 1, 2] rfl) rfl rfl rfl (pv_move rfl) rfl ?_
    refine lo_gt rfl rfl (sk_js (Tr.refl _) [0, 1, 2] rfl) rfl rfl rfl (pv_ldO (i := 1) rfl Tryd.underlying27 rfl (tiimpl_Tree).size rfl hT1.len) rfl ?_
    refine lo_gt rfl rfl (sk_js (Tr.refl _) [0, 1, 2] rfl) rfl rfl rfl (pv_ldO (i := 0) rfl Tryd.underlying27 rfl (tiimpl_Tree).size rfl hT2.len) rfl ?_
    refine lo_eff rfl rfl ?_
    refine ln_gE rfl rfl rfl ?_
    refine ln_callA en_15 rfl (fun u hu => laws_got (tTd (D, false)) u _ (RT.mv hT1 hu) (smT_tTd (by dsimp only; omega))) rfl (fun u6 v6 ht6 hR6 => ?_)
    have hsv := hsv.mv ht6
    have hEG := hEG.mv ht6
    have hVm := hVm.mv ht6
    have hFm := hFm.mv ht6
    have hR2 := hR2.mv ht6
    have hT0 := hT0.mv ht6
    have hT1 := hT1.mv ht6
    have hT2 := hT2.mv ht6
    obtain ⟨dg1, rfl, hG1⟩ := hR6
    refine lo_back (sk_js ht6 [0, 1, 2] rfl) ?_
    refine lo_eff rfl rfl ?_
    refine ln_gE rfl rfl rfl ?_
    refine ln_callA en_15 rfl (fun u hu => laws_got (tTd (D, false)) u _ (RT.mv hT2 hu) (smT_tTd (by dsimp only; omega))) rfl (fun u7 v7 ht7 hR7 => ?_)
    have hsv := hsv.mv ht7
    have hEG := hEG.mv ht7
    have hVm := hVm.mv ht7
    have hFm := hFm.mv ht7
    have hR2 := hR2.mv ht7
    have hT0 := hT0.mv ht7
    have hT1 := hT1.mv ht7
    have hT2 := hT2.mv ht7
    have hG1 := hG1.mv ht7
    obtain ⟨dg2, rfl, hG2⟩ := hR7
    refine lo_back (sk_js (ht6.trans ht7) [0, 1, 2] rfl) ?_
    refine lo_eff rfl rfl ?_
    refine ln_gE rfl rfl rfl ?_
    refine ln_callS en_14 rfl (fun u hu => spec_SameTree (tTd (D, false)) u _ _ (RT.mv hG1 hu) (RT.mv hG2 hu) (smT_tTd (by dsimp only; omega)) (smV_tTd (by dsimp only; omega))) rfl ?_
    refine lo_back (sk_js (ht6.trans ht7) [0, 1, 2] rfl) ?_
    refine lo_gt rfl rfl (sk_js (ht6.trans ht7) [0, 1, 2] rfl) rfl rfl rfl (pv_pick rfl (fun _ => rfl) (fun _ => rfl)) rfl ?_
    refine lo_pv rfl rfl (sk_js (ht6.trans ht7) [0, 1, 2] rfl) (pv_pick rfl (fun _ => rfl) (fun _ => rfl)) rfl ?_
    refine lo_pv rfl rfl (sk_js (ht6.trans ht7) [0, 1, 2] rfl) (pv_assign rfl) rfl ?_
    refine lo_cd ?_
    refine cd_ret ?_
    refine at_retA rfl rfl (fun w hS => ?_)
    rfl
end K
end Go.Proofs.YtjjfpdofkdolnaaDoor
