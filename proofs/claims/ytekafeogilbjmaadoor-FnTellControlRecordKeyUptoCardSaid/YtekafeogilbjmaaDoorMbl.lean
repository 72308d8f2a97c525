import Derived.Test.YtekafeogilbjmaaDoorTn
import Derived.Test.YtekafeogilbjmaaDoorTk
import Derived.Test.YtekafeogilbjmaaDoorW4
import Derived.Test.YtekafeogilbjmaaDoorMbs
import Derived.Test.YtekafeogilbjmaaDoorP4
import Derived.Test.YtekafeogilbjmaaDoorS10
set_option linter.unusedVariables false
set_option linter.unusedSimpArgs false
namespace Go.Proofs.YtekafeogilbjmaaDoor
namespace K
open Go Go.Lib
theorem df_ControlRecordKey (z0 z1 : Value) : DfC 49 [z0, z1] [z0, z1] := by
  intro mk b o hT t hok hav
  refine ct_enter Tryd.func49 rfl Tryd.ntmps49 rfl hok hav (by rw [hT.blk]; simp) ?_
  refine cd_skip ?_
  exact at_retT0 (i := 0) rfl rfl (fun w hS => ⟨rfl, rfl⟩)
theorem new_crk (t : Vw) : CS Tryd.prog 32 [] t (.agg [.int .i16 0, .int .i16 0].toArray) := by
  refine CA.cs ?_
  refine ca_enter Tryd.func32 rfl Tryd.ntmps32 rfl ?_
  refine cd_sr ?_
  refine ln_alloc tipub_kmsg_ControlRecordKey rfl rfl (fun b1 => ?_)
  refine ln_cd ?_
  refine cd_sr ?_
  refine ln_alloc tipub_kmsg_ControlRecordKey rfl rfl (fun b2 => ?_)
  refine ln_cd ?_
  refine cd_sr ?_
  refine ln_callT (i := 0) en_49 rfl rfl (fun u hu hok hav => df_ControlRecordKey _ _ (fun w => .obj b2 (.cells w.toArray 72)) b2 0 (Tgt.obj b2 72 2) u hok hav) rfl ?_
  rintro u1 v1 e1 ht1 ⟨x1, hR1, hx1⟩
  obtain ⟨rfl, rfl⟩ := hR1
  refine ln_cd ?_
  refine cd_sr ?_
  refine ln_pv (pv_ldO (i := 0) rfl Tryd.underlying72 rfl (tipub_kmsg_ControlRecordKey).size rfl rfl) rfl ?_
  refine ln_storeW (i := 1) rfl rfl rfl rfl (tipub_kmsg_ControlRecordKey).size rfl (by simp []) ?_
  refine ln_cd ?_
  refine cd_ret ?_
  refine at_retC (i := 1) rfl rfl rfl Tryd.underlying72 rfl tipub_kmsg_ControlRecordKey.size rfl (fun w hS => rfl)
theorem read_crk (t : Vw) (b : Nat) (n : Int) (sv : Value) (hsv : RSv t sv (fixed 0 2 ++ fixed n 2)) (hok : (MsgBox b 72 [.int .i16 0, .int .i16 0]).ok t.w) (hav : ∀ q ∈ (MsgBox b 72 [.int .i16 0, .int .i16 0]).blk, t.av q) : CT Tryd.prog 50 [.pointer (some ⟨b, 0, none⟩), sv, .bool false] t (MsgBox b 72 [.int .i16 0, .int .i16 0]) fun u r e' => r = .nilIface ∧ e' = MsgBox b 72 [.int .i16 (IntKind.i16.wrap 0), .int .i16 (IntKind.i16.wrap n)] := by
  refine ct_enter Tryd.func50 rfl Tryd.ntmps50 rfl hok hav (by simp [Ent.blk]) ?_
  refine cd_sr ?_
  refine ln_pv (pv_assign rfl) rfl ?_
  refine ln_cd ?_
  refine cd_sr ?_
  refine ln_pv (pv_move rfl) rfl ?_
  refine ln_callT (i := 0) (vals := [.pointer (some ⟨b, 0, none⟩)]) en_49 rfl rfl (fun u hu hok hav => df_ControlRecordKey _ _ (fun w => .obj b (.cells w.toArray 72)) b 0 (Tgt.obj b 72 2) u hok hav) rfl ?_
  rintro u1 _ _ ht1 ⟨ux1, ⟨rfl, rfl⟩, hx1⟩
  refine ln_cd ?_
  refine cd_sr ?_
  refine ln_pv (pv_move rfl) rfl ?_
  refine ln_pv (pv_struct [(0, 1), (1, 1)] (l := [_, _]) rfl Tryd.underlying97 tipub_kmsg_inner_kbin_Reader (by kernel_rfl) rfl (by simp [okL, Nat.ble_eq, Value.cells, RS.one hsv])) rfl ?_
  refine ln_alloc (l := [.slice none 0 0, .bool false]) tipub_kmsg_inner_kbin_Reader rfl rfl (fun br => ?_)
  refine ln_storeW (i := 0) (vs := [sv, .bool false]) rfl rfl rfl rfl tipub_kmsg_inner_kbin_Reader.size rfl (by simp [RS.one hsv]) ?_
  refine ln_cd ?_
  refine cd_sr ?_
  refine ln_pv (pv_move rfl) rfl ?_
  refine ln_callT (i := 0) (vals := [.pointer (some ⟨br, 0, none⟩)]) en_64 rfl rfl (fun u hu hok hav => rd_Int16 u 0 br _ (fixed n 2) (RSv.mv hsv (ht1.trans hu)) hok hav) rfl ?_
  rintro u2 _ _ ht2 ⟨ux2, ⟨rfl, v2, rfl, hv2⟩, hx2⟩
  have hv2 := hv2.mv hx2
  refine ln_pv (pv_nilCheck rfl) rfl ?_
  refine ln_pv (pv_fieldAddr (off := 0) (r := 0) Tryd.underlying72 rfl tiint16.size rfl rfl rfl) rfl ?_
  refine ln_store1 (i := 1) rfl rfl rfl rfl tiint16.size rfl ?_
  refine ln_cd ?_
  refine cd_sr ?_
  refine ln_pv (pv_move rfl) rfl ?_
  refine ln_pv (pv_nilCheck rfl) rfl ?_
  refine ln_pv (pv_fieldAddr (off := 0) (r := 0) Tryd.underlying72 rfl tiint16.size rfl rfl rfl) rfl ?_
  refine ln_pv (pv_ldo (i := 1) rfl Tryd.underlying47 rfl rfl rfl) rfl ?_
  refine ln_pv (pv_assign rfl) rfl ?_
  refine ln_cd ?_
  refine cd_sr ?_
  refine ln_pv (pv_move rfl) rfl ?_
  refine ln_cd ?_
  refine cd_sr ?_
  refine ln_pv (pv_move rfl) rfl ?_
  refine ln_pv (pv_assign rfl) rfl ?_
  refine ln_cd ?_
  refine cd_seq ?_
  refine cd_sr ?_
  refine ln_pv (pv_assign rfl) rfl ?_
  refine ln_cd ?_
  refine cd_seq ?_
  refine cd_sr ?_
  refine ln_callT (i := 0) (vals := [.pointer (some ⟨br, 0, none⟩)]) en_64 rfl rfl (fun u hu hok hav => rd_Int16 u n br _ [] (by rw [List.append_nil]; exact RSv.mv hv2.1 hu) hok hav) rfl ?_
  rintro u3 _ _ ht3 ⟨ux3, ⟨rfl, v3, rfl, hv3⟩, hx3⟩
  refine ln_pv (pv_assign rfl) rfl ?_
  refine ln_cd ?_
  refine cd_region ?_
  refine ln_pv (pv_move rfl) rfl ?_
  refine ln_pv (pv_assign rfl) rfl ?_
  refine ln_nil ?_
  refine at_cd ?_
  refine cd_sr ?_
  refine ln_pv (pv_move rfl) rfl ?_
  refine ln_pv (pv_assign rfl) rfl ?_
  refine ln_cd ?_
  refine cd_region ?_
  refine ln_pv (pv_move rfl) rfl ?_
  refine ln_pv (pv_move rfl) rfl ?_
  refine ln_pv (pv_nilCheck rfl) rfl ?_
  refine ln_pv (pv_fieldAddr (off := 1) (r := 1) Tryd.underlying72 rfl tipub_kmsg_ControlRecordKeyType.size rfl rfl rfl) rfl ?_
  refine ln_store1 (i := 1) rfl rfl rfl rfl tipub_kmsg_ControlRecordKeyType.size rfl ?_
  refine ln_nil ?_
  refine at_cd ?_
  refine cd_sr ?_
  refine ln_callT (i := 0) (vals := [.pointer (some ⟨br, 0, none⟩)]) en_54 rfl rfl (fun u hu hok hav => rd_Complete u br _ hok hav) rfl ?_
  rintro u9 _ _ ht9 ⟨ux9, ⟨rfl, rfl⟩, hx9⟩
  refine ln_pv (pv_assign rfl) rfl ?_
  refine ln_cd ?_
  refine cd_ret ?_
  exact at_retT (i := 1) rfl rfl rfl (fun w hS => ⟨rfl, rfl⟩)
theorem readf_crk (t : Vw) (b : Nat) (n : Int) (sv : Value) (hsv : RSv t sv (fixed 0 2 ++ fixed n 2)) (hok : (MsgBox b 72 [.int .i16 0, .int .i16 0]).ok t.w) (hav : ∀ q ∈ (MsgBox b 72 [.int .i16 0, .int .i16 0]).blk, t.av q) : CT Tryd.prog 33 [.pointer (some ⟨b, 0, none⟩), sv] t (MsgBox b 72 [.int .i16 0, .int .i16 0]) fun u r e' => r = .nilIface ∧ e' = MsgBox b 72 [.int .i16 (IntKind.i16.wrap 0), .int .i16 (IntKind.i16.wrap n)] := by
  refine ct_enter Tryd.func33 rfl Tryd.ntmps33 rfl hok hav (by simp [Ent.blk]) ?_
  refine cd_sr ?_
  refine ln_pv (pv_assign rfl) rfl ?_
  refine ln_cd ?_
  refine cd_sr ?_
  refine ln_pv (pv_move rfl) rfl ?_
  refine ln_pv (pv_move rfl) rfl ?_
  refine ln_callT (i := 0) en_50 rfl rfl (fun u hu hok hav => read_crk u b n _ (RSv.mv hsv hu) hok hav) rfl ?_
  rintro u1 _ _ ht1 ⟨_, ⟨rfl, rfl⟩, _⟩
  refine ln_pv (pv_assign rfl) rfl ?_
  refine ln_cd ?_
  refine cd_ret ?_
  exact at_retT (i := 0) rfl rfl rfl (fun w hS => ⟨rfl, rfl⟩)
theorem tell_crk (t : Vw) (b : Nat) (n v : Int) (hrc : RCx t b 0 (.int .i16 v) [.int .i16 (IntKind.i16.wrap n)]) : CA Tryd.prog 34 [.pointer (some ⟨b, 0, none⟩)] t fun u r => ∃ ds, r = .agg ds.toArray ∧ RT u (.mk 0 [] false [.mk (IntKind.i16.wrap n) [] false [] []] []) ds := by
  refine ca_enter Tryd.func34 rfl Tryd.ntmps34 rfl ?_
  refine cd_sr ?_
  refine ln_alloc tiimpl_Tree rfl rfl (fun b1 => ?_)
  refine ln_cd ?_
  refine cd_sr ?_
  refine ln_makeN (m := 1) (l := [.int .i64 0, .slice none 0 0, .bool false, .slice none 0 0, .slice none 0 0]) Tryd.underlying34 tiimpl_Tree rfl rfl (by kernel_rfl) (by decide) (by decide) rfl (fun bL => ?_)
  refine ln_pv (pv_struct [(0, 1), (1, 1), (2, 1), (3, 1), (4, 1)] (l := [_, _, _, _, _]) rfl Tryd.underlying37 tiimpl_Tree (by kernel_rfl) rfl rfl) rfl ?_
  refine ln_alloc tiimpl_Tree rfl rfl (fun b2 => ?_)
  refine ln_storeW (i := 0) rfl rfl rfl rfl (tiimpl_Tree).size rfl (by simp []) ?_
  refine ln_cd ?_
  refine cd_dr' [0, 1, 2] [0, 1, 2, 3, 4, 5, 6, 7, 8] [0, 1, 2, 3, 4, 5, 6, 7, 8, 9] mixed (by kernel_rfl) ?_
  refine lo_pv rfl rfl (sk_js (Tr.refl _) [0, 1, 2] rfl) (pv_fieldAddr (off := 3) (r := 3) Tryd.underlying37 rfl (tiSl_impl_Tree).size rfl rfl rfl) rfl ?_
  refine lo_pv rfl rfl (sk_js (Tr.refl _) [0, 1, 2] rfl) (pv_ldo (i := 0) rfl Tryd.underlying34 rfl rfl rfl) rfl ?_
  refine lo_pv rfl rfl (sk_js (Tr.refl _) [0, 1, 2] rfl) (pv_move rfl) rfl ?_
  refine lo_pv rfl rfl (sk_js (Tr.refl _) [0, 1, 2] rfl) (pv_nilCheck rfl) rfl ?_
  refine lo_pv rfl rfl (sk_js (Tr.refl _) [0, 1, 2] rfl) (pv_fieldAddr (off := 1)  Tryd.underlying72 rfl (tipub_kmsg_ControlRecordKeyType).size rfl rfl rfl) rfl ?_
  refine lo_pv rfl rfl (sk_js (Tr.refl _) [0, 1, 2] rfl) (pv_ldr (j := 1) hrc Tryd.underlying70 rfl rfl rfl) rfl ?_
  refine lo_pv rfl rfl (sk_js (Tr.refl _) [0, 1, 2] rfl) (pv_conv' Tryd.underlying70 Tryd.underlying2 rfl (w64_i16 _)) rfl ?_
  refine lo_pv rfl rfl (sk_js (Tr.refl _) [0, 1, 2] rfl) (pv_struct [(0, 1), (1, 1), (2, 1), (3, 1), (4, 1)] (l := [_, _, _, _, _]) rfl Tryd.underlying37 tiimpl_Tree (by kernel_rfl) rfl rfl) rfl ?_
  refine lo_pv rfl rfl (sk_js (Tr.refl _) [0, 1, 2] rfl) (pv_ixN (o := 0) (i := 0) Tryd.underlying34 (tiimpl_Tree).size rfl rfl (by decide)) rfl ?_
  refine lo_eff rfl rfl ?_
  refine ln_storeW (i := 1) rfl rfl rfl rfl (tiimpl_Tree).size rfl (by simp []) ?_
  refine lo_last (by kernel_rfl) ?_
  refine lo_cd ?_
  refine cd_sr ?_
  refine ln_pv (pv_ldO (i := 0) rfl Tryd.underlying37 rfl (tiimpl_Tree).size rfl rfl) rfl ?_
  refine ln_storeW (i := 2) rfl rfl rfl rfl (tiimpl_Tree).size rfl (by simp []) ?_
  refine ln_cd ?_
  refine cd_ret ?_
  refine at_retC (i := 2) rfl rfl rfl Tryd.underlying37 rfl tiimpl_Tree.size rfl (fun w hS => ?_)
  have hRTs : RTs hS.fin [.mk (IntKind.i16.wrap n) [] false [] []] _ := ⟨[.int .i64 (IntKind.i16.wrap n), .slice none 0 0, .bool false, .slice none 0 0, .slice none 0 0], _, rfl, RT_num (I64_i16 _), rfl⟩
  exact ⟨_, rfl, RT.shut ⟨_, _, _, rfl, (show I64 0 from by unfold I64; omega), RS_nil 1, ⟨_, obj_rsS hS (i := 1) (sz := 5) (m := 1) rfl rfl (RTs.cells hRTs), hRTs⟩, ⟨[], RS_nil 2, rfl⟩⟩⟩
theorem tellx_crk (t : Vw) (n : Int) (sv : Value) (hsv : RSv t sv (fixed 0 2 ++ fixed n 2)) : CA Tryd.prog 15 [sv] t fun u r => ∃ ds, r = .tuple #[.agg ds.toArray, .bool true] ∧ RT u (.mk 0 [] false [.mk (IntKind.i16.wrap n) [] false [] []] []) ds := by
  have hfl : (fixed 0 2 ++ fixed n 2).length = 4 := by simp [fixed_length]
  refine ca_enter Tryd.func15 rfl Tryd.ntmps15 rfl ?_
  refine cd_sr ?_
  refine ln_alloc tiimpl_Tree rfl rfl (fun b1 => ?_)
  refine ln_pv (pv_assign rfl) rfl ?_
  refine ln_cd ?_
  refine cd_sr ?_
  refine ln_callS en_32 rfl (fun u hu => new_crk u) rfl ?_
  refine ln_alloc tipub_kmsg_ControlRecordKey rfl rfl (fun b2 => ?_)
  refine ln_storeW (i := 0) rfl rfl rfl rfl (tipub_kmsg_ControlRecordKey).size rfl (by simp []) ?_
  refine ln_cd ?_
  refine cd_seq ?_
  refine cd_sr ?_
  refine ln_pv (pv_move rfl) rfl ?_
  refine ln_nilrow 5 1 ?_
  refine ln_append (i := 0) rfl Tryd.underlying22 tiuint8 rfl (by decide) rfl rfl (RS.src hsv) (by simp only [maxLen]; omega) (by omega) rfl (k' := (fixed 0 2 ++ fixed n 2).length) (xs' := u8s (fixed 0 2 ++ fixed n 2)) (by omega) (by simp) (fun va hva => ?_)
  refine ln_free1 (fun q h => h.elim) (fun s3 ht3 hK => ?_)
  have hs3 : RSv s3 va (fixed 0 2 ++ fixed n 2) := Known.rs hK (u8s_one _)
  clear hK
  have hsv := hsv.mv ht3
  refine ln_callT (i := 0) en_33 rfl rfl (fun u hu hok hav => readf_crk u b2 n _ (RSv.mv hs3 hu) hok hav) rfl ?_
  rintro u1 v1 e1 ht1 ⟨x1, hR1, hx1⟩
  have hsv := hsv.mv ht1
  have hs3 := hs3.mv ht1
  obtain ⟨rfl, rfl⟩ := hR1
  refine ln_pv (pv_neqI Tryd.underlying55 rfl) rfl ?_
  refine ln_cd ?_
  refine cd_ff rfl ?_
  refine cd_skip ?_
  refine at_cd ?_
  refine cd_free1 (fun q h => h.elim) (fun s9 hs9 hK => ?_)
  have hob : OB s9 b2 (.cells [.int .i16 (IntKind.i16.wrap 0), .int .i16 (IntKind.i16.wrap n)].toArray 72) := hK
  clear hK
  have hrc : RCx s9 b2 0 (.int .i16 (IntKind.i16.wrap 0)) [.int .i16 (IntKind.i16.wrap n)] := hob.rc
  have hsv := hsv.mv hs9
  have hs3 := hs3.mv hs9
  refine cd_sr ?_
  refine ln_callA en_34 rfl (fun u hu => tell_crk u b2 n _ (hrc.mv hu)) rfl (fun u2 v2 ht2 hR2 => ?_)
  have hsv := hsv.mv ht2
  have hs3 := hs3.mv ht2
  have hrc := hrc.mv ht2
  obtain ⟨ds, rfl, hds⟩ := hR2
  obtain ⟨qS, qL, qU, rfl, hqn, hqS, ⟨lcq, hqL, hqLs⟩, ⟨ucq, hqU, hqUs⟩⟩ := hds.open
  refine ln_alloc tiimpl_Tree rfl rfl (fun b3 => ?_)
  refine ln_storeW (i := 0) rfl rfl rfl rfl (tiimpl_Tree).size rfl (by simp [(RS.one hqL), (RS.one hqS), (RS.one hqU)]) ?_
  refine ln_cd ?_
  refine cd_sr ?_
  refine ln_pv (pv_fieldAddr (off := 0)  Tryd.underlying72 rfl (tiint16).size rfl rfl rfl) rfl ?_
  refine ln_pv (pv_ldr (j := 0) hrc Tryd.underlying47 rfl rfl rfl) rfl ?_
  refine ln_pv (pv_conv' Tryd.underlying47 Tryd.underlying2 rfl (w64_i16 _)) rfl ?_
  refine ln_pv (pv_fieldAddr (off := 0) (r := 0) Tryd.underlying37 rfl (tiint64).size rfl rfl rfl) rfl ?_
  refine ln_store1 (i := 0) rfl rfl rfl rfl (tiint64).size rfl ?_
  refine ln_cd ?_
  refine cd_sr ?_
  refine ln_pv (pv_ldO (i := 0) rfl Tryd.underlying37 rfl (tiimpl_Tree).size rfl rfl) rfl ?_
  refine ln_storeW (i := 1) rfl rfl rfl rfl (tiimpl_Tree).size rfl (by simp [(RS.one hqL), (RS.one hqS), (RS.one hqU)]) ?_
  refine ln_pv (pv_assign rfl) rfl ?_
  refine ln_cd ?_
  refine cd_ret ?_
  refine at_retCA2 (i := 1) rfl rfl rfl rfl Tryd.underlying37 rfl tiimpl_Tree.size rfl (fun w hS => ⟨_, rfl, hds.mv hS.trFin⟩)
theorem spec_Kept (fs : List Fld) (fx : Int) (hok : okFs fs = true) (hlen : fs.length < 1000000) (t : Vw) (vf : Value) (lc cs : List Value) (v : Int) (x : Tre) (hVf : RS t 8 vf fs.length lc) (hFf : RFs t fs lc) (hx : RT t x cs) (hsm : smT x) (hB : (fixed v 2 ++ writeB fs fx v x).length < 1099511627776) : CA Tryd.prog 16 [.agg #[vf, .int .i64 fx], .int .i64 v, .agg cs.toArray] t fun u r => RSv u r (fixed v 2 ++ writeB fs fx v x) := by
  obtain ⟨sS, sL, sU, rfl, hn, hS, ⟨lc, hL, hLs⟩, hU⟩ := hx.open
  obtain ⟨adS, cS, rfl, hleS⟩ := hS.shape
  obtain ⟨adL, cL, rfl, hleL⟩ := hL.shape
  have hU0 := hU
  obtain ⟨uc, hU1, hUs⟩ := hU0
  obtain ⟨hz1, hz2, hz3, hz4⟩ := hsm.open
  refine ca_enter Tryd.func16 rfl Tryd.ntmps16 rfl ?_
  refine cd_sr ?_
  refine ln_box rfl rfl rfl (fun b1 => ?_)
  refine ln_box rfl rfl rfl (fun b2 => ?_)
  refine ln_pv (pv_assign rfl) rfl ?_
  refine ln_cd ?_
  refine cd_dr' [0, 1] [0, 2, 3, 4, 7] [0, 2, 3, 4, 1, 5, 6, 7] mixed (by kernel_rfl) ?_
  refine lo_pv rfl rfl (sk_js (Tr.refl _) [0, 1] rfl) (pv_move rfl) rfl ?_
  refine lo_pv rfl rfl (sk_js (Tr.refl _) [0, 1] rfl) (pv_ldO (i := 1) rfl Tryd.underlying31 rfl (tispec_Message).size rfl rfl) rfl ?_
  refine lo_pv rfl rfl (sk_js (Tr.refl _) [0, 1] rfl) (pv_move rfl) rfl ?_
  refine lo_pv rfl rfl (sk_js (Tr.refl _) [0, 1] rfl) (pv_ldO (i := 0) rfl Tryd.underlying26 rfl (tispec_Tree).size rfl rfl) rfl ?_
  refine lo_eff rfl rfl ?_
  refine ln_nilrow 5 1 ?_
  refine ln_callT (i := 0) en_35 rfl rfl (fun u hu hok hav => CN.ct (spec_Fixed_n u v 2 (by omega))) rfl ?_
  rintro u1 v1 _ ht1 ⟨_, ⟨rfl, h1v1⟩, _⟩
  have hVf := hVf.mv ht1
  have hFf := hFf.mv ht1
  have hx := hx.mv ht1
  refine lo_back (sk_js ht1 [1, 2] rfl) ?_
  refine lo_eff rfl rfl ?_
  refine ln_callA en_10 rfl (fun u hu => spec_Write fs fx hok hlen u _ _ _ v x (RS.mv hVf hu) (RFs.mv hFf hu) (RT.mv hx hu) hsm (by simp only [List.length_append] at hB; omega)) rfl (fun u2 v2 ht2 hR2 => ?_)
  have hVf := hVf.mv ht2
  have hFf := hFf.mv ht2
  have hx := hx.mv ht2
  refine lo_back (sk_js (ht1.trans ht2) [1, 2] rfl) ?_
  refine lo_eff rfl rfl ?_
  refine ln_append (i := 0) rfl Tryd.underlying22 tiuint8 rfl (by decide) rfl rfl (RS.src hR2) (by simp only [List.length_append, maxLen] at hB ⊢; omega) (by simp only [List.length_append, maxLen] at hB ⊢; omega) rfl (k' := (fixed v 2 ++ writeB fs fx v x).length) (xs' := u8s (fixed v 2 ++ writeB fs fx v x)) (by simp) (by simp [u8s]) (fun v3 hv3 => ?_)
  refine lo_back (sk_js (ht1.trans ht2) [1, 2] rfl) ?_
  refine lo_pv rfl rfl (sk_js (ht1.trans ht2) [1, 2] rfl) (pv_assign rfl) rfl ?_
  refine lo_cd ?_
  refine cd_ret ?_
  refine at_retA rfl rfl (fun w hS => ?_)
  exact row_rs hS (j := 0) rfl (u8s_one _)
theorem pv_rem' {P : Program} {S : World → Prop} {d : Option Nat} {g : Option (Nat × Bool)} {t u ty : TypeId} {pos : String} {af : Array Edge} {n : Nat} {L : Env} {x y : Operand} {k : IntKind} {i j r : Int} (hx : ev L x = some (.int k i)) (hy : ev L y = some (.int k j)) (h0 : 0 ≤ i) (h1 : 0 < j) (hr : i % j = r) : PV P S ⟨d, .binOp .rem t x y u, ty, pos, af, g⟩ n L (.int k r) := hr ▸ pv_rem hx hy h0 h1
theorem crk_bytes (x : Tre) : (fixed 0 2 ++ writeB F_ControlRecordKey (-1) 0 x) = fixed 0 2 ++ fixed (x.at_ 0).n 2 := by
  have h : writeB F_ControlRecordKey (-1) 0 x = fixed (x.at_ 0).n 2 := by
    show partB F_ControlRecordKey 0 (flexB (-1) 0) x = _
    rw [show flexB (-1) 0 = false from rfl, partB_false]
    simp [F_ControlRecordKey, plainB, hasB, Fld.frm, Fld.to, Fld.tag, fieldB, scalarB, widthN]
  rw [h]
theorem crk_told (x : Tre) : tlT F_ControlRecordKey (imT F_ControlRecordKey 0 (flexB (-1) 0) x) = (.mk 0 [] false [.mk (IntKind.i16.wrap (x.at_ 0).n) [] false [] []] []) := by
  rw [show flexB (-1) 0 = false from rfl]
  simp [tlT, imT, imU, F_ControlRecordKey, imL, imF, imS, hasB, Fld.frm, Fld.to, Fld.tag, tlL, tlF, tlS, numK, Tre.at_, Tre.l, Tre.n, Tre.u, wrap2_i16]
set_option maxHeartbeats 2000000 in
theorem law_ControlRecordKey (t : Vw) (n : Nat) (x : Tre) (cs : List Value) (hn8 : n < 256) (hx : RT t x cs) (hkx : keysT x) (hsm : smT x) (hB : (fixed 0 2 ++ writeB F_ControlRecordKey (-1) 0 x).length < 1099511627776) : CS Tryd.prog 4 [.int .u8 (n : Int), .agg cs.toArray] t (.bool true) := by
  have hnx := hx.nT
  obtain ⟨sS, sL, sU, rfl, hn, hS, ⟨lc, hL, hLs⟩, hU⟩ := hx.open
  obtain ⟨adS, cS, rfl, hleS⟩ := hS.shape
  obtain ⟨adL, cL, rfl, hleL⟩ := hL.shape
  have hU0 := hU
  obtain ⟨uc, hU1, hUs⟩ := hU0
  obtain ⟨hz1, hz2, hz3, hz4⟩ := hsm.open
  have hok := ok_F_ControlRecordKey
  have hwb : (fixed 0 2 ++ writeB F_ControlRecordKey (-1) 0 x) = fixed 0 2 ++ fixed (x.at_ 0).n 2 := crk_bytes x
  have hsT : smT (.mk 0 [] false [.mk (IntKind.i16.wrap (x.at_ 0).n) [] false [] []] []) := ⟨by simp, by simp, by simp, by simp [smTs, smT]⟩
  have hto : toT F_ControlRecordKey 0 (flexB (-1) 0) x (.mk 0 [] false [.mk (IntKind.i16.wrap (x.at_ 0).n) [] false [] []] []) := crk_told x ▸ toT_im F_ControlRecordKey 0 (flexB (-1) 0) (by kernel_rfl) hnx
  refine CA.cs ?_
  refine ca_enter Tryd.func4 rfl Tryd.ntmps4 rfl ?_
  cases hft : fits1 x with
  | false =>
    refine cd_sr ?_
    refine ln_box rfl rfl rfl (fun b1 => ?_)
    refine ln_pv (pv_assign rfl) rfl ?_
    refine ln_cd ?_
    refine cd_seq ?_
    refine cd_sr ?_
    refine ln_pv (pv_ldO (i := 0) rfl Tryd.underlying26 rfl (tispec_Tree).size rfl rfl) rfl ?_
    refine ln_callS en_5 rfl (fun u hu => by have h := laws_zzFits1 u x _ (RT.mv hx hu) (by omega); rwa [hft] at h) rfl ?_
    refine ln_pv (pv_not rfl) rfl ?_
    refine ln_cd ?_
    refine cd_tt rfl ?_
    refine cd_sr ?_
    refine ln_pv (pv_assign rfl) rfl ?_
    refine ln_cd ?_
    refine cd_ret ?_
    refine at_retA rfl rfl (fun w hS => ?_)
    rfl
  | true =>
    refine cd_sr ?_
    refine ln_box rfl rfl rfl (fun b1 => ?_)
    refine ln_pv (pv_assign rfl) rfl ?_
    refine ln_cd ?_
    refine cd_seq ?_
    refine cd_sr ?_
    refine ln_pv (pv_ldO (i := 0) rfl Tryd.underlying26 rfl (tispec_Tree).size rfl rfl) rfl ?_
    refine ln_callS en_5 rfl (fun u hu => by have h := laws_zzFits1 u x _ (RT.mv hx hu) (by omega); rwa [hft] at h) rfl ?_
    refine ln_pv (pv_not rfl) rfl ?_
    refine ln_cd ?_
    refine cd_ff rfl ?_
    refine cd_skip ?_
    refine at_cd ?_
    refine cd_sr ?_
    refine ln_callA en_14 rfl (fun u hu => sch_F_ControlRecordKey u) rfl (fun u1 v1 ht1 hR1 => ?_)
    have hx := hx.mv ht1
    obtain ⟨sv, lcm, rfl, hVm, hFm⟩ := hR1
    refine ln_pv (pv_move rfl) rfl ?_
    refine ln_pv (pv_conv' Tryd.underlying5 Tryd.underlying3 rfl (wrap_i64 (by omega) (by omega))) rfl ?_
    refine ln_pv (pv_rem' rfl rfl (by omega) (by omega) (r := 0) (by omega)) rfl ?_
    refine ln_alloc tispec_Message rfl rfl (fun b2 => ?_)
    refine ln_storeW (i := 0) rfl rfl rfl rfl (tispec_Message).size rfl (by simp [(RS.one hVm)]) ?_
    refine ln_pv (pv_assign rfl) rfl ?_
    refine ln_cd ?_
    refine cd_sr ?_
    refine ln_pv (pv_ldO (i := 0) rfl Tryd.underlying31 rfl (tispec_Message).size rfl rfl) rfl ?_
    refine ln_pv (pv_move rfl) rfl ?_
    refine ln_pv (pv_ldO (i := 1) rfl Tryd.underlying26 rfl (tispec_Tree).size rfl rfl) rfl ?_
    refine ln_callA en_16 rfl (fun u hu => spec_Kept F_ControlRecordKey (-1) hok.1 hok.2.2 u _ _ _ 0 x (RS.mv hVm hu) (RFs.mv hFm hu) (RT.mv hx hu) hsm hB) rfl (fun u2 v2 ht2 hR2 => ?_)
    have hx := hx.mv ht2
    have hVm := hVm.mv ht2
    have hFm := hFm.mv ht2
    refine ln_callA en_15 rfl (fun u hu => tellx_crk u (x.at_ 0).n _ (hwb ▸ RSv.mv hR2 hu)) rfl (fun u3 v3 ht3 hR3 => ?_)
    have hx := hx.mv ht3
    have hVm := hVm.mv ht3
    have hFm := hFm.mv ht3
    have hR2 := hR2.mv ht3
    obtain ⟨ds, rfl, hT⟩ := hR3
    obtain ⟨wS, wL, wU, rfl, hwn, hwS, ⟨lcw, hwL, hwLs⟩, ⟨ucw, hwU, hwUs⟩⟩ := hT.open
    refine ln_pv (pv_move rfl) rfl ?_
    refine ln_pv (pv_extract rfl rfl) rfl ?_
    refine ln_pv (pv_extract rfl rfl) rfl ?_
    refine ln_alloc tiimpl_Tree rfl rfl (fun b3 => ?_)
    refine ln_storeW (i := 0) rfl rfl rfl rfl (tiimpl_Tree).size rfl (by simp [(RS.one hwL), (RS.one hwS), (RS.one hwU)]) ?_
    refine ln_pv (pv_assign rfl) rfl ?_
    refine ln_cd ?_
    refine cd_dr' [0, 1, 2] [2, 3, 4, 7, 8, 9, 10, 11, 12, 14, 15, 18, 19] [0, 1, 2, 3, 4, 5, 6, 7, 8, 9, 10, 11, 12, 14, 15, 13, 16, 17, 18, 19] mixed (by kernel_rfl) ?_
    refine lo_eff rfl rfl ?_
    refine ln_pv (pv_move rfl) rfl ?_
    refine lo_back (sk_js (Tr.refl _) [0, 1, 2] rfl) ?_
    refine lo_eff rfl rfl ?_
    refine ln_pv (pv_move rfl) rfl ?_
    refine lo_back (sk_js (Tr.refl _) [0, 1, 2] rfl) ?_
    refine lo_gt rfl rfl (sk_js (Tr.refl _) [0, 1, 2] rfl) rfl rfl rfl (pv_fieldAddr (off := 0) (r := 0) Tryd.underlying37 rfl (tiint64).size rfl rfl rfl) rfl ?_
    refine lo_gt rfl rfl (sk_js (Tr.refl _) [0, 1, 2] rfl) rfl rfl rfl (pv_ldo (i := 0) rfl Tryd.underlying2 rfl rfl rfl) rfl ?_
    refine lo_gt rfl rfl (sk_js (Tr.refl _) [0, 1, 2] rfl) rfl rfl rfl (pv_move rfl) rfl ?_
    refine lo_eff rfl rfl ?_
    refine ln_gt rfl rfl rfl (pv_tt (pv_eql rfl rfl) rfl) rfl ?_
    refine lo_back (sk_js (Tr.refl _) [0, 1, 2] rfl) ?_
    refine lo_eff rfl rfl ?_
    refine ln_pv (pv_pick rfl (fun _ => rfl) (fun _ => rfl)) rfl ?_
    refine lo_back (sk_js (Tr.refl _) [0, 1, 2] rfl) ?_
    refine lo_pv rfl rfl (sk_js (Tr.refl _) [0, 1, 2] rfl) (pv_move rfl) rfl ?_
    refine lo_gt rfl rfl (sk_js (Tr.refl _) [0, 1, 2] rfl) rfl rfl rfl (pv_fieldAddr (off := 0) (r := 0) Tryd.underlying31 rfl (tiSl_spec_Field).size rfl rfl rfl) rfl ?_
    refine lo_gt rfl rfl (sk_js (Tr.refl _) [0, 1, 2] rfl) rfl rfl rfl (pv_ldo (i := 1) rfl Tryd.underlying29 rfl rfl rfl) rfl ?_
    refine lo_gt rfl rfl (sk_js (Tr.refl _) [0, 1, 2] rfl) rfl rfl rfl (pv_move rfl) rfl ?_
    refine lo_gt rfl rfl (sk_js (Tr.refl _) [0, 1, 2] rfl) rfl rfl rfl (pv_ldO (i := 1) rfl Tryd.underlying31 rfl (tispec_Message).size rfl rfl) rfl ?_
    refine lo_gt rfl rfl (sk_js (Tr.refl _) [0, 1, 2] rfl) rfl rfl rfl (pv_move rfl) rfl ?_
    refine lo_gt rfl rfl (sk_js (Tr.refl _) [0, 1, 2] rfl) rfl rfl rfl (pv_ldO (i := 2) rfl Tryd.underlying26 rfl (tispec_Tree).size rfl rfl) rfl ?_
    refine lo_gt rfl rfl (sk_js (Tr.refl _) [0, 1, 2] rfl) rfl rfl rfl (pv_ldO (i := 0) rfl Tryd.underlying37 rfl (tiimpl_Tree).size rfl rfl) rfl ?_
    refine lo_eff rfl rfl ?_
    refine ln_gE rfl rfl rfl ?_
    refine ln_callS en_12 rfl (fun u hu => spec_Flexible u _ _ _ (-1) 0 (RS.mv hVm hu)) rfl ?_
    refine lo_back (sk_js (Tr.refl _) [0, 1, 2] rfl) ?_
    refine lo_eff rfl rfl ?_
    refine ln_gE rfl rfl rfl ?_
    refine ln_callA en_13 rfl (fun u hu => laws_got (.mk 0 [] false [.mk (IntKind.i16.wrap (x.at_ 0).n) [] false [] []] []) u _ (RT.mv hT hu) hsT) rfl (fun u4 v4 ht4 hR4 => ?_)
    have hx := hx.mv ht4
    have hVm := hVm.mv ht4
    have hFm := hFm.mv ht4
    have hR2 := hR2.mv ht4
    have hT := hT.mv ht4
    have hwS := hwS.mv ht4
    obtain ⟨dg, rfl, hG⟩ := hR4
    refine lo_back (sk_js ht4 [0, 1, 2] rfl) ?_
    refine lo_eff rfl rfl ?_
    refine ln_gE rfl rfl rfl ?_
    refine ln_callS en_11 rfl (fun u hu => spec_Told F_ControlRecordKey hok.1 (by kernel_rfl) (by decide) u _ _ _ _ _ _ x _ (RS.mv hVm hu) (RFs.mv hFm hu) (RT.mv hx hu) hsm (RT.mv hG hu) hsT hto) rfl ?_
    refine lo_back (sk_js ht4 [0, 1, 2] rfl) ?_
    refine lo_pv rfl rfl (sk_js ht4 [0, 1, 2] rfl) (pv_pick rfl (fun _ => rfl) (fun _ => rfl)) rfl ?_
    refine lo_pv rfl rfl (sk_js ht4 [0, 1, 2] rfl) (pv_assign rfl) rfl ?_
    refine lo_cd ?_
    refine cd_ret ?_
    refine at_retA rfl rfl (fun w hS => ?_)
    rfl
theorem fn_ControlRecordKey (t : Vw) (n : Nat) (x : Tre) (cs : List Value) (hn : n < 256) (hx : RT t x cs) (hw : wt x ≤ 1048576) : CS Tryd.prog 4 [.int .u8 (n : Int), .agg cs.toArray] t (.bool true) :=
  law_ControlRecordKey t n x cs hn hx hx.keys (smT_wt x (by omega)) (by
    have e : (fixed 0 2 ++ writeB F_ControlRecordKey (-1) 0 x) = fixed 0 2 ++ fixed (x.at_ 0).n 2 := crk_bytes x
    rw [e, List.length_append, fixed_length, fixed_length]
    decide)
end K
end Go.Proofs.YtekafeogilbjmaaDoor
