import Derived.Test.YtjjfpdofkdolnaaDoorTx
import Derived.Test.YtjjfpdofkdolnaaDoorP4
import Derived.Test.YtjjfpdofkdolnaaDoorS10
set_option linter.unusedVariables false
set_option linter.unusedSimpArgs false
namespace Go.Proofs.YtjjfpdofkdolnaaDoor
namespace K
open Go Go.Lib
theorem df_TxnMetadataValue (z0 z1 z2 z3 z4 z5 z6 z7 z8 z9 z10 z11 z12 : Value) : DfC 105 [z0, z1, z2, z3, z4, z5, z6, z7, z8, z9, z10, z11, z12] [z0, z1, z2, z3, z4, z5, z6, z7, .int .i64 (-1), .int .i64 (-1), z10, .int .i16 (-1), z12] := by
  intro mk b o hT t hok hav
  refine ct_enter Tryd.func105 rfl Tryd.ntmps105 rfl hok hav (by rw [hT.blk]; simp) ?_
  refine cd_sr ?_
  refine ln_pv (pv_move rfl) rfl ?_
  refine ln_pv (pv_nilCheck rfl) rfl ?_
  refine ln_pv (pv_fieldAddr (off := 8) Tryd.underlying81 rfl tiint64.size rfl rfl rfl) rfl ?_
  refine ln_storeG1 (i := 0) (off := 8) (v := .int .i64 (-1)) hT rfl rfl rfl rfl rfl tiint64.size (Nat.le_of_ble_eq_true rfl) ?_
  refine ln_cd ?_
  refine cd_sr ?_
  refine ln_pv (pv_move rfl) rfl ?_
  refine ln_pv (pv_nilCheck rfl) rfl ?_
  refine ln_pv (pv_fieldAddr (off := 9) Tryd.underlying81 rfl tiint64.size rfl rfl rfl) rfl ?_
  refine ln_storeG1 (i := 0) (off := 9) (v := .int .i64 (-1)) hT rfl rfl rfl rfl rfl tiint64.size (Nat.le_of_ble_eq_true rfl) ?_
  refine ln_cd ?_
  refine cd_region ?_
  refine ln_pv (pv_move rfl) rfl ?_
  refine ln_pv (pv_nilCheck rfl) rfl ?_
  refine ln_pv (pv_fieldAddr (off := 11) Tryd.underlying81 rfl tiint16.size rfl rfl rfl) rfl ?_
  refine ln_storeG1 (i := 0) (off := 11) (v := .int .i16 (-1)) hT rfl rfl rfl rfl rfl tiint16.size (Nat.le_of_ble_eq_true rfl) ?_
  refine ln_nil ?_
  exact at_retT0 (i := 0) rfl rfl (fun w hS => ⟨rfl, rfl⟩)
theorem df_TxnMetadataValueTopic (z0 z1 z2 : Value) : DfC 144 [z0, z1, z2] [z0, z1, z2] := by
  intro mk b o hT t hok hav
  refine ct_enter Tryd.func144 rfl Tryd.ntmps144 rfl hok hav (by rw [hT.blk]; simp) ?_
  refine cd_skip ?_
  exact at_retT0 (i := 0) rfl rfl (fun w hS => ⟨rfl, rfl⟩)
set_option maxHeartbeats 4000000 in
theorem readu_TxnMetadataValue (t : Vw) (b : Nat) (ub : Bool) (D : List UInt8) (sv : Value) (hsv : RSv t sv D) (hD : D.length ≤ 32767) (hG : EG t) (hok : (MsgBox b 81 ([.int .i16 0, .int .i64 0, .int .i16 0, .int .i32 0, .int .i8 0, .slice none 0 0, .int .i64 0, .int .i64 0, .int .i64 (-1), .int .i64 (-1), .int .i16 0, .int .i16 (-1), .map none] : List Value)).ok t.w) (hav : ∀ q ∈ (MsgBox b 81 ([.int .i16 0, .int .i64 0, .int .i16 0, .int .i32 0, .int .i8 0, .slice none 0 0, .int .i64 0, .int .i64 0, .int .i64 (-1), .int .i64 (-1), .int .i16 0, .int .i16 (-1), .map none] : List Value)).blk, t.av q) : CT Tryd.prog 106 [.pointer (some ⟨b, 0, none⟩), sv, .bool ub] t (MsgBox b 81 ([.int .i16 0, .int .i64 0, .int .i16 0, .int .i32 0, .int .i8 0, .slice none 0 0, .int .i64 0, .int .i64 0, .int .i64 (-1), .int .i64 (-1), .int .i16 0, .int .i16 (-1), .map none] : List Value)) fun u r e' => ∃ cells, e' = MsgBox b 81 (.int .i16 (tV (D, false)) :: cells) ∧ (((tE (D, false)).1.2 = true ∧ ∃ ty x, r = .iface ty x) ∨ ((tE (D, false)).1.2 = false ∧ r = .nilIface ∧ RMp u tAll (tY (D, false)) cells)) := by
  obtain ⟨st0, hst0⟩ : ∃ z : Rst, z = (D, false) := ⟨_, rfl⟩
  rw [← hst0]
  have hsv : RSv t sv st0.1 := by rw [hst0]; exact hsv
  have hD : st0.1.length ≤ 32767 := by rw [hst0]; exact hD
  have hs2 : st0.2 = false := by rw [hst0]
  obtain ⟨adS, cS, rfl, hcS⟩ := RSv.shape hsv
  clear hst0
  refine ct_enter Tryd.func106 rfl Tryd.ntmps106 rfl hok hav (by simp [Ent.blk]) ?_
  refine cd_sq ?_
  refine rg_const rfl ?_
  refine at_cd ?_
  refine cd_sr ?_
  refine ln_pv (pv_move rfl) rfl ?_
  refine ln_callT (i := 0) (vals := [.pointer (some ⟨b, 0, none⟩)]) en_105 rfl rfl (fun u hu hok hav => df_TxnMetadataValue _ _ _ _ _ _ _ _ _ _ _ _ _ (fun w => .obj b (.cells w.toArray 81)) b 0 (Tgt.obj b 81 13) u hok hav) rfl ?_
  rintro u0 _ _ ht0 ⟨ux0, ⟨rfl, rfl⟩, hx0⟩
  refine ln_cd ?_
  refine cd_sr ?_
  refine ln_pv (pv_move rfl) rfl ?_
  refine ln_pv (pv_struct [(0, 1), (1, 1)] (l := [_, _]) rfl Tryd.underlying142 tipub_kmsg_inner_kbin_Reader (by kernel_rfl) rfl rfl) rfl ?_
  refine ln_alloc (l := [.slice none 0 0, .bool false]) tipub_kmsg_inner_kbin_Reader rfl rfl (fun br => ?_)
  refine ln_storeW (i := 0) (vs := [_, .bool false]) rfl rfl rfl rfl tipub_kmsg_inner_kbin_Reader.size rfl (by simp) ?_
  refine ln_cd ?_
  refine cd_sr ?_
  refine ln_pv (pv_move rfl) rfl ?_
  refine ln_callT (i := 0) (vals := [.pointer (some ⟨br, 0, none⟩)]) en_125 rfl rfl (fun u hu hok hav => gx_Int16 u br _ false st0.1 (RSv.mv hsv (ht0.trans hu)) hok hav) rfl ?_
  rintro u1 _ _ ht1 ⟨ux1, ⟨rfl, v1, rfl, hv1⟩, hx1⟩
  have hv1 := RSv.mv hv1 hx1
  refine ln_pv (pv_nilCheck rfl) rfl ?_
  refine ln_pv (pv_fieldAddr (off := 0) (r := 0) Tryd.underlying81 rfl tiint16.size rfl rfl rfl) rfl ?_
  refine ln_store1 (i := 1) rfl rfl rfl rfl tiint16.size rfl ?_
  refine ln_cd ?_
  obtain ⟨v, hv⟩ : ∃ v : Int, v = tV st0 := ⟨_, rfl⟩
  obtain ⟨q, hq⟩ : ∃ q : Bool, q = tQ st0 := ⟨_, rfl⟩
  obtain ⟨st1, hst1⟩ : ∃ z : Rst, z = (stp (gN 2) st0).2 := ⟨_, rfl⟩
  have hv0 : -32768 ≤ v := by rw [hv]; exact (i16_tV st0).1
  have hbd1 : (false || (gN 2 st0.1).2.2) = st1.2 := by rw [hst1]; simp [stp, hs2]
  rw [hbd1]
  refine cd_eqH (H' := [RdX br v1 st1.2, MsgBox b 81 (.int .i16 v :: ([.int .i64 0, .int .i16 0, .int .i32 0, .int .i8 0, .slice none 0 0, .int .i64 0, .int .i64 0, .int .i64 (-1), .int .i64 (-1), .int .i16 0, .int .i16 (-1), .map none] : List Value))]) (by rw [hv]; rfl) ?_
  refine cd_sr ?_
  refine ln_pv (pv_move rfl) rfl ?_
  refine ln_pv (pv_nilCheck rfl) rfl ?_
  refine ln_pv (pv_fieldAddr (off := 0) (r := 0) Tryd.underlying81 rfl tiint16.size rfl rfl rfl) rfl ?_
  refine ln_pv (pv_ldo (i := 1) (v := .int .i16 v) rfl Tryd.underlying45 rfl rfl rfl) rfl ?_
  refine ln_pv (pv_assign rfl) rfl ?_
  refine ln_cd ?_
  refine cd_sq ?_
  refine rg_blank rfl rfl ?_
  refine at_cd ?_
  refine cd_sr ?_
  refine ln_pv (pv_move rfl) rfl ?_
  refine ln_pv (pv_geq rfl rfl) rfl ?_
  refine ln_pv (pv_assign rfl) rfl ?_
  rw [show decide (v ≥ 1) = q by rw [hq, hv]; rfl]
  refine ln_cd ?_
  refine cd_sq ?_
  refine rg_blank rfl rfl ?_
  refine at_cd ?_
  refine cd_sr ?_
  refine ln_pv (pv_move rfl) rfl ?_
  refine ln_pv (pv_assign rfl) rfl ?_
  refine ln_cd ?_
  refine cd_sub_ (L' := [(10, .pointer (some ⟨b, 0, none⟩)), (9, .bool q), (8, .int .i16 v), (7, .pointer (some ⟨br, 0, none⟩)), (2, .bool ub)]) (.put rfl (.put rfl (.put rfl (.put rfl (.put rfl .nil))))) ?_
  obtain ⟨mk, hmk⟩ : ∃ mk : List Value → Ent, mk = fun w => MsgBox b 81 (.int .i16 v :: w) := ⟨_, rfl⟩
  have hT : Tgt mk b 1 12 := by rw [hmk]; exact Tgt.behind b 81 _ 12
  refine cd_eqH (H' := [RdX br v1 st1.2, mk ([] ++ ([.int .i64 0, .int .i16 0, .int .i32 0, .int .i8 0, .slice none 0 0, .int .i64 0, .int .i64 0, .int .i64 (-1), .int .i64 (-1), .int .i16 0, .int .i16 (-1), .map none] : List Value))]) (by rw [hmk]; rfl) ?_
  obtain ⟨Y, hY⟩ : ∃ Y, Y = tY st0 := ⟨_, rfl⟩
  obtain ⟨E, hE⟩ : ∃ E, E = (tL st0).2 := ⟨_, rfl⟩
  obtain ⟨W, hW⟩ : ∃ W, W = tE st0 := ⟨_, rfl⟩
  have hR : RsU u1 [.mk 4 (-32768) (-1) (-1) (-1) 0 0 [], .mk 2 (-32768) (-1) (-1) (-1) 0 0 [], .mk 3 (-32768) (-1) (-1) (-1) 0 0 [], .mk 1 (-32768) (-1) (-1) (-1) 0 0 [], .mk 11 (-32768) (-1) 0 (-1) 0 10 tSub, .mk 4 (-32768) (-1) (-1) (-1) 0 0 [], .mk 4 (-32768) (-1) (-1) (-1) 0 0 []] [] v q Y st1 E v1 [] := by rw [hY, hE, hv, hq, hst1]; exact RsU.startT hv1 hD
  have hWb : E.2 = true → W.1.2 = true := fun h => by
    rw [hW, tE, ← hE]
    unfold dcTg
    split
    · exact itT_bad (i := 0) (Nat.zero_le _) ((stp_sane gUv_le E).1 h)
    · exact h
  rw [← hW, ← hY, ← hv]
  refine cd_sq ?_
  refine st_numU (z := .int .i64 0) hR (hasB_low hv0) rfl en_128 fx_i64 rfl hT rfl Tryd.underlying81 rfl tiint64.size rfl (po_eq (show 1 = 1 + fszs _ by kernel_rfl)) tiint64.size rfl rfl (fun u11 v11 st11 done11 ht11 hR => ?_)
  refine at_cd ?_
  refine cd_sq ?_
  refine st_numU (z := .int .i16 0) hR (hasB_low hv0) rfl en_125 fx_i16 rfl hT rfl Tryd.underlying81 rfl tiint16.size rfl (po_eq (show 2 = 1 + fszs _ by kernel_rfl)) tiint16.size rfl rfl (fun u12 v12 st12 done12 ht12 hR => ?_)
  refine at_cd ?_
  refine cd_sq ?_
  refine st_numU (z := .int .i32 0) hR (hasB_low hv0) rfl en_122 fx_i32 rfl hT rfl Tryd.underlying81 rfl tiint32.size rfl (po_eq (show 3 = 1 + fszs _ by kernel_rfl)) tiint32.size rfl rfl (fun u13 v13 st13 done13 ht13 hR => ?_)
  refine at_cd ?_
  refine cd_sq ?_
  refine cd_sq ?_
  refine rg_const rfl ?_
  refine at_cd ?_
  refine st_enumU (z := .int .i8 0) hR (hasB_low hv0) rfl en_141 fx_i8 rfl hT rfl Tryd.underlying81 rfl tipub_kmsg_TransactionState.size rfl (po_eq (show 4 = 1 + fszs _ by kernel_rfl)) tipub_kmsg_TransactionState.size rfl rfl (fun u14 v14 st14 done14 ht14 hR => ?_)
  refine at_cd ?_
  refine cd_sq ?_
  refine st_listNU (zc := ([.string .empty, .slice none 0 0, .map none] : List Value)) hR (hasB_low hv0) (by decide) rfl rfl rfl rfl hT rfl Tryd.underlying81 rfl tiSl_kmsg_TxnMetadataValueTopic.size rfl (po_eq (show 5 = 1 + fszs _ by kernel_rfl)) tiSl_kmsg_TxnMetadataValueTopic.size Tryd.underlying76 Tryd.underlying21 tipub_kmsg_TxnMetadataValueTopic rfl rfl (by kernel_rfl) (by decide) (by decide) (fun q hq => .inl (by simpa [Ent.blk] using hq)) rfl rfl rfl rfl rfl rfl rfl rfl rfl rfl rfl rfl rfl rfl rfl (fun hb15 uA15 vA15 LA15 NA15 htA15 hsA15 => ret_early (i := 0) (EG.mv hG ((((((ht0.trans ht1).trans ht11).trans ht12).trans ht13).trans ht14).trans htA15)) (hsA15 _ _ rfl) rfl rfl rfl rfl (fun u r hr => ⟨_, by rw [hmk], .inl ⟨hWb hb15, hr⟩⟩)) (fun gb15 cap15 m15 i15 st15 u15 v15 xs15 N15 X15 hi15 hm15 hK15 ht15 hxl15 hv15 hbd15 kb15 => ?_) (fun uu15 vv15 st15 done15 hh15 hR => ?_)
  · skip
    refine cd_sq ?_
    refine rg_ix rfl rfl hi15 Tryd.underlying76 tipub_kmsg_TxnMetadataValueTopic.size rfl ?_
    refine at_cd ?_
    obtain ⟨mk15, hmk15⟩ : ∃ mk : List Value → Ent, mk = fun w => .row (.slice (some ⟨gb15, 0, none⟩) m15 cap15) 139 3 m15 (xs15 ++ (w ++ (List.replicate (m15 - (i15 + 1)) ([.string .empty, .slice none 0 0, .map none] : List Value)).flatten)) := ⟨_, rfl⟩
    have hT15 : Tgt mk15 gb15 (0 + i15 * 3) 3 := by rw [hmk15]; exact (Tgt.row gb15 cap15 m15 3 139).mid _ _ _ _ (list_fits hi15 hxl15 rfl) (by rw [hxl15])
    refine cd_eqH (H' := RdX _ v15 st15.2 :: mk15 ([.string .empty, .slice none 0 0, .map none] : List Value) :: _) (by rw [hmk15]) ?_
    refine cd_sq ?_
    refine rg_dflt (z2 := ([.string .empty, .slice none 0 0, .map none] : List Value)) rfl en_144 (df_TxnMetadataValueTopic _ _ _) hT15 rfl (fun u16 ht16 => ?_)
    refine at_cd ?_
    refine cd_sq ?_
    refine rg_move rfl rfl ?_
    refine at_cd ?_
    have hR := RsU.start (F := tSub) (v0 := v) (q := q) (st := st15) (z := false) (U := (dcU q (dcL tSub v q st15).2).1) (s := u16) (v := v15) (RSv.mv hv15 ht16) hK15
    obtain ⟨E15, hE15⟩ : ∃ E, E = (dcL tSub v q st15).2 := ⟨_, rfl⟩
    rw [← hE15] at hR
    obtain ⟨Y15, hY15⟩ : ∃ Y : Tre, Y = .mk 0 [] false (dcL tSub v q st15).1 (dcU q E15).1 := ⟨_, rfl⟩
    have hYu15 : Y15.u = (dcU q E15).1 := by rw [hY15]; rfl
    rw [← hY15] at hR
    have hR : RsU u16 [.mk 8 (-32768) (-1) (-1) (-1) 0 0 [], .mk 11 (-32768) (-1) (-1) (-1) 0 3 []] [] v q Y15 st15 E15 v15 [] := hR
    have hbad15 : E15.2 = true → _ := fun h => hWb (hbd15 (dcE_bad (by rw [← hE15]; exact h)))
    refine cd_eqH (H' := RdX _ v15 st15.2 :: mk15 ([] ++ ([.string .empty, .slice none 0 0, .map none] : List Value)) :: _) rfl ?_
    refine cd_sq ?_
    refine cd_sq ?_
    refine rg_const rfl ?_
    refine at_cd ?_
    refine st_strU (z := .string .empty) en_114 en_115 (fun h => fx_ucstr (by decide) h) (fun h => fx_ustr (by decide) h) rfl rfl rfl hR (hasB_low hv0) rfl rfl rfl en_116 en_117 (fun h => fx_cstr (by decide) h) (fun h => fx_str (by decide) h) rfl hT15 rfl Tryd.underlying139 rfl tistring.size rfl (po_eq (show 0 = 0 + fszs _ by kernel_rfl)) tistring.size rfl rfl rfl rfl rfl (fun u17 v17 st17 done17 ht17 hR => ?_)
    refine at_cd ?_
    refine cd_sq ?_
    refine st_listU (zc := ([.int .i32 0] : List Value)) hR (hasB_low hv0) (by decide) rfl rfl rfl hT15 rfl Tryd.underlying139 rfl tiSl_int32.size rfl (po_eq (show 1 = 0 + fszs _ by kernel_rfl)) tiSl_int32.size Tryd.underlying102 Tryd.underlying21 tiint32 rfl rfl (by kernel_rfl) (by decide) (by decide) (fun q hq => .inr (hO_push hT (fun q hq => .inl (by simpa [Ent.blk] using hq)) _ q hq)) rfl rfl rfl rfl rfl rfl rfl rfl rfl rfl rfl rfl rfl (fun hb18 uA18 vA18 LA18 NA18 htA18 hsA18 => ret_early (i := 1) (EG.mv hG (((((((((ht0.trans ht1).trans ht11).trans ht12).trans ht13).trans ht14).trans ht15).trans ht16).trans ht17).trans htA18)) (hsA18 _ _ rfl) rfl rfl rfl rfl (fun u r hr => ⟨_, by rw [hmk], .inl ⟨hbad15 hb18, hr⟩⟩)) (fun gb18 cap18 m18 i18 st18 u18 v18 xs18 N18 X18 hi18 hm18 hK18 ht18 hxl18 hv18 hbd18 kb18 => ?_) (fun uu18 vv18 st18 done18 hh18 hR => ?_)
    · skip
      refine st_elemU (q := q) (ez := 1) (sb := []) (v0 := v) rfl en_122 ex_i32 hv18 rfl rfl hi18 (by rw [hxl18]) (by simp) Tryd.underlying102 tiint32.size rfl rfl (fun u v c ht hE hv => ?_)
      exact kb18 _ _ _ ht hE hv
    refine at_cd ?_
    refine st_tagsU (F := tSub) hR hYu15 rfl rfl rfl hT15 rfl Tryd.underlying139 rfl tipub_kmsg_Tags.size rfl (po_eq (show 2 = 0 + fszs _ by kernel_rfl)) tipub_kmsg_Tags.size rfl rfl (fun u19 v19 cs19 ht19 hv hM => ?_)
    refine at_eqH (H' := RdX _ _ _ :: .row (.slice (some ⟨gb15, 0, none⟩) m15 cap15) 139 3 m15 (xs15 ++ (_ ++ (List.replicate (m15 - (i15 + 1)) ([.string .empty, .slice none 0 0, .map none] : List Value)).flatten)) :: _) (by rw [hmk15]) ?_
    rw [hY15, hE15] at hM
    rw [hE15, ← dcE_part] at hv ⊢
    exact at_sub (.skip rfl (.skip rfl .rfl')) (kb15 _ _ _ (((ht16.trans ht17).trans hh18).trans ht19) (REl_partU hM) hv)
  refine at_cd ?_
  refine cd_sq ?_
  refine st_numU (z := .int .i64 0) hR (hasB_low hv0) rfl en_128 fx_i64 rfl hT rfl Tryd.underlying81 rfl tiint64.size rfl (po_eq (show 6 = 1 + fszs _ by kernel_rfl)) tiint64.size rfl rfl (fun u20 v20 st20 done20 ht20 hR => ?_)
  refine at_cd ?_
  refine cd_sq ?_
  refine st_numU (z := .int .i64 0) hR (hasB_low hv0) rfl en_128 fx_i64 rfl hT rfl Tryd.underlying81 rfl tiint64.size rfl (po_eq (show 7 = 1 + fszs _ by kernel_rfl)) tiint64.size rfl rfl (fun u21 v21 st21 done21 ht21 hR => ?_)
  refine at_cd ?_
  have hdl := hR.len
  have hvE := hR.hv
  have hac := hR.acc
  have hsm := hR.sm
  have hEe := hR.fin
  simp only [dcL] at hEe
  rw [hEe] at hvE hsm ⊢
  obtain ⟨d0, d1, d2, d3, d4, d5, d6, hd7⟩ := seven_of (hdl.trans (by kernel_rfl))
  rw [hd7] at hac ⊢
  refine cd_eqH (H' := [RdX br _ E.2, MsgBox b 81 [.int .i16 v, d0, d1, d2, d3, d4, d5, d6, .int .i64 (-1), .int .i64 (-1), .int .i16 0, .int .i16 (-1), .map none]]) (by rw [hmk]; rfl) ?_
  have hac0 : RMl _ tPl Y 0 [d0, d1, d2, d3, d4, d5, d6] := hac
  refine cd_sq ?_
  refine cd_sr ?_
  refine ln_pv (pv_move rfl) rfl ?_
  refine ln_cd ?_
  refine cd_cond rfl (fun hqt => ?_) (fun hqf => ?_)
  · skip
    obtain ⟨cnt, hcnt⟩ : ∃ c : Nat, c = (gUv E.1).1 := ⟨_, rfl⟩
    obtain ⟨s1, hs1⟩ : ∃ s1 : Rst, s1 = (stp gUv E).2 := ⟨_, rfl⟩
    obtain ⟨w0, hw0⟩ : ∃ w0 : Wst, w0 = (s1, tDf, []) := ⟨_, rfl⟩
    have hWe : W = itT cnt w0 := by rw [hW, tE, ← hq, hqt, ← hE, dcTg, if_pos rfl, hw0, hs1, hcnt]; rfl
    have hnlt : cnt < 4294967296 := by rw [hcnt]; exact gUv_lt _
    have hw0k : WOk w0 := by rw [hw0]; exact w0_ok _
    have hs1l : w0.1.1.length ≤ 32767 := by rw [hw0, hs1]; exact Nat.le_trans (stp_sane gUv_le E).2 hsm
    refine cd_sr ?_
    refine ln_callT (i := 0) (vals := [.pointer (some ⟨br, 0, none⟩)]) en_145 rfl rfl (fun u hu hok hav => gx_Uvarint u br _ E.2 E.1 (RSv.mv hvE hu) hok hav) rfl ?_
    rintro u2 _ _ ht2 ⟨ux2, ⟨rfl, v2, rfl, hv2⟩, hx2⟩
    have hv2 := RSv.mv hv2 hx2
    refine ln_pv (pv_assign rfl) rfl ?_
    refine ln_cd ?_
    have hbd2 : (E.2 || (gUv E.1).2.2) = w0.1.2 := by rw [hw0, hs1]; rfl
    have hv2 : RSv u2 v2 w0.1.1 := by rw [hw0, hs1]; exact hv2
    rw [hbd2, ← hcnt]
    refine cd_block ?_
    refine cd_loop' (S := Nat × Option Nat × List (Nat × Value) × Value × (Value × Value × Value × Value)) ⟨fun z => [(31, .int .u32 ((cnt - z.1 : Nat) : Int)), (10, .pointer (some ⟨b, 0, none⟩)), (9, .bool q), (8, .int .i16 v), (7, .pointer (some ⟨br, 0, none⟩)), (2, .bool ub)],
        fun z => RdX br z.2.2.2.1 (itT z.1 w0).1.2 :: (mapE z.2.1 z.2.2.1 ++ [MsgBox b 81 [.int .i16 v, d0, d1, d2, d3, d4, d5, d6, z.2.2.2.2.1, z.2.2.2.2.2.1, z.2.2.2.2.2.2.1, z.2.2.2.2.2.2.2, mapV z.2.1]]),
        fun z u => z.1 ≤ cnt ∧ RK u z.2.2.1 (itT z.1 w0).2.2 ∧ (z.2.1 = none → z.2.2.1 = []) ∧ RSv u z.2.2.2.1 (itT z.1 w0).1.1 ∧ AcR u (itT z.1 w0).2.1 z.2.2.2.2.1 z.2.2.2.2.2.1 z.2.2.2.2.2.2.1 z.2.2.2.2.2.2.2, fun z => cnt - z.1⟩ (0, none, [], v2, (.int .i64 (-1), .int .i64 (-1), .int .i16 0, .int .i16 (-1)))
      (fun u hu => ⟨Nat.zero_le _, by show RK u [] w0.2.2; rw [hw0]; rfl, fun _ => rfl, RSv.mv hv2 hu, by show AcR u w0.2.1 _ _ _ _; rw [hw0]; exact AcR.df u⟩) ?_ (List.Sublist.refl _) ?_
    · exact .put rfl (.put rfl (.put rfl (.put rfl (.put rfl (.put rfl .nil)))))
    rintro ⟨i, mo, ml, v3, c0, c1, c2, c3⟩ u hu ⟨hi, hRK, hmo, hv3, hAc⟩
    dsimp only at hi hRK hmo hv3 hAc ⊢
    refine cd_seq ?_
    refine cd_sr ?_
    refine ln_pv (pv_move rfl) rfl ?_
    refine ln_pv (pv_gtr rfl rfl) rfl ?_
    refine ln_cd ?_
    refine cd_if rfl (fun hlt => ?_) (fun hge => ?_)
    · skip
      have hi' : i < cnt := by omega
      have hWi := itT_ok hw0k hs1l i
      obtain ⟨wi, hwi⟩ : ∃ z : Wst, z = itT i w0 := ⟨_, rfl⟩
      have hws : itT (i + 1) w0 = dcT wi := by rw [hwi]; rfl
      rw [← hwi] at hWi hRK hv3 hAc ⊢
      refine cd_skip ?_
      refine at_cd ?_
      refine cd_seq ?_
      refine cd_block ?_
      refine cd_sr ?_
      refine ln_callT (i := 0) (vals := [.pointer (some ⟨br, 0, none⟩)]) en_145 rfl rfl (fun u hu hok hav => gx_Uvarint u br v3 wi.1.2 wi.1.1 (RSv.mv hv3 hu) hok hav) rfl ?_
      rintro u3 _ _ ht3 ⟨ux3, ⟨rfl, v4, rfl, hv4⟩, hx3⟩
      have hv4 := RSv.mv hv4 hx3
      refine ln_pv (pv_assign rfl) rfl ?_
      refine ln_cd ?_
      refine cd_sr ?_
      refine ln_pv (pv_move rfl) rfl ?_
      refine ln_cd ?_
      refine cd_block ?_
      have hkey : (gUv wi.1.1).1 = (dcG wi.1).1.1 := rfl
      rw [hkey]
      have hu_ := hu
      refine cd_sr ?_
      refine ln_pv (pv_eql rfl rfl) rfl ?_
      refine ln_pv (pv_assign rfl) rfl ?_
      refine ln_cd ?_
      refine cd_if rfl (fun hk0 => ?_) (fun hk0 => ?_)
      · skip
        have hkk : (dcG wi.1).1.1 = 0 := by omega
        have hdc : dcT wi = (((dcG wi.1).2.1, (dcG wi.1).2.2 || (dcF tG0 0 false ((dcG wi.1).1.2, false)).2.2), wi.2.1.set 0 (dcF tG0 0 false ((dcG wi.1).1.2, false)).1, wi.2.2) := by
          unfold dcT
          rw [if_pos (by omega), hkk]
          rfl
        refine cd_sr ?_
        refine ln_callT (i := 0) (vals := [.pointer (some ⟨br, 0, none⟩)]) en_145 rfl rfl (fun u hu hok hav => gx_Uvarint u br v4 (stp gUv wi.1).2.2 (stp gUv wi.1).2.1 (RSv.mv hv4 hu) hok hav) rfl ?_
        rintro u4 _ _ ht4 ⟨ux4, ⟨rfl, v5, rfl, hv5⟩, hx4⟩
        have hv5 := RSv.mv hv5 hx4
        refine ln_pv (pv_conv' (k := .u32) (i := ((stp gUv (stp gUv wi.1).2).1 : Int)) Tryd.underlying55 Tryd.underlying3 rfl (r := IntKind.i64.wrap ((stp gUv (stp gUv wi.1).2).1 : Int)) rfl) rfl ?_
        refine ln_callT (i := 0) (vals := [.pointer (some ⟨br, 0, none⟩), .int .i64 (IntKind.i64.wrap ((stp gUv (stp gUv wi.1).2).1 : Int))]) en_147 rfl rfl (fun u hu hok hav => gx_Span u (IntKind.i64.wrap ((stp gUv (stp gUv wi.1).2).1 : Int)) br v5 (stp gUv (stp gUv wi.1).2).2.2 (stp gUv (stp gUv wi.1).2).2.1 (RSv.mv hv5 hu) hok hav) rfl ?_
        rintro u5 r5 _ ht5 ⟨ux5, ⟨hr5, v6, rfl, hv6⟩, hx5⟩
        have hv6 : RSv u5 v6 (dcG wi.1).2.1 := RSv.mv hv6 hx5
        have hr5 : RSv u5 r5 (dcG wi.1).1.2 := RSv.mv hr5 hx5
        have hgb : ((stp gUv (stp gUv wi.1).2).2.2 || (gSp (IntKind.i64.wrap ((stp gUv (stp gUv wi.1).2).1 : Int)) (stp gUv (stp gUv wi.1).2).2.1).2.2) = (dcG wi.1).2.2 := rfl
        rw [hgb]
        obtain ⟨ad9, cp9, rfl, _⟩ := RSv.shape hr5
        refine ln_pv (pv_struct [(0, 1), (1, 1)] (l := [_, _]) rfl Tryd.underlying142 tipub_kmsg_inner_kbin_Reader (by kernel_rfl) rfl rfl) rfl ?_
        refine ln_alloc (l := [.slice none 0 0, .bool false]) tipub_kmsg_inner_kbin_Reader rfl rfl (fun br2 => ?_)
        refine ln_storeW (i := 0) (vs := [_, .bool false]) rfl rfl rfl rfl tipub_kmsg_inner_kbin_Reader.size rfl (by simp) ?_
        refine ln_cd ?_
        refine cd_perm (List.Perm.cons _ pm_in) ?_
        refine cd_sq ?_
        refine rg_callU (fl := tG0) (v0 := 0) (q := false) (st := ((dcG wi.1).1.2, false)) rfl en_128 fx_i64 hr5 rfl (fun u6 ux6 v7 c9 ht6 hx6 hm9 hv7 => ?_)
        refine at_cd ?_
        have hm9 := RMf.mv hx6 hm9
        have hc9 : c9.oneCell' = true := (RMf.len hm9).2 c9 (by simp)
        refine cd_sr ?_
        refine ln_pv (pv_move rfl) rfl ?_
        refine ln_pv (pv_move (v := c9) rfl) rfl ?_
        refine ln_pv (pv_nilCheck rfl) rfl ?_
        refine ln_pv (pv_fieldAddr (off := 8) (r := 8) Tryd.underlying81 rfl tiint64.size rfl rfl rfl) rfl ?_
        refine ln_store1 (i := 1) rfl rfl rfl hc9 tiint64.size rfl ?_
        refine ln_cd ?_
        refine cd_sr ?_
        refine ln_callT (i := 0) (vals := [.pointer (some ⟨br2, 0, none⟩)]) en_113 rfl rfl (fun u hu hok hav => gx_Complete u br2 _ _ (EG.mv hG (((((((((ht0.trans ht1).trans ht11).trans ht12).trans ht13).trans ht14).trans hh15).trans ht20).trans ht21).trans (ht2.trans (hu_.trans (ht3.trans (ht4.trans (ht5.trans (ht6.trans hu)))))))) hok hav) rfl ?_
        rintro u7 r7 _ ht7 ⟨ux7, ⟨hr7, rfl⟩, hx7⟩
        refine ln_pv (pv_assign rfl) rfl ?_
        refine ln_cd ?_
        rcases hr7 with ⟨h7, rfl⟩ | ⟨h7, ety, ex, rfl⟩
        · skip
          refine cd_sr ?_
          refine ln_pv (pv_move rfl) rfl ?_
          refine ln_pv (pv_neqI Tryd.underlying51 rfl) rfl ?_
          refine ln_cd ?_
          refine cd_ff rfl ?_
          refine cd_skip ?_
          refine at_cd ?_
          refine cd_region ?_
          refine ln_pv (pv_move rfl) rfl ?_
          refine ln_pv (pv_sub' (k := .u32) (i := ((cnt - i : Nat) : Int)) (j := 1) rfl rfl (r := ((cnt - (i + 1) : Nat) : Int)) (by rw [wrap_u32_eq]; omega)) rfl ?_
          refine ln_pv (pv_assign rfl) rfl ?_
          refine ln_nil ?_
          refine at_perm (H' := RdX br v6 (dcG wi.1).2.2 :: (mapE mo ml ++ [MsgBox b 81 [.int .i16 v, d0, d1, d2, d3, d4, d5, d6, c9, c1, c2, c3, mapV mo]]) ++ [RdX br2 v7 (dcF tG0 0 false ((dcG wi.1).1.2, false)).2.2]) ?_ ?_
          · exact pm_out
          refine at_rnd' (i + 1, mo, ml, v6, (c9, c1, c2, c3)) (hu_.trans (ht3.trans (ht4.trans (ht5.trans (ht6.trans ht7))))) (fun u8 hu8 => ⟨by dsimp only; omega, ?_, hmo, ?_, ?_⟩) (by dsimp only; omega) (.put rfl (.put rfl (.put rfl (.put rfl (.put rfl (.put rfl .nil)))))) ?_
          · show RK u8 ml (itT (i + 1) w0).2.2
            rw [hws, hdc]
            exact RK.mv ((ht3.trans (ht4.trans (ht5.trans (ht6.trans ht7)))).trans hu8) hRK
          · show RSv u8 v6 (itT (i + 1) w0).1.1
            rw [hws, hdc]
            exact RSv.mv hv6 ((ht6.trans ht7).trans hu8)
          · show AcR u8 (itT (i + 1) w0).2.1 c9 c1 c2 c3
            rw [hws, hdc]
            exact AcR.set0 (hAc.mv ((ht3.trans (ht4.trans (ht5.trans (ht6.trans ht7)))).trans hu8)) (RMf.mv (ht7.trans hu8) hm9)
          · show List.Sublist (RdX br v6 (itT (i + 1) w0).1.2 :: (mapE mo ml ++ [MsgBox b 81 [.int .i16 v, d0, d1, d2, d3, d4, d5, d6, c9, c1, c2, c3, mapV mo]])) _
            rw [hws, hdc]
            simp only [h7, Bool.or_false]
            exact List.sublist_append_left _ _
        · skip
          refine cd_sr ?_
          refine ln_pv (pv_move rfl) rfl ?_
          refine ln_pv (pv_neqT Tryd.underlying51 rfl) rfl ?_
          refine ln_cd ?_
          refine cd_tt rfl ?_
          refine cd_sr ?_
          refine ln_pv (pv_move rfl) rfl ?_
          refine ln_pv (pv_assign rfl) rfl ?_
          refine ln_cd ?_
          refine cd_ret ?_
          exact at_retT (i := 1) rfl rfl rfl (fun w hS => ⟨[d0, d1, d2, d3, d4, d5, d6, c9, c1, c2, c3, mapV mo], rfl, .inl ⟨by
            rw [hWe]
            refine itT_bad (i := i + 1) (by omega) ?_
            rw [hws, hdc]
            simp [h7], _, _, rfl⟩⟩)
      · skip
        refine cd_sr ?_
        refine ln_pv (pv_eql rfl rfl) rfl ?_
        refine ln_pv (pv_assign rfl) rfl ?_
        refine ln_cd ?_
        refine cd_if rfl (fun hk1 => ?_) (fun hk1 => ?_)
        · skip
          have hkk : (dcG wi.1).1.1 = 1 := by omega
          have hdc : dcT wi = (((dcG wi.1).2.1, (dcG wi.1).2.2 || (dcF tG0 0 false ((dcG wi.1).1.2, false)).2.2), wi.2.1.set 1 (dcF tG0 0 false ((dcG wi.1).1.2, false)).1, wi.2.2) := by
            unfold dcT
            rw [if_pos (by omega), hkk]
            rfl
          refine cd_sr ?_
          refine ln_callT (i := 0) (vals := [.pointer (some ⟨br, 0, none⟩)]) en_145 rfl rfl (fun u hu hok hav => gx_Uvarint u br v4 (stp gUv wi.1).2.2 (stp gUv wi.1).2.1 (RSv.mv hv4 hu) hok hav) rfl ?_
          rintro u4 _ _ ht4 ⟨ux4, ⟨rfl, v5, rfl, hv5⟩, hx4⟩
          have hv5 := RSv.mv hv5 hx4
          refine ln_pv (pv_conv' (k := .u32) (i := ((stp gUv (stp gUv wi.1).2).1 : Int)) Tryd.underlying55 Tryd.underlying3 rfl (r := IntKind.i64.wrap ((stp gUv (stp gUv wi.1).2).1 : Int)) rfl) rfl ?_
          refine ln_callT (i := 0) (vals := [.pointer (some ⟨br, 0, none⟩), .int .i64 (IntKind.i64.wrap ((stp gUv (stp gUv wi.1).2).1 : Int))]) en_147 rfl rfl (fun u hu hok hav => gx_Span u (IntKind.i64.wrap ((stp gUv (stp gUv wi.1).2).1 : Int)) br v5 (stp gUv (stp gUv wi.1).2).2.2 (stp gUv (stp gUv wi.1).2).2.1 (RSv.mv hv5 hu) hok hav) rfl ?_
          rintro u5 r5 _ ht5 ⟨ux5, ⟨hr5, v6, rfl, hv6⟩, hx5⟩
          have hv6 : RSv u5 v6 (dcG wi.1).2.1 := RSv.mv hv6 hx5
          have hr5 : RSv u5 r5 (dcG wi.1).1.2 := RSv.mv hr5 hx5
          have hgb : ((stp gUv (stp gUv wi.1).2).2.2 || (gSp (IntKind.i64.wrap ((stp gUv (stp gUv wi.1).2).1 : Int)) (stp gUv (stp gUv wi.1).2).2.1).2.2) = (dcG wi.1).2.2 := rfl
          rw [hgb]
          obtain ⟨ad9, cp9, rfl, _⟩ := RSv.shape hr5
          refine ln_pv (pv_struct [(0, 1), (1, 1)] (l := [_, _]) rfl Tryd.underlying142 tipub_kmsg_inner_kbin_Reader (by kernel_rfl) rfl rfl) rfl ?_
          refine ln_alloc (l := [.slice none 0 0, .bool false]) tipub_kmsg_inner_kbin_Reader rfl rfl (fun br2 => ?_)
          refine ln_storeW (i := 0) (vs := [_, .bool false]) rfl rfl rfl rfl tipub_kmsg_inner_kbin_Reader.size rfl (by simp) ?_
          refine ln_cd ?_
          refine cd_perm (List.Perm.cons _ pm_in) ?_
          refine cd_sq ?_
          refine rg_callU (fl := tG0) (v0 := 0) (q := false) (st := ((dcG wi.1).1.2, false)) rfl en_128 fx_i64 hr5 rfl (fun u6 ux6 v7 c9 ht6 hx6 hm9 hv7 => ?_)
          refine at_cd ?_
          have hm9 := RMf.mv hx6 hm9
          have hc9 : c9.oneCell' = true := (RMf.len hm9).2 c9 (by simp)
          refine cd_sr ?_
          refine ln_pv (pv_move rfl) rfl ?_
          refine ln_pv (pv_move (v := c9) rfl) rfl ?_
          refine ln_pv (pv_nilCheck rfl) rfl ?_
          refine ln_pv (pv_fieldAddr (off := 9) (r := 9) Tryd.underlying81 rfl tiint64.size rfl rfl rfl) rfl ?_
          refine ln_store1 (i := 1) rfl rfl rfl hc9 tiint64.size rfl ?_
          refine ln_cd ?_
          refine cd_sr ?_
          refine ln_callT (i := 0) (vals := [.pointer (some ⟨br2, 0, none⟩)]) en_113 rfl rfl (fun u hu hok hav => gx_Complete u br2 _ _ (EG.mv hG (((((((((ht0.trans ht1).trans ht11).trans ht12).trans ht13).trans ht14).trans hh15).trans ht20).trans ht21).trans (ht2.trans (hu_.trans (ht3.trans (ht4.trans (ht5.trans (ht6.trans hu)))))))) hok hav) rfl ?_
          rintro u7 r7 _ ht7 ⟨ux7, ⟨hr7, rfl⟩, hx7⟩
          refine ln_pv (pv_assign rfl) rfl ?_
          refine ln_cd ?_
          rcases hr7 with ⟨h7, rfl⟩ | ⟨h7, ety, ex, rfl⟩
          · skip
            refine cd_sr ?_
            refine ln_pv (pv_move rfl) rfl ?_
            refine ln_pv (pv_neqI Tryd.underlying51 rfl) rfl ?_
            refine ln_cd ?_
            refine cd_ff rfl ?_
            refine cd_skip ?_
            refine at_cd ?_
            refine cd_region ?_
            refine ln_pv (pv_move rfl) rfl ?_
            refine ln_pv (pv_sub' (k := .u32) (i := ((cnt - i : Nat) : Int)) (j := 1) rfl rfl (r := ((cnt - (i + 1) : Nat) : Int)) (by rw [wrap_u32_eq]; omega)) rfl ?_
            refine ln_pv (pv_assign rfl) rfl ?_
            refine ln_nil ?_
            refine at_perm (H' := RdX br v6 (dcG wi.1).2.2 :: (mapE mo ml ++ [MsgBox b 81 [.int .i16 v, d0, d1, d2, d3, d4, d5, d6, c0, c9, c2, c3, mapV mo]]) ++ [RdX br2 v7 (dcF tG0 0 false ((dcG wi.1).1.2, false)).2.2]) ?_ ?_
            · exact pm_out
            refine at_rnd' (i + 1, mo, ml, v6, (c0, c9, c2, c3)) (hu_.trans (ht3.trans (ht4.trans (ht5.trans (ht6.trans ht7))))) (fun u8 hu8 => ⟨by dsimp only; omega, ?_, hmo, ?_, ?_⟩) (by dsimp only; omega) (.put rfl (.put rfl (.put rfl (.put rfl (.put rfl (.put rfl .nil)))))) ?_
            · show RK u8 ml (itT (i + 1) w0).2.2
              rw [hws, hdc]
              exact RK.mv ((ht3.trans (ht4.trans (ht5.trans (ht6.trans ht7)))).trans hu8) hRK
            · show RSv u8 v6 (itT (i + 1) w0).1.1
              rw [hws, hdc]
              exact RSv.mv hv6 ((ht6.trans ht7).trans hu8)
            · show AcR u8 (itT (i + 1) w0).2.1 c0 c9 c2 c3
              rw [hws, hdc]
              exact AcR.set1 (hAc.mv ((ht3.trans (ht4.trans (ht5.trans (ht6.trans ht7)))).trans hu8)) (RMf.mv (ht7.trans hu8) hm9)
            · show List.Sublist (RdX br v6 (itT (i + 1) w0).1.2 :: (mapE mo ml ++ [MsgBox b 81 [.int .i16 v, d0, d1, d2, d3, d4, d5, d6, c0, c9, c2, c3, mapV mo]])) _
              rw [hws, hdc]
              simp only [h7, Bool.or_false]
              exact List.sublist_append_left _ _
          · skip
            refine cd_sr ?_
            refine ln_pv (pv_move rfl) rfl ?_
            refine ln_pv (pv_neqT Tryd.underlying51 rfl) rfl ?_
            refine ln_cd ?_
            refine cd_tt rfl ?_
            refine cd_sr ?_
            refine ln_pv (pv_move rfl) rfl ?_
            refine ln_pv (pv_assign rfl) rfl ?_
            refine ln_cd ?_
            refine cd_ret ?_
            exact at_retT (i := 1) rfl rfl rfl (fun w hS => ⟨[d0, d1, d2, d3, d4, d5, d6, c0, c9, c2, c3, mapV mo], rfl, .inl ⟨by
              rw [hWe]
              refine itT_bad (i := i + 1) (by omega) ?_
              rw [hws, hdc]
              simp [h7], _, _, rfl⟩⟩)
        · skip
          refine cd_sr ?_
          refine ln_pv (pv_eql rfl rfl) rfl ?_
          refine ln_pv (pv_assign rfl) rfl ?_
          refine ln_cd ?_
          refine cd_if rfl (fun hk2 => ?_) (fun hk2 => ?_)
          · skip
            have hkk : (dcG wi.1).1.1 = 2 := by omega
            have hdc : dcT wi = (((dcG wi.1).2.1, (dcG wi.1).2.2 || (dcF tG2 0 false ((dcG wi.1).1.2, false)).2.2), wi.2.1.set 2 (dcF tG2 0 false ((dcG wi.1).1.2, false)).1, wi.2.2) := by
              unfold dcT
              rw [if_pos (by omega), hkk]
              rfl
            refine cd_sr ?_
            refine ln_callT (i := 0) (vals := [.pointer (some ⟨br, 0, none⟩)]) en_145 rfl rfl (fun u hu hok hav => gx_Uvarint u br v4 (stp gUv wi.1).2.2 (stp gUv wi.1).2.1 (RSv.mv hv4 hu) hok hav) rfl ?_
            rintro u4 _ _ ht4 ⟨ux4, ⟨rfl, v5, rfl, hv5⟩, hx4⟩
            have hv5 := RSv.mv hv5 hx4
            refine ln_pv (pv_conv' (k := .u32) (i := ((stp gUv (stp gUv wi.1).2).1 : Int)) Tryd.underlying55 Tryd.underlying3 rfl (r := IntKind.i64.wrap ((stp gUv (stp gUv wi.1).2).1 : Int)) rfl) rfl ?_
            refine ln_callT (i := 0) (vals := [.pointer (some ⟨br, 0, none⟩), .int .i64 (IntKind.i64.wrap ((stp gUv (stp gUv wi.1).2).1 : Int))]) en_147 rfl rfl (fun u hu hok hav => gx_Span u (IntKind.i64.wrap ((stp gUv (stp gUv wi.1).2).1 : Int)) br v5 (stp gUv (stp gUv wi.1).2).2.2 (stp gUv (stp gUv wi.1).2).2.1 (RSv.mv hv5 hu) hok hav) rfl ?_
            rintro u5 r5 _ ht5 ⟨ux5, ⟨hr5, v6, rfl, hv6⟩, hx5⟩
            have hv6 : RSv u5 v6 (dcG wi.1).2.1 := RSv.mv hv6 hx5
            have hr5 : RSv u5 r5 (dcG wi.1).1.2 := RSv.mv hr5 hx5
            have hgb : ((stp gUv (stp gUv wi.1).2).2.2 || (gSp (IntKind.i64.wrap ((stp gUv (stp gUv wi.1).2).1 : Int)) (stp gUv (stp gUv wi.1).2).2.1).2.2) = (dcG wi.1).2.2 := rfl
            rw [hgb]
            obtain ⟨ad9, cp9, rfl, _⟩ := RSv.shape hr5
            refine ln_pv (pv_struct [(0, 1), (1, 1)] (l := [_, _]) rfl Tryd.underlying142 tipub_kmsg_inner_kbin_Reader (by kernel_rfl) rfl rfl) rfl ?_
            refine ln_alloc (l := [.slice none 0 0, .bool false]) tipub_kmsg_inner_kbin_Reader rfl rfl (fun br2 => ?_)
            refine ln_storeW (i := 0) (vs := [_, .bool false]) rfl rfl rfl rfl tipub_kmsg_inner_kbin_Reader.size rfl (by simp) ?_
            refine ln_cd ?_
            refine cd_perm (List.Perm.cons _ pm_in) ?_
            refine cd_sq ?_
            refine rg_callU (fl := tG2) (v0 := 0) (q := false) (st := ((dcG wi.1).1.2, false)) rfl en_125 fx_i16 hr5 rfl (fun u6 ux6 v7 c9 ht6 hx6 hm9 hv7 => ?_)
            refine at_cd ?_
            have hm9 := RMf.mv hx6 hm9
            have hc9 : c9.oneCell' = true := (RMf.len hm9).2 c9 (by simp)
            refine cd_sr ?_
            refine ln_pv (pv_move rfl) rfl ?_
            refine ln_pv (pv_move (v := c9) rfl) rfl ?_
            refine ln_pv (pv_nilCheck rfl) rfl ?_
            refine ln_pv (pv_fieldAddr (off := 10) (r := 10) Tryd.underlying81 rfl tiint16.size rfl rfl rfl) rfl ?_
            refine ln_store1 (i := 1) rfl rfl rfl hc9 tiint16.size rfl ?_
            refine ln_cd ?_
            refine cd_sr ?_
            refine ln_callT (i := 0) (vals := [.pointer (some ⟨br2, 0, none⟩)]) en_113 rfl rfl (fun u hu hok hav => gx_Complete u br2 _ _ (EG.mv hG (((((((((ht0.trans ht1).trans ht11).trans ht12).trans ht13).trans ht14).trans hh15).trans ht20).trans ht21).trans (ht2.trans (hu_.trans (ht3.trans (ht4.trans (ht5.trans (ht6.trans hu)))))))) hok hav) rfl ?_
            rintro u7 r7 _ ht7 ⟨ux7, ⟨hr7, rfl⟩, hx7⟩
            refine ln_pv (pv_assign rfl) rfl ?_
            refine ln_cd ?_
            rcases hr7 with ⟨h7, rfl⟩ | ⟨h7, ety, ex, rfl⟩
            · skip
              refine cd_sr ?_
              refine ln_pv (pv_move rfl) rfl ?_
              refine ln_pv (pv_neqI Tryd.underlying51 rfl) rfl ?_
              refine ln_cd ?_
              refine cd_ff rfl ?_
              refine cd_skip ?_
              refine at_cd ?_
              refine cd_region ?_
              refine ln_pv (pv_move rfl) rfl ?_
              refine ln_pv (pv_sub' (k := .u32) (i := ((cnt - i : Nat) : Int)) (j := 1) rfl rfl (r := ((cnt - (i + 1) : Nat) : Int)) (by rw [wrap_u32_eq]; omega)) rfl ?_
              refine ln_pv (pv_assign rfl) rfl ?_
              refine ln_nil ?_
              refine at_perm (H' := RdX br v6 (dcG wi.1).2.2 :: (mapE mo ml ++ [MsgBox b 81 [.int .i16 v, d0, d1, d2, d3, d4, d5, d6, c0, c1, c9, c3, mapV mo]]) ++ [RdX br2 v7 (dcF tG2 0 false ((dcG wi.1).1.2, false)).2.2]) ?_ ?_
              · exact pm_out
              refine at_rnd' (i + 1, mo, ml, v6, (c0, c1, c9, c3)) (hu_.trans (ht3.trans (ht4.trans (ht5.trans (ht6.trans ht7))))) (fun u8 hu8 => ⟨by dsimp only; omega, ?_, hmo, ?_, ?_⟩) (by dsimp only; omega) (.put rfl (.put rfl (.put rfl (.put rfl (.put rfl (.put rfl .nil)))))) ?_
              · show RK u8 ml (itT (i + 1) w0).2.2
                rw [hws, hdc]
                exact RK.mv ((ht3.trans (ht4.trans (ht5.trans (ht6.trans ht7)))).trans hu8) hRK
              · show RSv u8 v6 (itT (i + 1) w0).1.1
                rw [hws, hdc]
                exact RSv.mv hv6 ((ht6.trans ht7).trans hu8)
              · show AcR u8 (itT (i + 1) w0).2.1 c0 c1 c9 c3
                rw [hws, hdc]
                exact AcR.set2 (hAc.mv ((ht3.trans (ht4.trans (ht5.trans (ht6.trans ht7)))).trans hu8)) (RMf.mv (ht7.trans hu8) hm9)
              · show List.Sublist (RdX br v6 (itT (i + 1) w0).1.2 :: (mapE mo ml ++ [MsgBox b 81 [.int .i16 v, d0, d1, d2, d3, d4, d5, d6, c0, c1, c9, c3, mapV mo]])) _
                rw [hws, hdc]
                simp only [h7, Bool.or_false]
                exact List.sublist_append_left _ _
            · skip
              refine cd_sr ?_
              refine ln_pv (pv_move rfl) rfl ?_
              refine ln_pv (pv_neqT Tryd.underlying51 rfl) rfl ?_
              refine ln_cd ?_
              refine cd_tt rfl ?_
              refine cd_sr ?_
              refine ln_pv (pv_move rfl) rfl ?_
              refine ln_pv (pv_assign rfl) rfl ?_
              refine ln_cd ?_
              refine cd_ret ?_
              exact at_retT (i := 1) rfl rfl rfl (fun w hS => ⟨[d0, d1, d2, d3, d4, d5, d6, c0, c1, c9, c3, mapV mo], rfl, .inl ⟨by
                rw [hWe]
                refine itT_bad (i := i + 1) (by omega) ?_
                rw [hws, hdc]
                simp [h7], _, _, rfl⟩⟩)
          · skip
            refine cd_sr ?_
            refine ln_pv (pv_eql rfl rfl) rfl ?_
            refine ln_pv (pv_assign rfl) rfl ?_
            refine ln_cd ?_
            refine cd_if rfl (fun hk3 => ?_) (fun hk3 => ?_)
            · skip
              have hkk : (dcG wi.1).1.1 = 3 := by omega
              have hdc : dcT wi = (((dcG wi.1).2.1, (dcG wi.1).2.2 || (dcF tG2 0 false ((dcG wi.1).1.2, false)).2.2), wi.2.1.set 3 (dcF tG2 0 false ((dcG wi.1).1.2, false)).1, wi.2.2) := by
                unfold dcT
                rw [if_pos (by omega), hkk]
                rfl
              refine cd_sr ?_
              refine ln_callT (i := 0) (vals := [.pointer (some ⟨br, 0, none⟩)]) en_145 rfl rfl (fun u hu hok hav => gx_Uvarint u br v4 (stp gUv wi.1).2.2 (stp gUv wi.1).2.1 (RSv.mv hv4 hu) hok hav) rfl ?_
              rintro u4 _ _ ht4 ⟨ux4, ⟨rfl, v5, rfl, hv5⟩, hx4⟩
              have hv5 := RSv.mv hv5 hx4
              refine ln_pv (pv_conv' (k := .u32) (i := ((stp gUv (stp gUv wi.1).2).1 : Int)) Tryd.underlying55 Tryd.underlying3 rfl (r := IntKind.i64.wrap ((stp gUv (stp gUv wi.1).2).1 : Int)) rfl) rfl ?_
              refine ln_callT (i := 0) (vals := [.pointer (some ⟨br, 0, none⟩), .int .i64 (IntKind.i64.wrap ((stp gUv (stp gUv wi.1).2).1 : Int))]) en_147 rfl rfl (fun u hu hok hav => gx_Span u (IntKind.i64.wrap ((stp gUv (stp gUv wi.1).2).1 : Int)) br v5 (stp gUv (stp gUv wi.1).2).2.2 (stp gUv (stp gUv wi.1).2).2.1 (RSv.mv hv5 hu) hok hav) rfl ?_
              rintro u5 r5 _ ht5 ⟨ux5, ⟨hr5, v6, rfl, hv6⟩, hx5⟩
              have hv6 : RSv u5 v6 (dcG wi.1).2.1 := RSv.mv hv6 hx5
              have hr5 : RSv u5 r5 (dcG wi.1).1.2 := RSv.mv hr5 hx5
              have hgb : ((stp gUv (stp gUv wi.1).2).2.2 || (gSp (IntKind.i64.wrap ((stp gUv (stp gUv wi.1).2).1 : Int)) (stp gUv (stp gUv wi.1).2).2.1).2.2) = (dcG wi.1).2.2 := rfl
              rw [hgb]
              obtain ⟨ad9, cp9, rfl, _⟩ := RSv.shape hr5
              refine ln_pv (pv_struct [(0, 1), (1, 1)] (l := [_, _]) rfl Tryd.underlying142 tipub_kmsg_inner_kbin_Reader (by kernel_rfl) rfl rfl) rfl ?_
              refine ln_alloc (l := [.slice none 0 0, .bool false]) tipub_kmsg_inner_kbin_Reader rfl rfl (fun br2 => ?_)
              refine ln_storeW (i := 0) (vs := [_, .bool false]) rfl rfl rfl rfl tipub_kmsg_inner_kbin_Reader.size rfl (by simp) ?_
              refine ln_cd ?_
              refine cd_perm (List.Perm.cons _ pm_in) ?_
              refine cd_sq ?_
              refine rg_callU (fl := tG2) (v0 := 0) (q := false) (st := ((dcG wi.1).1.2, false)) rfl en_125 fx_i16 hr5 rfl (fun u6 ux6 v7 c9 ht6 hx6 hm9 hv7 => ?_)
              refine at_cd ?_
              have hm9 := RMf.mv hx6 hm9
              have hc9 : c9.oneCell' = true := (RMf.len hm9).2 c9 (by simp)
              refine cd_sr ?_
              refine ln_pv (pv_move rfl) rfl ?_
              refine ln_pv (pv_move (v := c9) rfl) rfl ?_
              refine ln_pv (pv_nilCheck rfl) rfl ?_
              refine ln_pv (pv_fieldAddr (off := 11) (r := 11) Tryd.underlying81 rfl tiint16.size rfl rfl rfl) rfl ?_
              refine ln_store1 (i := 1) rfl rfl rfl hc9 tiint16.size rfl ?_
              refine ln_cd ?_
              refine cd_sr ?_
              refine ln_callT (i := 0) (vals := [.pointer (some ⟨br2, 0, none⟩)]) en_113 rfl rfl (fun u hu hok hav => gx_Complete u br2 _ _ (EG.mv hG (((((((((ht0.trans ht1).trans ht11).trans ht12).trans ht13).trans ht14).trans hh15).trans ht20).trans ht21).trans (ht2.trans (hu_.trans (ht3.trans (ht4.trans (ht5.trans (ht6.trans hu)))))))) hok hav) rfl ?_
              rintro u7 r7 _ ht7 ⟨ux7, ⟨hr7, rfl⟩, hx7⟩
              refine ln_pv (pv_assign rfl) rfl ?_
              refine ln_cd ?_
              rcases hr7 with ⟨h7, rfl⟩ | ⟨h7, ety, ex, rfl⟩
              · skip
                refine cd_sr ?_
                refine ln_pv (pv_move rfl) rfl ?_
                refine ln_pv (pv_neqI Tryd.underlying51 rfl) rfl ?_
                refine ln_cd ?_
                refine cd_ff rfl ?_
                refine cd_skip ?_
                refine at_cd ?_
                refine cd_region ?_
                refine ln_pv (pv_move rfl) rfl ?_
                refine ln_pv (pv_sub' (k := .u32) (i := ((cnt - i : Nat) : Int)) (j := 1) rfl rfl (r := ((cnt - (i + 1) : Nat) : Int)) (by rw [wrap_u32_eq]; omega)) rfl ?_
                refine ln_pv (pv_assign rfl) rfl ?_
                refine ln_nil ?_
                refine at_perm (H' := RdX br v6 (dcG wi.1).2.2 :: (mapE mo ml ++ [MsgBox b 81 [.int .i16 v, d0, d1, d2, d3, d4, d5, d6, c0, c1, c2, c9, mapV mo]]) ++ [RdX br2 v7 (dcF tG2 0 false ((dcG wi.1).1.2, false)).2.2]) ?_ ?_
                · exact pm_out
                refine at_rnd' (i + 1, mo, ml, v6, (c0, c1, c2, c9)) (hu_.trans (ht3.trans (ht4.trans (ht5.trans (ht6.trans ht7))))) (fun u8 hu8 => ⟨by dsimp only; omega, ?_, hmo, ?_, ?_⟩) (by dsimp only; omega) (.put rfl (.put rfl (.put rfl (.put rfl (.put rfl (.put rfl .nil)))))) ?_
                · show RK u8 ml (itT (i + 1) w0).2.2
                  rw [hws, hdc]
                  exact RK.mv ((ht3.trans (ht4.trans (ht5.trans (ht6.trans ht7)))).trans hu8) hRK
                · show RSv u8 v6 (itT (i + 1) w0).1.1
                  rw [hws, hdc]
                  exact RSv.mv hv6 ((ht6.trans ht7).trans hu8)
                · show AcR u8 (itT (i + 1) w0).2.1 c0 c1 c2 c9
                  rw [hws, hdc]
                  exact AcR.set3 (hAc.mv ((ht3.trans (ht4.trans (ht5.trans (ht6.trans ht7)))).trans hu8)) (RMf.mv (ht7.trans hu8) hm9)
                · show List.Sublist (RdX br v6 (itT (i + 1) w0).1.2 :: (mapE mo ml ++ [MsgBox b 81 [.int .i16 v, d0, d1, d2, d3, d4, d5, d6, c0, c1, c2, c9, mapV mo]])) _
                  rw [hws, hdc]
                  simp only [h7, Bool.or_false]
                  exact List.sublist_append_left _ _
              · skip
                refine cd_sr ?_
                refine ln_pv (pv_move rfl) rfl ?_
                refine ln_pv (pv_neqT Tryd.underlying51 rfl) rfl ?_
                refine ln_cd ?_
                refine cd_tt rfl ?_
                refine cd_sr ?_
                refine ln_pv (pv_move rfl) rfl ?_
                refine ln_pv (pv_assign rfl) rfl ?_
                refine ln_cd ?_
                refine cd_ret ?_
                exact at_retT (i := 1) rfl rfl rfl (fun w hS => ⟨[d0, d1, d2, d3, d4, d5, d6, c0, c1, c2, c9, mapV mo], rfl, .inl ⟨by
                  rw [hWe]
                  refine itT_bad (i := i + 1) (by omega) ?_
                  rw [hws, hdc]
                  simp [h7], _, _, rfl⟩⟩)
            · skip
              have hkk : ¬ (dcG wi.1).1.1 < 4 := by omega
              have hdc : dcT wi = ((dcG wi.1).2, wi.2.1, setU (dcG wi.1).1.1 (dcG wi.1).1.2 wi.2.2) := by
                unfold dcT
                rw [if_neg hkk]
              refine cd_draw' [] [0, 1, 2, 3] [0, 1, 2, 3, 4, 5, 6, 7] mixed (by kernel_rfl) ?_
              refine lo_pv rfl rfl (sk_js (Tr.refl _) [] rfl) (pv_move rfl) rfl ?_
              refine lo_pv rfl rfl (sk_js (Tr.refl _) [] rfl) (pv_nilCheck rfl) rfl ?_
              refine lo_pv rfl rfl (sk_js (Tr.refl _) [] rfl) (pv_fieldAddr (off := 12) (r := 12) Tryd.underlying81 rfl tipub_kmsg_Tags.size rfl rfl rfl) rfl ?_
              refine lo_pv rfl rfl (sk_js (Tr.refl _) [] rfl) (pv_move rfl) rfl ?_
              refine lo_eff rfl rfl ?_
              refine ln_callT (i := 0) (vals := [.pointer (some ⟨br, 0, none⟩)]) en_145 rfl rfl (fun u hu hok hav => gx_Uvarint u br v4 (stp gUv wi.1).2.2 (stp gUv wi.1).2.1 (RSv.mv hv4 hu) hok hav) rfl ?_
              rintro u4 _ _ ht4 ⟨ux4, ⟨rfl, v5, rfl, hv5⟩, hx4⟩
              have hv5 := RSv.mv hv5 hx4
              refine lo_back (sk_js ht4 [] rfl) ?_
              refine lo_eff rfl rfl ?_
              refine ln_pv (pv_conv' (k := .u32) (i := ((stp gUv (stp gUv wi.1).2).1 : Int)) Tryd.underlying55 Tryd.underlying3 rfl (r := IntKind.i64.wrap ((stp gUv (stp gUv wi.1).2).1 : Int)) rfl) rfl ?_
              refine lo_back (sk_js ht4 [] rfl) ?_
              refine lo_eff rfl rfl ?_
              refine ln_callT (i := 0) (vals := [.pointer (some ⟨br, 0, none⟩), .int .i64 (IntKind.i64.wrap ((stp gUv (stp gUv wi.1).2).1 : Int))]) en_147 rfl rfl (fun u hu hok hav => gx_Span u (IntKind.i64.wrap ((stp gUv (stp gUv wi.1).2).1 : Int)) br v5 (stp gUv (stp gUv wi.1).2).2.2 (stp gUv (stp gUv wi.1).2).2.1 (RSv.mv hv5 hu) hok hav) rfl ?_
              rintro u5 r5 _ ht5 ⟨ux5, ⟨hr5, v6, rfl, hv6⟩, hx5⟩
              have hv6 : RSv u5 v6 (dcG wi.1).2.1 := RSv.mv hv6 hx5
              have hr5 : RSv u5 r5 (dcG wi.1).1.2 := RSv.mv hr5 hx5
              have hgb : ((stp gUv (stp gUv wi.1).2).2.2 || (gSp (IntKind.i64.wrap ((stp gUv (stp gUv wi.1).2).1 : Int)) (stp gUv (stp gUv wi.1).2).2.1).2.2) = (dcG wi.1).2.2 := rfl
              rw [hgb]
              refine lo_back (sk_js (ht4.trans ht5) [] rfl) ?_
              refine lo_eff rfl rfl ?_
              have hs12 : ∀ z : Value, ([.int .i16 v, d0, d1, d2, d3, d4, d5, d6, c0, c1, c2, c3, .map none] : List Value).set 12 z = [.int .i16 v, d0, d1, d2, d3, d4, d5, d6, c0, c1, c2, c3, z] := fun z => rfl
              refine ln_callH (E := mapE mo ml ++ [MsgBox b 81 [.int .i16 v, d0, d1, d2, d3, d4, d5, d6, c0, c1, c2, c3, mapV mo]]) (H0 := [RdX br v6 (dcG wi.1).2.2]) (vals := [.pointer (some ⟨b, 12, none⟩), .int .u32 ((dcG wi.1).1.1 : Int), r5]) (show List.Perm (RdX br v6 (dcG wi.1).2.2 :: (mapE mo ml ++ MsgBox b 81 [.int .i16 v, d0, d1, d2, d3, d4, d5, d6, c0, c1, c2, c3, mapV mo] :: [])) (_ ++ _) from set_perm) en_146 rfl (fun u hu hok hav hnd => by
                have h := tags_SetA u b 12 (dcG wi.1).1.1 [.int .i16 v, d0, d1, d2, d3, d4, d5, d6, c0, c1, c2, c3, .map none] 81 r5 mo ml (Nat.le_of_ble_eq_true rfl) hmo (by rw [RK.keys hRK]; exact hWi.2.2.1) (by rw [hs12]; exact hok) (by rw [hs12]; exact hav) (by rw [hs12]; exact hnd)
                simp only [hs12] at h
                exact h) rfl ?_
              rintro u6 r6 _ ht6 ⟨_, ⟨m, rfl⟩, _⟩
              refine lo_back (sk_js (ht4.trans (ht5.trans ht6)) [] rfl) ?_
              refine lo_nil ?_
              refine at_cd ?_
              refine cd_region ?_
              refine ln_pv (pv_move rfl) rfl ?_
              refine ln_pv (pv_sub' (k := .u32) (i := ((cnt - i : Nat) : Int)) (j := 1) rfl rfl (r := ((cnt - (i + 1) : Nat) : Int)) (by rw [wrap_u32_eq]; omega)) rfl ?_
              refine ln_pv (pv_assign rfl) rfl ?_
              refine ln_nil ?_
              refine at_perm (H' := RdX br v6 (dcG wi.1).2.2 :: (mapE (some m) (setM (dcG wi.1).1.1 r5 ml) ++ MsgBox b 81 [.int .i16 v, d0, d1, d2, d3, d4, d5, d6, c0, c1, c2, c3, mapV (some m)] :: [])) ?_ ?_
              · exact set_perm.symm
              refine at_rnd' (i + 1, some m, setM (dcG wi.1).1.1 r5 ml, v6, (c0, c1, c2, c3)) (hu_.trans (ht3.trans (ht4.trans (ht5.trans ht6)))) (fun u8 hu8 => ⟨by dsimp only; omega, ?_, (fun h => by cases h), ?_, ?_⟩) (by dsimp only; omega) (.put rfl (.put rfl (.put rfl (.put rfl (.put rfl (.put rfl .nil)))))) ?_
              · show RK u8 _ (itT (i + 1) w0).2.2
                rw [hws, hdc]
                exact RK.set (RSv.mv hr5 (ht6.trans hu8)) (RK.mv ((ht3.trans (ht4.trans (ht5.trans ht6))).trans hu8) hRK)
              · show RSv u8 v6 (itT (i + 1) w0).1.1
                rw [hws, hdc]
                exact RSv.mv hv6 (ht6.trans hu8)
              · show AcR u8 (itT (i + 1) w0).2.1 c0 c1 c2 c3
                rw [hws, hdc]
                exact hAc.mv ((ht3.trans (ht4.trans (ht5.trans ht6))).trans hu8)
              · show List.Sublist (RdX br v6 (itT (i + 1) w0).1.2 :: _) _
                rw [hws, hdc]
                exact List.Sublist.refl _
    · skip
      have hu_ := hu
      have him : i = cnt := by omega
      subst him
      rw [← hWe] at hRK hv3 hAc ⊢
      refine cd_exit rfl ?_
      refine at_cd ?_
      cases mo with
      | none =>
        obtain rfl := hmo rfl
        have hac0 : RMl u tPl Y 0 [d0, d1, d2, d3, d4, d5, d6] := RMl.mv (ht2.trans hu) hac0
        refine cd_sr ?_
        refine ln_callT (i := 0) (vals := [.pointer (some ⟨br, 0, none⟩)]) en_113 rfl rfl (fun u hu hok hav => gx_Complete u br _ _ (EG.mv hG ((((((((((ht0.trans ht1).trans ht11).trans ht12).trans ht13).trans ht14).trans hh15).trans ht20).trans ht21).trans (ht2.trans hu_)).trans hu)) hok hav) rfl ?_
        rintro u9 r9 _ ht9 ⟨ux9, ⟨hr9, rfl⟩, hx9⟩
        refine ln_pv (pv_assign rfl) rfl ?_
        refine ln_cd ?_
        refine cd_ret ?_
        refine at_retT (i := 1) rfl rfl rfl (fun w hS => ⟨[d0, d1, d2, d3, d4, d5, d6, c0, c1, c2, c3, .map none], rfl, ?_⟩)
        have hfw := ht9.trans (hS.trFinT (MsgBox b 81 [.int .i16 v, d0, d1, d2, d3, d4, d5, d6, c0, c1, c2, c3, .map none]) (List.mem_of_getElem? (i := 1) rfl))
        rcases hr9 with ⟨h9, rfl⟩ | ⟨h9, h8⟩
        · refine .inr ⟨h9, rfl, ?_⟩
          have hac9 := RMl.mv hfw hac0
          rw [hY] at hac9 ⊢
          rw [hW] at hAc hRK
          exact tY_rel (mv := .map none) hac9 (hAc.mv hfw) (.inl ⟨rfl, rfl⟩) (RK.mv hfw hRK)
        · exact .inl ⟨h9, h8⟩
      | some m =>
        have hac0 : RMl u tPl Y 0 [d0, d1, d2, d3, d4, d5, d6] := RMl.mv (ht2.trans hu) hac0
        refine cd_sr ?_
        refine ln_callT (i := 0) (vals := [.pointer (some ⟨br, 0, none⟩)]) en_113 rfl rfl (fun u hu hok hav => gx_Complete u br _ _ (EG.mv hG ((((((((((ht0.trans ht1).trans ht11).trans ht12).trans ht13).trans ht14).trans hh15).trans ht20).trans ht21).trans (ht2.trans hu_)).trans hu)) hok hav) rfl ?_
        rintro u9 r9 _ ht9 ⟨ux9, ⟨hr9, rfl⟩, hx9⟩
        refine ln_pv (pv_assign rfl) rfl ?_
        refine ln_cd ?_
        refine cd_ret ?_
        refine at_retT (i := 2) rfl rfl rfl (fun w hS => ⟨[d0, d1, d2, d3, d4, d5, d6, c0, c1, c2, c3, .map (some m)], rfl, ?_⟩)
        have hfw := ht9.trans (hS.trFinT (MsgBox b 81 [.int .i16 v, d0, d1, d2, d3, d4, d5, d6, c0, c1, c2, c3, .map (some m)]) (List.mem_of_getElem? (i := 2) rfl))
        rcases hr9 with ⟨h9, rfl⟩ | ⟨h9, h8⟩
        · refine .inr ⟨h9, rfl, ?_⟩
          have hac9 := RMl.mv hfw hac0
          rw [hY] at hac9 ⊢
          rw [hW] at hAc hRK
          exact tY_rel (mv := .map (some m)) hac9 (hAc.mv hfw) (.inr ⟨m, rfl, obT hS (by simp [Ent.blk]) (i := 2) (j := 1) rfl rfl (by decide)⟩) (RK.mv hfw hRK)
        · exact .inl ⟨h9, h8⟩
  · skip
    have hWe : W = (E, tDf, []) := by rw [hW, tE, ← hq, hqf, ← hE]; rfl
    refine cd_skip ?_
    refine at_base (fun u hu_ => ?_)
    refine at_cd ?_
    have hac0 : RMl u tPl Y 0 [d0, d1, d2, d3, d4, d5, d6] := RMl.mv hu_ hac0
    have hAc : AcR u W.2.1 (.int .i64 (-1)) (.int .i64 (-1)) (.int .i16 0) (.int .i16 (-1)) := by rw [hWe]; exact AcR.df u
    have hRK : RK u [] W.2.2 := by rw [hWe]; rfl
    rw [show E.2 = W.1.2 by rw [hWe]]
    refine cd_sr ?_
    refine ln_callT (i := 0) (vals := [.pointer (some ⟨br, 0, none⟩)]) en_113 rfl rfl (fun u hu hok hav => gx_Complete u br _ _ (EG.mv hG ((((((((((ht0.trans ht1).trans ht11).trans ht12).trans ht13).trans ht14).trans hh15).trans ht20).trans ht21).trans hu_).trans hu)) hok hav) rfl ?_
    rintro u9 r9 _ ht9 ⟨ux9, ⟨hr9, rfl⟩, hx9⟩
    refine ln_pv (pv_assign rfl) rfl ?_
    refine ln_cd ?_
    refine cd_ret ?_
    refine at_retT (i := 1) rfl rfl rfl (fun w hS => ⟨[d0, d1, d2, d3, d4, d5, d6, .int .i64 (-1), .int .i64 (-1), .int .i16 0, .int .i16 (-1), .map none], rfl, ?_⟩)
    have hfw := ht9.trans (hS.trFinT (MsgBox b 81 [.int .i16 v, d0, d1, d2, d3, d4, d5, d6, .int .i64 (-1), .int .i64 (-1), .int .i16 0, .int .i16 (-1), .map none]) (List.mem_of_getElem? (i := 1) rfl))
    rcases hr9 with ⟨h9, rfl⟩ | ⟨h9, h8⟩
    · refine .inr ⟨h9, rfl, ?_⟩
      have hac9 := RMl.mv hfw hac0
      rw [hY] at hac9 ⊢
      rw [hW] at hAc hRK
      exact tY_rel (mv := .map none) hac9 (hAc.mv hfw) (.inl ⟨rfl, rfl⟩) (RK.mv hfw hRK)
    · exact .inl ⟨h9, h8⟩
end K
end Go.Proofs.YtjjfpdofkdolnaaDoor
