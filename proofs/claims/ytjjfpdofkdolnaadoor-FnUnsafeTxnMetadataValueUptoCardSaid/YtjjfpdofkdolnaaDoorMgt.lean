import Derived.Test.YtjjfpdofkdolnaaDoorTx
set_option linter.unusedVariables false
set_option linter.unusedSimpArgs false
namespace Go.Proofs.YtjjfpdofkdolnaaDoor
namespace K
open Go Go.Lib
theorem tclo_TxnMetadataValueTopic (b3 : Nat) (c0 c1 c2 c3 : Value) (us : Tags) (hk : ∀ y ∈ us, y.1 < 4294967296) (hl : ∀ y ∈ us, y.2.length ≤ 4398046511104) (hlen : us.length ≤ 1099511627776) : ∀ j (hj : j < us.length) (u : Vw) (z : Value × List Value × Nat) (tv : Value), Iv (TInv us) j u z → RSv u tv (us[j]'hj).2 → HF [TA b3 c0 c1 c2 c3 z, TB z] u.w → (∀ q ∈ blks [TA b3 c0 c1 c2 c3 z, TB z], u.av q) → (blks [TA b3 c0 c1 c2 c3 z, TB z]).Nodup → CH Tryd.prog 148 [.int .u32 ((us[j]'hj).1 : Int), tv, .pointer (some ⟨b3, 0, none⟩)] u [TA b3 c0 c1 c2 c3 z, TB z] fun u r E' => ∃ z', E' = [TA b3 c0 c1 c2 c3 z', TB z'] ∧ Iv (TInv us) (j + 1) u z' := by
  rintro j hj u ⟨vU, cs, k⟩ tv hz htv hok hav hnd
  obtain ⟨hk0, hR⟩ := hz.get
  dsimp only at hk0 hR
  subst hk0
  have hbl := hl _ (List.getElem_mem hj)
  obtain ⟨adV, cV, rfl, hleV⟩ := htv.shape
  refine ch_enter Tryd.func148 rfl Tryd.ntmps148 rfl hok hav hnd ?_
  refine cd_draw' [0] [0, 1, 2, 3, 5, 8] [0, 1, 2, 3, 4, 5, 6, 7, 8, 9] mixed (by kernel_rfl) ?_
  refine lo_pv rfl rfl (sk_js (Tr.refl _) [0] rfl) (pv_fieldAddr (off := 4) (r := 4) Tryd.underlying27 rfl (tiSl_impl_Tag).size rfl rfl rfl) rfl ?_
  refine lo_pv rfl rfl (sk_js (Tr.refl _) [0] rfl) (pv_ldo (i := 0) rfl Tryd.underlying25 rfl rfl rfl) rfl ?_
  refine lo_pv rfl rfl (sk_js (Tr.refl _) [0] rfl) (pv_move rfl) rfl ?_
  refine lo_pv rfl rfl (sk_js (Tr.refl _) [0] rfl) (pv_move rfl) rfl ?_
  refine lo_eff rfl rfl ?_
  refine ln_nilrow 5 1 ?_
  refine ln_append (i := 0) rfl Tryd.underlying22 tiuint8 rfl (by decide) rfl rfl (RS.src htv) (by simp only [maxLen]; omega) (by omega) rfl (k' := (us[k]'hj).2.length) (xs' := u8s (us[k]'hj).2) (by omega) (by simp) (fun vc hvc => ?_)
  refine ln_free1 (fun q h => by simpa using h) (fun s1 ht1 hK1 => ?_)
  have hcp : RSv s1 vc (us[k]'hj).2 := Known.rs hK1 (u8s_one _)
  clear hK1
  have htv := htv.mv ht1
  have hR := RUs.mv ht1 hR
  refine lo_back (sk_js ht1 [0] rfl) ?_
  refine lo_pv rfl rfl (sk_js ht1 [0] rfl) (pv_struct [(0, 1), (1, 1)] (l := [_, _]) rfl Tryd.underlying58 tiimpl_Tag (by kernel_rfl) rfl (by simp [okL, Nat.ble_eq, Value.cells, hvc.2])) rfl ?_
  refine lo_eff rfl rfl ?_
  refine ln_lit (vs := [_]) Tryd.underlying25 tiimpl_Tag rfl (by decide) rfl rfl rfl rfl rfl rfl (fun b1 => ?_)
  refine lo_back (sk_js ht1 [1] rfl) ?_
  refine lo_eff rfl rfl ?_
  refine ln_append (i := 2) rfl Tryd.underlying25 tiimpl_Tag rfl (by decide) rfl rfl (src_obj (j := 0) rfl rfl (by simp [flat, Value.cells, hvc.2])) (by first | omega | (simp only [maxLen]; omega)) (by first | omega | (simp only [maxLen]; omega)) rfl (k' := (k + 1)) (xs' := cs ++ [.int .u32 ((us[k]'hj).1 : Int), vc]) rfl (by simp [flat, Value.cells]) (fun v1 hv1 => ?_)
  refine lo_back (sk_js ht1 [1] rfl) ?_
  refine lo_pv rfl rfl (sk_js ht1 [1] rfl) (pv_fieldAddr (off := 4) (r := 4) Tryd.underlying27 rfl (tiSl_impl_Tag).size rfl rfl rfl) rfl ?_
  refine lo_eff rfl rfl ?_
  refine ln_store1 (i := 1) rfl rfl rfl hv1.2 (tiSl_impl_Tag).size rfl ?_
  refine lo_last (by kernel_rfl) ?_
  refine lo_nil ?_
  refine at_retH0 [TA b3 c0 c1 c2 c3 (v1, cs ++ [.int .u32 ((us[k]'hj).1 : Int), vc], k + 1), TB (v1, cs ++ [.int .u32 ((us[k]'hj).1 : Int), vc], k + 1)] (.cons _ (.cons_cons _ (.cons_cons _ .slnil))) rfl (fun w hS => ⟨(v1, cs ++ [.int .u32 ((us[k]'hj).1 : Int), vc], k + 1), rfl, fun w2 hw2 => ⟨rfl, ?_⟩⟩)
  rw [take_snoc' hj]
  have hq := (hS.trFinH _ _).trans hw2
  exact RUs.append (RUs.mv hq hR) (RUs.one_ (hk _ (List.getElem_mem hj)) (RSv.mv hcp hq))
theorem tlT_TxnMetadataValueTopic (y : Tre) : tlT tSub y = .mk 0 [] false [.mk 0 (y.at_ 0).s false [] [], .mk 0 [] (y.at_ 1).z ((els (y.at_ 1)).map (tlS 3 (-1))) []] y.u := rfl
set_option maxHeartbeats 2000000 in
theorem tell_TxnMetadataValueTopic (t : Vw) (b o : Nat) (y : Tre) (cells : List Value) (hrc : RC t b o cells) (hM : RMp t tSub y cells) (htg : tgT tSub y) : CA Tryd.prog 107 [.pointer (some ⟨b, o, none⟩)] t fun u r => ∃ ds, r = .agg ds.toArray ∧ RT u (tlT tSub y) ds := by
  rw [tlT_TxnMetadataValueTopic]
  obtain ⟨⟨hsrt, hkeys, hlens, hlen⟩, htl⟩ := htg
  simp only [tSub, tgL] at htl
  obtain ⟨qg0, qg1, _⟩ := htl
  obtain ⟨fc1, mv1, hce1, hfl1, hTg1⟩ := hM
  simp only [tSub, RMl] at hfl1
  obtain ⟨x1_0, z1_0, e1_0, g1_0, x1_1, z1_1, e1_1, g1_1, hend1⟩ := hfl1
  obtain rfl := (RMf_str (by decide)).1 g1_0
  obtain ⟨_, rfl, Gg1_1⟩ := RMf_list.1 g1_1
  obtain ⟨ad1_1, cap1_1, rfl, hnil1_1, Hg1_1⟩ := Gg1_1.els
  subst hend1
  subst e1_1
  subst e1_0
  rw [hce1] at hrc
  simp only [List.cons_append, List.nil_append, List.append_assoc] at hrc
  have hLs_1 := LsF.of Hg1_1
  have hll_1 : (els (y.at_ 1)).length ≤ 32767 := (tgF_list.1 qg1).1
  obtain ⟨lt, hMK, hRK⟩ := hTg1
  have hrt : RC1 t b (o + 2) mv1 := hrc.sub 2 (c1 := [_, _]) (c2 := [mv1]) (c3 := []) rfl rfl
  have hrc : RCx t b o _ _ := hrc
  refine ca_enter Tryd.func107 rfl Tryd.ntmps107 rfl ?_
  refine cd_sr ?_
  refine ln_alloc tiimpl_Tree rfl rfl (fun b1 => ?_)
  refine ln_cd ?_
  refine cd_sr ?_
  refine ln_makeN (m := 2) (l := [.int .i64 0, .slice none 0 0, .bool false, .slice none 0 0, .slice none 0 0, .int .i64 0, .slice none 0 0, .bool false, .slice none 0 0, .slice none 0 0]) Tryd.underlying24 tiimpl_Tree rfl rfl (by kernel_rfl) (by decide) (by decide) rfl (fun bL => ?_)
  refine ln_pv (pv_struct [(0, 1), (1, 1), (2, 1), (3, 1), (4, 1)] (l := [_, _, _, _, _]) rfl Tryd.underlying27 tiimpl_Tree (by kernel_rfl) rfl rfl) rfl ?_
  refine ln_alloc tiimpl_Tree rfl rfl (fun b2 => ?_)
  refine ln_storeW (i := 0) rfl rfl rfl rfl (tiimpl_Tree).size rfl (by simp []) ?_
  refine ln_cd ?_
  refine cd_dr' [0, 1, 2] [0, 1, 2, 3, 4, 5, 7, 8] [0, 1, 2, 3, 4, 5, 6, 7, 8, 9] mixed (by kernel_rfl) ?_
  refine lo_pv rfl rfl (sk_js (Tr.refl _) [0, 1, 2] rfl) (pv_fieldAddr (off := 3) (r := 3) Tryd.underlying27 rfl (tiSl_impl_Tree).size rfl rfl rfl) rfl ?_
  refine lo_pv rfl rfl (sk_js (Tr.refl _) [0, 1, 2] rfl) (pv_ldo (i := 0) rfl Tryd.underlying24 rfl rfl rfl) rfl ?_
  refine lo_pv rfl rfl (sk_js (Tr.refl _) [0, 1, 2] rfl) (pv_move rfl) rfl ?_
  refine lo_pv rfl rfl (sk_js (Tr.refl _) [0, 1, 2] rfl) (pv_nilCheck rfl) rfl ?_
  refine lo_pv rfl rfl (sk_js (Tr.refl _) [0, 1, 2] rfl) (pv_fieldAddr (off := 0)  Tryd.underlying139 rfl (tistring).size rfl rfl rfl) rfl ?_
  refine lo_pv rfl rfl (sk_js (Tr.refl _) [0, 1, 2] rfl) (pv_ldr (j := 0) hrc Tryd.underlying9 rfl rfl rfl) rfl ?_
  refine lo_eff rfl rfl ?_
  refine ln_s2b Tryd.underlying9 Tryd.underlying22 Tryd.underlying5 rfl rfl (fun bS1 cS1 zS1 fS1 hcS1 => ?_)
  refine ln_free1 (fun q h => h.elim) (fun sS1 htS1 hKS1 => ?_)
  have hsS1 := rs_of_obj hKS1 hcS1
  clear hKS1
  have hrc := hrc.mv htS1
  have hrt := hrt.mv htS1
  have hMK := hMK.mv htS1
  have hRK := hRK.mv htS1
  have hLs_1 := hLs_1.mv htS1
  refine lo_back (sk_js htS1 [0, 1, 2] rfl) ?_
  refine lo_pv rfl rfl (sk_js htS1 [0, 1, 2] rfl) (pv_struct [(0, 1), (1, 1), (2, 1), (3, 1), (4, 1)] (l := [_, _, _, _, _]) rfl Tryd.underlying27 tiimpl_Tree (by kernel_rfl) rfl (by simp [okL, Nat.ble_eq, Value.cells, (RS.one hsS1)])) rfl ?_
  refine lo_pv rfl rfl (sk_js htS1 [0, 1, 2] rfl) (pv_ixN (o := 0) (i := 0) Tryd.underlying24 (tiimpl_Tree).size rfl rfl (by decide)) rfl ?_
  refine lo_eff rfl rfl ?_
  refine ln_store (i := 1) (vs := [_, _, _, _, _]) rfl rfl rfl rfl (tiimpl_Tree).size rfl (by simp [(RS.one hsS1)]) rfl ?_
  refine lo_last (by kernel_rfl) ?_
  refine lo_cd ?_
  refine cd_dr' [0, 1, 2] [0, 1, 2, 3, 4, 5, 6, 8] [0, 1, 2, 3, 4, 5, 6, 7, 8, 9] mixed (by kernel_rfl) ?_
  refine lo_pv rfl rfl (sk_js (Tr.refl _) [0, 1, 2] rfl) (pv_fieldAddr (off := 3) (r := 3) Tryd.underlying27 rfl (tiSl_impl_Tree).size rfl rfl rfl) rfl ?_
  refine lo_pv rfl rfl (sk_js (Tr.refl _) [0, 1, 2] rfl) (pv_ldo (i := 0) rfl Tryd.underlying24 rfl rfl rfl) rfl ?_
  refine lo_pv rfl rfl (sk_js (Tr.refl _) [0, 1, 2] rfl) (pv_move rfl) rfl ?_
  refine lo_pv rfl rfl (sk_js (Tr.refl _) [0, 1, 2] rfl) (pv_nilCheck rfl) rfl ?_
  refine lo_pv rfl rfl (sk_js (Tr.refl _) [0, 1, 2] rfl) (pv_fieldAddr (off := 1)  Tryd.underlying139 rfl (tiSl_int32).size rfl rfl rfl) rfl ?_
  refine lo_pv rfl rfl (sk_js (Tr.refl _) [0, 1, 2] rfl) (pv_ldr (j := 1) hrc Tryd.underlying102 rfl rfl rfl) rfl ?_
  refine lo_pv rfl rfl (sk_js (Tr.refl _) [0, 1, 2] rfl) (pv_eqS Tryd.underlying102 rfl rfl) rfl ?_
  refine lo_eff rfl rfl ?_
  refine ln_pv (pv_ixN (o := 0) (i := 1) Tryd.underlying24 (tiimpl_Tree).size rfl rfl (by decide)) rfl ?_
  refine lo_back (sk_js (Tr.refl _) [0, 1, 2] rfl) ?_
  refine lo_pv rfl rfl (sk_js (Tr.refl _) [0, 1, 2] rfl) (pv_fieldAddr (off := 2) (r := 7) Tryd.underlying27 rfl (tibool).size rfl rfl rfl) rfl ?_
  refine lo_eff rfl rfl ?_
  refine ln_store1 (i := 1) rfl rfl rfl rfl (tibool).size rfl ?_
  refine lo_last (by kernel_rfl) ?_
  refine lo_cd ?_
  refine cd_seq ?_
  refine cd_nilrow 27 5 ?_
  refine cd_sr ?_
  refine ln_pv (pv_move rfl) rfl ?_
  refine ln_pv (pv_nilCheck rfl) rfl ?_
  refine ln_pv (pv_fieldAddr (off := 1)  Tryd.underlying139 rfl (tiSl_int32).size rfl rfl rfl) rfl ?_
  refine ln_pv (pv_ldr (j := 1) hrc Tryd.underlying102 rfl rfl rfl) rfl ?_
  refine ln_pv (pv_len_slice Tryd.underlying102 rfl) rfl ?_
  refine ln_pv (pv_move rfl) rfl ?_
  refine ln_cd ?_
  refine cd_block ?_
  refine cd_loop (⟨fun (z : Nat × List Value × Value) => [(0, .pointer (some ⟨b, o, none⟩)), (2, .pointer (some ⟨b1, 0, none⟩)), (3, .pointer (some ⟨b2, 0, none⟩)), (29, .int .i64 ((els (y.at_ 1)).length : Int)), (30, .int .i64 ((z.1 : Nat) : Int))], fun (z : Nat × List Value × Value) => [.row z.2.2 27 5 ((els (y.at_ 1)).take z.1).length z.2.1, .obj b2 (.cells [.int .i64 0, .slice none 0 0, .bool false, .slice (some ⟨bL, 0, none⟩) 2 2, .slice none 0 0].toArray 27), .obj bL (.cells [.int .i64 0, .slice (some ⟨bS1, 0, none⟩) (ByteArray.size ⟨((y.at_ 0)).s.toArray⟩) cS1, .bool false, .slice none 0 0, .slice none 0 0, .int .i64 0, .slice none 0 0, .bool ad1_1.isNone, z.2.2, .slice none 0 0].toArray 27), .obj b1 (.cells [.int .i64 0, .slice none 0 0, .bool false, .slice none 0 0, .slice none 0 0].toArray 27)], fun (z : Nat × List Value × Value) s => z.1 ≤ (els (y.at_ 1)).length ∧ RTs s (((els (y.at_ 1)).take z.1).map (tlS 3 (-1))) z.2.1, fun (z : Nat × List Value × Value) => (els (y.at_ 1)).length - z.1⟩ : Lp (Nat × List Value × Value)) (0, [], .slice none 0 0) ?_ ?_ ?_ ?_
  · intro s0 hs0
    exact ⟨Nat.zero_le _, rfl⟩
  · exact ⟨rfl, rfl, rfl, rfl, rfl,  trivial⟩
  · exact (.cons_cons _ (.cons_cons _ (.cons_cons _ (.cons_cons _ .slnil))))
  intro z s1 hl1 hI
  obtain ⟨i_1, ys_1, vv_1⟩ := z
  dsimp only at hI ⊢
  have hrc := hrc.mv hl1
  have hrt := hrt.mv hl1
  have hMK := hMK.mv hl1
  have hRK := hRK.mv hl1
  have hLs_1 := hLs_1.mv hl1
  have hsS1 := hsS1.mv hl1
  obtain ⟨hI_1, hIr_1⟩ := hI
  refine cd_sr ?_
  refine ln_pv (pv_lss rfl rfl) rfl ?_
  refine ln_cd ?_
  refine cd_seq ?_
  refine cd_if rfl (fun hc1 => ?_) (fun hc1 => ?_)
  · -- yes
    refine cd_skip ?_
    refine at_cd ?_
    refine cd_seq ?_
    refine cd_block ?_
    have hi_1 : i_1 < (els (y.at_ 1)).length := by omega
    have hsl_1 : ((els (y.at_ 1)).take (i_1 + 1)).length = ((els (y.at_ 1)).take i_1).length + 1 := by simp only [List.length_take]; omega
    have hil_1 : ((els (y.at_ 1)).take i_1).length = i_1 := by rw [List.length_take]; omega
    obtain ⟨gE_1, oE_1, cE_1, hadE_1, hrce_1, hme_1⟩ := hLs_1.at_ hi_1 (show esl _ _ = 1 by kernel_rfl)
    subst hadE_1
    obtain rfl := RE_i32 hme_1
    refine cd_sr ?_
    refine ln_pv (pv_move rfl) rfl ?_
    refine ln_pv (pv_assign rfl) rfl ?_
    refine ln_cd ?_
    refine cd_dr3 [1, 2, 3] [] [0] 1 2 [2, 3] [1, 3] mixed (by kernel_rfl) ?_
    refine lo_eff rfl rfl ?_
    refine ln_alloc tibool rfl rfl (fun b3 => ?_)
    refine lo_last (by kernel_rfl) ?_
    refine lo_nil (at_two ?_ ?_)
    · skip
      refine lo_eff rfl rfl ?_
      refine ln_store1 (i := 0) rfl rfl rfl rfl (tibool).size rfl ?_
      refine lo_last (by kernel_rfl) ?_
      refine lo_eff rfl rfl ?_
      refine ln_store1 (i := 0) rfl rfl rfl rfl (tibool).size rfl ?_
      refine lo_last (by kernel_rfl) ?_
      refine lo_eff rfl rfl ?_
      refine ln_pv (pv_ldo (i := 0) rfl Tryd.underlying4 rfl rfl rfl) rfl ?_
      refine lo_last (by kernel_rfl) ?_
      refine lo_cd ?_
      refine cd_ff rfl ?_
      refine cd_draw' [0, 2, 3, 4] [0, 1, 2, 3, 4, 5, 6, 7, 8, 9, 10, 11, 12, 13, 14, 15, 19] [0, 1, 2, 3, 4, 5, 6, 7, 8, 9, 10, 11, 12, 13, 14, 15, 16, 17, 18, 19, 20] mixed (by kernel_rfl) ?_
      refine lo_pv rfl rfl (sk_js (Tr.refl _) [0, 2, 3, 4] rfl) (pv_fieldAddr (off := 3) (r := 3) Tryd.underlying27 rfl (tiSl_impl_Tree).size rfl rfl rfl) rfl ?_
      refine lo_pv rfl rfl (sk_js (Tr.refl _) [0, 2, 3, 4] rfl) (pv_ldo (i := 1) rfl Tryd.underlying24 rfl rfl rfl) rfl ?_
      refine lo_pv rfl rfl (sk_js (Tr.refl _) [0, 2, 3, 4] rfl) (pv_fieldAddr (off := 3) (r := 3) Tryd.underlying27 rfl (tiSl_impl_Tree).size rfl rfl rfl) rfl ?_
      refine lo_pv rfl rfl (sk_js (Tr.refl _) [0, 2, 3, 4] rfl) (pv_ldo (i := 1) rfl Tryd.underlying24 rfl rfl rfl) rfl ?_
      refine lo_pv rfl rfl (sk_js (Tr.refl _) [0, 2, 3, 4] rfl) (pv_ixN (o := 0) (i := 1) Tryd.underlying24 (tiimpl_Tree).size rfl rfl (by decide)) rfl ?_
      refine lo_pv rfl rfl (sk_js (Tr.refl _) [0, 2, 3, 4] rfl) (pv_fieldAddr (off := 3) (r := 8) Tryd.underlying27 rfl (tiSl_impl_Tree).size rfl rfl rfl) rfl ?_
      refine lo_pv rfl rfl (sk_js (Tr.refl _) [0, 2, 3, 4] rfl) (pv_ldo (i := 2) rfl Tryd.underlying24 rfl rfl rfl) rfl ?_
      refine lo_pv rfl rfl (sk_js (Tr.refl _) [0, 2, 3, 4] rfl) (pv_move rfl) rfl ?_
      refine lo_pv rfl rfl (sk_js (Tr.refl _) [0, 2, 3, 4] rfl) (pv_nilCheck rfl) rfl ?_
      refine lo_pv rfl rfl (sk_js (Tr.refl _) [0, 2, 3, 4] rfl) (pv_fieldAddr (off := 1)  Tryd.underlying139 rfl (tiSl_int32).size rfl rfl rfl) rfl ?_
      refine lo_pv rfl rfl (sk_js (Tr.refl _) [0, 2, 3, 4] rfl) (pv_ldr (j := 1) hrc Tryd.underlying102 rfl rfl rfl) rfl ?_
      refine lo_pv rfl rfl (sk_js (Tr.refl _) [0, 2, 3, 4] rfl) (pv_move rfl) rfl ?_
      refine lo_pv rfl rfl (sk_js (Tr.refl _) [0, 2, 3, 4] rfl) (pv_ixN Tryd.underlying102 (tiint32).size rfl rfl hi_1) rfl ?_
      refine lo_pv rfl rfl (sk_js (Tr.refl _) [0, 2, 3, 4] rfl) (pv_ldr (j := 0) (hrce_1).2 Tryd.underlying21 rfl rfl rfl) rfl ?_
      refine lo_pv rfl rfl (sk_js (Tr.refl _) [0, 2, 3, 4] rfl) (pv_conv' Tryd.underlying21 Tryd.underlying2 rfl (w64_i32 _)) rfl ?_
      refine lo_pv rfl rfl (sk_js (Tr.refl _) [0, 2, 3, 4] rfl) (pv_struct [(0, 1), (1, 1), (2, 1), (3, 1), (4, 1)] (l := [_, _, _, _, _]) rfl Tryd.underlying27 tiimpl_Tree (by kernel_rfl) rfl rfl) rfl ?_
      refine lo_eff rfl rfl ?_
      refine ln_lit (vs := [_]) Tryd.underlying24 tiimpl_Tree rfl (by decide) rfl rfl rfl rfl rfl rfl (fun b4 => ?_)
      refine lo_back (sk_js (Tr.refl _) [1, 3, 4, 5] rfl) ?_
      refine lo_eff rfl rfl ?_
      refine ln_append (i := 2) rfl Tryd.underlying24 tiimpl_Tree rfl (by decide) rfl rfl (src_obj (j := 0) rfl rfl rfl) (by rw [hil_1]; first | omega | (simp only [maxLen]; omega)) (by rw [hil_1]; first | omega | (simp only [maxLen]; omega)) rfl (k' := ((els (y.at_ 1)).take (i_1 + 1)).length) (xs' := ys_1 ++ [.int .i64 (IntKind.i32.wrap ((els (y.at_ 1))[i_1]).n), .slice none 0 0, .bool false, .slice none 0 0, .slice none 0 0]) hsl_1.symm (by simp [flat, Value.cells]) (fun v2 hv2 => ?_)
      refine lo_back (sk_js (Tr.refl _) [1, 3, 4, 5] rfl) ?_
      refine lo_eff rfl rfl ?_
      refine ln_pv (pv_ixN (o := 0) (i := 1) Tryd.underlying24 (tiimpl_Tree).size rfl rfl (by decide)) rfl ?_
      refine lo_back (sk_js (Tr.refl _) [1, 3, 4, 5] rfl) ?_
      refine lo_pv rfl rfl (sk_js (Tr.refl _) [1, 3, 4, 5] rfl) (pv_fieldAddr (off := 3) (r := 8) Tryd.underlying27 rfl (tiSl_impl_Tree).size rfl rfl rfl) rfl ?_
      refine lo_eff rfl rfl ?_
      refine ln_store1 (i := 4) rfl rfl rfl hv2.2 (tiSl_impl_Tree).size rfl ?_
      refine lo_last (by kernel_rfl) ?_
      refine lo_nil ?_
      refine at_cd ?_
      refine cd_region ?_
      refine ln_pv (pv_add' rfl rfl (wrap_succ (by omega))) rfl ?_
      refine ln_pv (pv_move rfl) rfl ?_
      refine ln_nil ?_
      refine at_rnd (i_1 + 1, ys_1 ++ [.int .i64 (IntKind.i32.wrap ((els (y.at_ 1))[i_1]).n), .slice none 0 0, .bool false, .slice none 0 0, .slice none 0 0], v2) hl1 ?_ ?_ ⟨rfl, rfl, rfl, rfl, rfl,  trivial⟩ (.cons _ (.cons _ (.cons_cons _ (.cons_cons _ (.cons_cons _ (.cons_cons _ .slnil))))))
      · intro s9 hs9
        exact ⟨by dsimp only; omega, RTs_snoc hi_1 (RTs.mv hIr_1 hs9) RT_e3⟩
      · dsimp only; omega
    · skip
      refine lo_eff rfl rfl ?_
      refine ln_store1 (i := 0) rfl rfl rfl rfl (tibool).size rfl ?_
      refine lo_last (by kernel_rfl) ?_
      refine lo_eff rfl rfl ?_
      refine ln_store1 (i := 0) rfl rfl rfl rfl (tibool).size rfl ?_
      refine lo_last (by kernel_rfl) ?_
      refine lo_eff rfl rfl ?_
      refine ln_pv (pv_ldo (i := 0) rfl Tryd.underlying4 rfl rfl rfl) rfl ?_
      refine lo_last (by kernel_rfl) ?_
      refine lo_cd ?_
      refine cd_tt rfl ?_
      refine cd_rowshape (i := 1) rfl (fun adR_1 cpR_1 hvR_1 hleR_1 hposR_1 => ?_)
      subst hvR_1
      refine cd_dr' [0, 2, 3, 4] [0, 1, 2, 3, 4, 5, 6, 7, 8, 9, 10, 11, 12, 13, 14, 18] [0, 1, 2, 3, 4, 5, 6, 7, 8, 9, 10, 11, 12, 13, 14, 15, 16, 17, 18, 19] mixed (by kernel_rfl) ?_
      refine lo_pv rfl rfl (sk_js (Tr.refl _) [0, 2, 3, 4] rfl) (pv_fieldAddr (off := 3) (r := 3) Tryd.underlying27 rfl (tiSl_impl_Tree).size rfl rfl rfl) rfl ?_
      refine lo_pv rfl rfl (sk_js (Tr.refl _) [0, 2, 3, 4] rfl) (pv_ldo (i := 1) rfl Tryd.underlying24 rfl rfl rfl) rfl ?_
      refine lo_pv rfl rfl (sk_js (Tr.refl _) [0, 2, 3, 4] rfl) (pv_ixN (o := 0) (i := 1) Tryd.underlying24 (tiimpl_Tree).size rfl rfl (by decide)) rfl ?_
      refine lo_pv rfl rfl (sk_js (Tr.refl _) [0, 2, 3, 4] rfl) (pv_fieldAddr (off := 3) (r := 8) Tryd.underlying27 rfl (tiSl_impl_Tree).size rfl rfl rfl) rfl ?_
      refine lo_pv rfl rfl (sk_js (Tr.refl _) [0, 2, 3, 4] rfl) (pv_ldo (i := 2) rfl Tryd.underlying24 rfl rfl rfl) rfl ?_
      refine lo_pv rfl rfl (sk_js (Tr.refl _) [0, 2, 3, 4] rfl) (pv_move rfl) rfl ?_
      refine lo_pv rfl rfl (sk_js (Tr.refl _) [0, 2, 3, 4] rfl) (pv_nilCheck rfl) rfl ?_
      refine lo_pv rfl rfl (sk_js (Tr.refl _) [0, 2, 3, 4] rfl) (pv_fieldAddr (off := 1)  Tryd.underlying139 rfl (tiSl_int32).size rfl rfl rfl) rfl ?_
      refine lo_pv rfl rfl (sk_js (Tr.refl _) [0, 2, 3, 4] rfl) (pv_ldr (j := 1) hrc Tryd.underlying102 rfl rfl rfl) rfl ?_
      refine lo_pv rfl rfl (sk_js (Tr.refl _) [0, 2, 3, 4] rfl) (pv_move rfl) rfl ?_
      refine lo_pv rfl rfl (sk_js (Tr.refl _) [0, 2, 3, 4] rfl) (pv_ixN Tryd.underlying102 (tiint32).size rfl rfl hi_1) rfl ?_
      refine lo_pv rfl rfl (sk_js (Tr.refl _) [0, 2, 3, 4] rfl) (pv_ldr (j := 0) (hrce_1).2 Tryd.underlying21 rfl rfl rfl) rfl ?_
      refine lo_pv rfl rfl (sk_js (Tr.refl _) [0, 2, 3, 4] rfl) (pv_conv' Tryd.underlying21 Tryd.underlying2 rfl (w64_i32 _)) rfl ?_
      refine lo_pv rfl rfl (sk_js (Tr.refl _) [0, 2, 3, 4] rfl) (pv_struct [(0, 1), (1, 1), (2, 1), (3, 1), (4, 1)] (l := [_, _, _, _, _]) rfl Tryd.underlying27 tiimpl_Tree (by kernel_rfl) rfl rfl) rfl ?_
      refine lo_pv rfl rfl (sk_js (Tr.refl _) [0, 2, 3, 4] rfl) (pv_len_slice Tryd.underlying24 rfl) rfl ?_
      refine lo_eff rfl rfl ?_
      refine ln_lit (vs := [_]) Tryd.underlying24 tiimpl_Tree rfl (by decide) rfl rfl rfl rfl rfl rfl (fun b5 => ?_)
      refine lo_back (sk_js (Tr.refl _) [1, 3, 4, 5] rfl) ?_
      refine lo_eff rfl rfl ?_
      refine ln_append (i := 2) rfl Tryd.underlying24 tiimpl_Tree rfl (by decide) rfl rfl (src_obj (j := 0) rfl rfl rfl) (by rw [hil_1]; first | omega | (simp only [maxLen]; omega)) (by rw [hil_1]; first | omega | (simp only [maxLen]; omega)) rfl (k' := ((els (y.at_ 1)).take (i_1 + 1)).length) (xs' := ys_1 ++ [.int .i64 0, .slice none 0 0, .bool false, .slice none 0 0, .slice none 0 0]) hsl_1.symm (by simp [flat, Value.cells]) (fun v3 hv3 => ?_)
      refine lo_back (sk_js (Tr.refl _) [1, 3, 4, 5] rfl) ?_
      refine lo_eff rfl rfl ?_
      refine ln_pv (pv_ixN (o := 0) (i := 1) Tryd.underlying24 (tiimpl_Tree).size rfl rfl (by decide)) rfl ?_
      refine lo_back (sk_js (Tr.refl _) [1, 3, 4, 5] rfl) ?_
      refine lo_pv rfl rfl (sk_js (Tr.refl _) [1, 3, 4, 5] rfl) (pv_fieldAddr (off := 3) (r := 8) Tryd.underlying27 rfl (tiSl_impl_Tree).size rfl rfl rfl) rfl ?_
      refine lo_eff rfl rfl ?_
      refine ln_store1 (i := 4) rfl rfl rfl hv3.2 (tiSl_impl_Tree).size rfl ?_
      refine lo_last (by kernel_rfl) ?_
      refine lo_cd ?_
      refine cd_region ?_
      refine ln_rowshp (i := 2) rfl (fun ad2_1 cp2_1 hv2_1 hle2_1 hpos2_1 => ?_)
      subst hv2_1
      obtain ⟨g2_1, rfl⟩ := hpos2_1 (by omega)
      refine ln_pv (pv_ixN Tryd.underlying24 tiimpl_Tree.size rfl rfl (by omega)) rfl ?_
      refine ln_storeR (i := 2) (vs := [.int .i64 (IntKind.i32.wrap ((els (y.at_ 1))[i_1]).n), .slice none 0 0, .bool false, .slice none 0 0, .slice none 0 0]) (xs' := ys_1 ++ [.int .i64 (IntKind.i32.wrap ((els (y.at_ 1))[i_1]).n), .slice none 0 0, .bool false, .slice none 0 0, .slice none 0 0]) rfl rfl rfl rfl tiimpl_Tree.size (by simp only [List.length_cons, List.length_nil]; omega) (by simp) (wr_end (xs := ys_1) (z := [.int .i64 0, .slice none 0 0, .bool false, .slice none 0 0, .slice none 0 0]) (o := 0 + ((els (y.at_ 1)).take i_1).length * 5) (vs := [.int .i64 (IntKind.i32.wrap ((els (y.at_ 1))[i_1]).n), .slice none 0 0, .bool false, .slice none 0 0, .slice none 0 0]) rfl (by have h6 := (RTs.len5 hIr_1); simp only [List.length_map] at h6; omega)) ?_
      refine ln_nil ?_
      refine at_cd ?_
      refine cd_region ?_
      refine ln_pv (pv_add' rfl rfl (wrap_succ (by omega))) rfl ?_
      refine ln_pv (pv_move rfl) rfl ?_
      refine ln_nil ?_
      refine at_rnd (i_1 + 1, ys_1 ++ [.int .i64 (IntKind.i32.wrap ((els (y.at_ 1))[i_1]).n), .slice none 0 0, .bool false, .slice none 0 0, .slice none 0 0], (.slice (some ⟨g2_1, 0, none⟩) ((els (y.at_ 1)).take (i_1 + 1)).length cp2_1)) hl1 ?_ ?_ ⟨rfl, rfl, rfl, rfl, rfl,  trivial⟩ (.cons _ (.cons _ (.cons_cons _ (.cons_cons _ (.cons_cons _ (.cons_cons _ .slnil))))))
      · intro s9 hs9
        exact ⟨by dsimp only; omega, RTs_snoc hi_1 (RTs.mv hIr_1 hs9) RT_e3⟩
      · dsimp only; omega
  · -- no
    refine cd_exit rfl ?_
    refine at_cd ?_
    have hq_1 : i_1 = (els (y.at_ 1)).length := by omega
    subst hq_1
    rw [List.take_length] at hIr_1
    refine cd_row (i := 0) (m' := ((els (y.at_ 1)).map (tlS 3 (-1))).length) (xs' := ys_1) rfl (by simp) rfl ?_
    refine cd_sr ?_
    refine ln_pv (pv_move rfl) rfl ?_
    refine ln_pv (pv_nilCheck rfl) rfl ?_
    refine ln_pv (pv_fieldAddr (off := 2)  Tryd.underlying139 rfl (tipub_kmsg_Tags).size rfl rfl rfl) rfl ?_
    refine ln_pv (pv_makeFunc (vf := #[]) (vc := #[.pointer (some ⟨b2, 0, none⟩)]) (by rw [List.map_toArray, List.map_toArray]; rfl) (by rw [List.map_toArray, List.map_toArray]; rfl)) rfl ?_
    refine ln_nilrow 58 2 ?_
    have hst := tclo_TxnMetadataValueTopic b2 (.int .i64 0) (.slice none 0 0) (.bool false) (.slice (some ⟨bL, 0, none⟩) 2 2) y.u hkeys hlens (Nat.le_of_lt hlen)
    have hEa := fun (u : Vw) hr hm hk h0 hok hav hnd => tags_EachG (fun z => TA b2 (.int .i64 0) (.slice none 0 0) (.bool false) (.slice (some ⟨bL, 0, none⟩) 2 2) z) TB (TInv y.u) 148 (.pointer (some ⟨b2, 0, none⟩)) en_148 u b (o + 2) mv1 lt y.u (.slice none 0 0, [], 0) hr hm hk hsrt (by omega) h0 hst hok hav hnd
    refine ln_callH (E := [TA b2 (.int .i64 0) (.slice none 0 0) (.bool false) (.slice (some ⟨bL, 0, none⟩) 2 2) (.slice none 0 0, [], 0), TB (.slice none 0 0, [], 0)]) (H0 := [_, _, _]) (List.perm_middle (l₁ := [_, _])) en_82 rfl (fun u hu hok hav hnd => hEa u (RC1.mv hrt hu) (hMK.mv hu) (RKp.mv hu hRK) (fun w hw => ⟨rfl, by rw [List.take_zero]; rfl⟩) hok hav hnd) rfl ?_
    rintro u5 v5 _ ht5 ⟨xu5, ⟨⟨vU, csU, kU⟩, rfl, hzU⟩, hxu5⟩
    obtain ⟨hkU, hRU⟩ := (hzU.mv hxu5).get
    dsimp only at hkU hRU
    subst hkU
    rw [List.take_length] at hRU
    have hrc := hrc.mv ht5
    have hrt := hrt.mv ht5
    have hMK := hMK.mv ht5
    have hRK := hRK.mv ht5
    have hLs_1 := hLs_1.mv ht5
    have hsS1 := hsS1.mv ht5
    have hIr_1 := hIr_1.mv ht5
    refine ln_cd ?_
    refine cd_sr ?_
    refine ln_pv (pv_fieldAddr (off := 4) (r := 4) Tryd.underlying27 rfl (tiSl_impl_Tag).size rfl rfl rfl) rfl ?_
    refine ln_pv (pv_ldo (i := 0) rfl Tryd.underlying25 rfl rfl rfl) rfl ?_
    refine ln_callT (i := 1) en_84 rfl rfl (fun u hu hok hav => impl_sorted u vU y.u csU hsrt (by omega) (RUs.cells hRU).1 (fun i hi => by obtain ⟨c1, tv, c3, he, hc, _, _⟩ := RUs.at_ hi hRU; rw [he, List.append_assoc, List.getElem?_append_right (by omega), hc]; simp) hok hav) rfl ?_
    rintro u6 v6 _ ht6 ⟨_, rfl, _⟩
    have hrc := hrc.mv ht6
    have hrt := hrt.mv ht6
    have hMK := hMK.mv ht6
    have hRK := hRK.mv ht6
    have hLs_1 := hLs_1.mv ht6
    have hsS1 := hsS1.mv ht6
    have hIr_1 := hIr_1.mv ht6
    have hRU := hRU.mv ht6
    refine ln_cd ?_
    refine cd_rowone (i := 1) rfl (fun hoU => ?_)
    refine cd_sr ?_
    refine ln_pv (pv_ldO (i := 0) rfl Tryd.underlying27 rfl (tiimpl_Tree).size rfl rfl) rfl ?_
    refine ln_storeW (i := 4) rfl rfl rfl rfl (tiimpl_Tree).size rfl (by simp [hoU]) ?_
    refine ln_cd ?_
    refine cd_ret ?_
    refine at_retC (i := 4) rfl rfl rfl Tryd.underlying27 rfl tiimpl_Tree.size rfl (fun w hS => ?_)
    have hRTs : RTs hS.fin [.mk 0 (y.at_ 0).s false [] [], .mk 0 [] (y.at_ 1).z ((els (y.at_ 1)).map (tlS 3 (-1))) []] _ := ⟨[_, _, _, _, _], _, rfl, RT_str (RSv.mv hsS1 hS.trFin), ⟨[_, _, _, _, _], _, rfl, RT_list hnil1_1 rfl (row_rs hS (j := 2) rfl (RTs.cells hIr_1)) (RTs.mv hIr_1 hS.trFin), rfl⟩⟩
    refine ⟨_, rfl, RT.shut ⟨_, _, _, rfl, (show I64 0 from by unfold I64; omega), RS_nil 1, ⟨_, obj_rsS hS (i := 3) (sz := 5) (m := 2) rfl rfl (RTs.cells hRTs), hRTs⟩, ⟨csU, row_rs hS (j := 1) rfl (RUs.cells hRU).2, RUs.mv hS.trFin hRU⟩⟩⟩
theorem tclo_TxnMetadataValue (b3 : Nat) (c0 c1 c2 c3 : Value) (us : Tags) (hk : ∀ y ∈ us, y.1 < 4294967296) (hl : ∀ y ∈ us, y.2.length ≤ 4398046511104) (hlen : us.length ≤ 1099511627776) : ∀ j (hj : j < us.length) (u : Vw) (z : Value × List Value × Nat) (tv : Value), Iv (TInv us) j u z → RSv u tv (us[j]'hj).2 → HF [TA b3 c0 c1 c2 c3 z, TB z] u.w → (∀ q ∈ blks [TA b3 c0 c1 c2 c3 z, TB z], u.av q) → (blks [TA b3 c0 c1 c2 c3 z, TB z]).Nodup → CH Tryd.prog 108 [.int .u32 ((us[j]'hj).1 : Int), tv, .pointer (some ⟨b3, 0, none⟩)] u [TA b3 c0 c1 c2 c3 z, TB z] fun u r E' => ∃ z', E' = [TA b3 c0 c1 c2 c3 z', TB z'] ∧ Iv (TInv us) (j + 1) u z' := by
  rintro j hj u ⟨vU, cs, k⟩ tv hz htv hok hav hnd
  obtain ⟨hk0, hR⟩ := hz.get
  dsimp only at hk0 hR
  subst hk0
  have hbl := hl _ (List.getElem_mem hj)
  obtain ⟨adV, cV, rfl, hleV⟩ := htv.shape
  refine ch_enter Tryd.func108 rfl Tryd.ntmps108 rfl hok hav hnd ?_
  refine cd_draw' [0] [0, 1, 2, 3, 5, 8] [0, 1, 2, 3, 4, 5, 6, 7, 8, 9] mixed (by kernel_rfl) ?_
  refine lo_pv rfl rfl (sk_js (Tr.refl _) [0] rfl) (pv_fieldAddr (off := 4) (r := 4) Tryd.underlying27 rfl (tiSl_impl_Tag).size rfl rfl rfl) rfl ?_
  refine lo_pv rfl rfl (sk_js (Tr.refl _) [0] rfl) (pv_ldo (i := 0) rfl Tryd.underlying25 rfl rfl rfl) rfl ?_
  refine lo_pv rfl rfl (sk_js (Tr.refl _) [0] rfl) (pv_move rfl) rfl ?_
  refine lo_pv rfl rfl (sk_js (Tr.refl _) [0] rfl) (pv_move rfl) rfl ?_
  refine lo_eff rfl rfl ?_
  refine ln_nilrow 5 1 ?_
  refine ln_append (i := 0) rfl Tryd.underlying22 tiuint8 rfl (by decide) rfl rfl (RS.src htv) (by simp only [maxLen]; omega) (by omega) rfl (k' := (us[k]'hj).2.length) (xs' := u8s (us[k]'hj).2) (by omega) (by simp) (fun vc hvc => ?_)
  refine ln_free1 (fun q h => by simpa using h) (fun s1 ht1 hK1 => ?_)
  have hcp : RSv s1 vc (us[k]'hj).2 := Known.rs hK1 (u8s_one _)
  clear hK1
  have htv := htv.mv ht1
  have hR := RUs.mv ht1 hR
  refine lo_back (sk_js ht1 [0] rfl) ?_
  refine lo_pv rfl rfl (sk_js ht1 [0] rfl) (pv_struct [(0, 1), (1, 1)] (l := [_, _]) rfl Tryd.underlying58 tiimpl_Tag (by kernel_rfl) rfl (by simp [okL, Nat.ble_eq, Value.cells, hvc.2])) rfl ?_
  refine lo_eff rfl rfl ?_
  refine ln_lit (vs := [_]) Tryd.underlying25 tiimpl_Tag rfl (by decide) rfl rfl rfl rfl rfl rfl (fun b1 => ?_)
  refine lo_back (sk_js ht1 [1] rfl) ?_
  refine lo_eff rfl rfl ?_
  refine ln_append (i := 2) rfl Tryd.underlying25 tiimpl_Tag rfl (by decide) rfl rfl (src_obj (j := 0) rfl rfl (by simp [flat, Value.cells, hvc.2])) (by first | omega | (simp only [maxLen]; omega)) (by first | omega | (simp only [maxLen]; omega)) rfl (k' := (k + 1)) (xs' := cs ++ [.int .u32 ((us[k]'hj).1 : Int), vc]) rfl (by simp [flat, Value.cells]) (fun v1 hv1 => ?_)
  refine lo_back (sk_js ht1 [1] rfl) ?_
  refine lo_pv rfl rfl (sk_js ht1 [1] rfl) (pv_fieldAddr (off := 4) (r := 4) Tryd.underlying27 rfl (tiSl_impl_Tag).size rfl rfl rfl) rfl ?_
  refine lo_eff rfl rfl ?_
  refine ln_store1 (i := 1) rfl rfl rfl hv1.2 (tiSl_impl_Tag).size rfl ?_
  refine lo_last (by kernel_rfl) ?_
  refine lo_nil ?_
  refine at_retH0 [TA b3 c0 c1 c2 c3 (v1, cs ++ [.int .u32 ((us[k]'hj).1 : Int), vc], k + 1), TB (v1, cs ++ [.int .u32 ((us[k]'hj).1 : Int), vc], k + 1)] (.cons _ (.cons_cons _ (.cons_cons _ .slnil))) rfl (fun w hS => ⟨(v1, cs ++ [.int .u32 ((us[k]'hj).1 : Int), vc], k + 1), rfl, fun w2 hw2 => ⟨rfl, ?_⟩⟩)
  rw [take_snoc' hj]
  have hq := (hS.trFinH _ _).trans hw2
  exact RUs.append (RUs.mv hq hR) (RUs.one_ (hk _ (List.getElem_mem hj)) (RSv.mv hcp hq))
theorem tlT_TxnMetadataValue (y : Tre) : tlT tAll y = .mk 0 [] false [.mk (y.at_ 0).n [] false [] [], .mk (IntKind.i16.wrap (y.at_ 1).n) [] false [] [], .mk (IntKind.i32.wrap (y.at_ 2).n) [] false [] [], .mk (IntKind.i8.wrap (y.at_ 3).n) [] false [] [], .mk 0 [] (y.at_ 4).z ((els (y.at_ 4)).map (tlT tSub)) [], .mk (y.at_ 5).n [] false [] [], .mk (y.at_ 6).n [] false [] [], .mk (y.at_ 7).n [] false [] [], .mk (y.at_ 8).n [] false [] [], .mk (IntKind.i16.wrap (y.at_ 9).n) [] false [] [], .mk (IntKind.i16.wrap (y.at_ 10).n) [] false [] []] y.u := rfl
set_option maxHeartbeats 2000000 in
theorem tell_TxnMetadataValue (t : Vw) (b : Nat) (v : Int) (y : Tre) (cells : List Value) (hrc : RC t b 0 (.int .i16 v :: cells)) (hM : RMp t tAll y cells) (htg : tgT tAll y) : CA Tryd.prog 74 [.pointer (some ⟨b, 0, none⟩)] t fun u r => ∃ ds, r = .agg ds.toArray ∧ RT u (tlT tAll y) ds := by
  rw [tlT_TxnMetadataValue]
  obtain ⟨⟨hsrt, hkeys, hlens, hlen⟩, htl⟩ := htg
  simp only [tAll, tgL] at htl
  obtain ⟨qg0, qg1, qg2, qg3, qg4, qg5, qg6, qg7, qg8, qg9, qg10, _⟩ := htl
  obtain ⟨fc1, mv1, hce1, hfl1, hTg1⟩ := hM
  simp only [tAll, RMl] at hfl1
  obtain ⟨x1_0, z1_0, e1_0, g1_0, x1_1, z1_1, e1_1, g1_1, x1_2, z1_2, e1_2, g1_2, x1_3, z1_3, e1_3, g1_3, x1_4, z1_4, e1_4, g1_4, x1_5, z1_5, e1_5, g1_5, x1_6, z1_6, e1_6, g1_6, x1_7, z1_7, e1_7, g1_7, x1_8, z1_8, e1_8, g1_8, x1_9, z1_9, e1_9, g1_9, x1_10, z1_10, e1_10, g1_10, hend1⟩ := hfl1
  obtain ⟨rfl, hI1_0⟩ := RMf_i64.1 g1_0
  obtain rfl := RMf_i16.1 g1_1
  obtain rfl := RMf_i32.1 g1_2
  obtain rfl := RMf_i8.1 g1_3
  obtain ⟨_, rfl, Gg1_4⟩ := RMf_list.1 g1_4
  obtain ⟨ad1_4, cap1_4, rfl, hnil1_4, Hg1_4⟩ := Gg1_4.els
  obtain ⟨rfl, hI1_5⟩ := RMf_i64.1 g1_5
  obtain ⟨rfl, hI1_6⟩ := RMf_i64.1 g1_6
  obtain ⟨rfl, hI1_7⟩ := RMf_i64.1 g1_7
  obtain ⟨rfl, hI1_8⟩ := RMf_i64.1 g1_8
  obtain rfl := RMf_i16.1 g1_9
  obtain rfl := RMf_i16.1 g1_10
  subst hend1
  subst e1_10
  subst e1_9
  subst e1_8
  subst e1_7
  subst e1_6
  subst e1_5
  subst e1_4
  subst e1_3
  subst e1_2
  subst e1_1
  subst e1_0
  rw [hce1] at hrc
  simp only [List.cons_append, List.nil_append, List.append_assoc] at hrc
  have hLs_4 := LsF.of Hg1_4
  have hll_4 : (els (y.at_ 4)).length ≤ 32767 := (tgF_list.1 qg4).1
  obtain ⟨lt, hMK, hRK⟩ := hTg1
  have hrt : RC1 t b (0 + 12) mv1 := hrc.sub 12 (c1 := [_, _, _, _, _, _, _, _, _, _, _, _]) (c2 := [mv1]) (c3 := []) rfl rfl
  have hrc : RCx t b 0 _ _ := hrc
  refine ca_enter Tryd.func74 rfl Tryd.ntmps74 rfl ?_
  refine cd_sr ?_
  refine ln_alloc tiimpl_Tree rfl rfl (fun b1 => ?_)
  refine ln_cd ?_
  refine cd_sr ?_
  refine ln_makeN (m := 11) (l := [.int .i64 0, .slice none 0 0, .bool false, .slice none 0 0, .slice none 0 0, .int .i64 0, .slice none 0 0, .bool false, .slice none 0 0, .slice none 0 0, .int .i64 0, .slice none 0 0, .bool false, .slice none 0 0, .slice none 0 0, .int .i64 0, .slice none 0 0, .bool false, .slice none 0 0, .slice none 0 0, .int .i64 0, .slice none 0 0, .bool false, .slice none 0 0, .slice none 0 0, .int .i64 0, .slice none 0 0, .bool false, .slice none 0 0, .slice none 0 0, .int .i64 0, .slice none 0 0, .bool false, .slice none 0 0, .slice none 0 0, .int .i64 0, .slice none 0 0, .bool false, .slice none 0 0, .slice none 0 0, .int .i64 0, .slice none 0 0, .bool false, .slice none 0 0, .slice none 0 0, .int .i64 0, .slice none 0 0, .bool false, .slice none 0 0, .slice none 0 0, .int .i64 0, .slice none 0 0, .bool false, .slice none 0 0, .slice none 0 0]) Tryd.underlying24 tiimpl_Tree rfl rfl (by kernel_rfl) (by decide) (by decide) rfl (fun bL => ?_)
  refine ln_pv (pv_struct [(0, 1), (1, 1), (2, 1), (3, 1), (4, 1)] (l := [_, _, _, _, _]) rfl Tryd.underlying27 tiimpl_Tree (by kernel_rfl) rfl rfl) rfl ?_
  refine ln_alloc tiimpl_Tree rfl rfl (fun b2 => ?_)
  refine ln_storeW (i := 0) rfl rfl rfl rfl (tiimpl_Tree).size rfl (by simp []) ?_
  refine ln_cd ?_
  refine cd_dr' [0, 1, 2] [0, 1, 2, 3, 4, 5, 6, 7] [0, 1, 2, 3, 4, 5, 6, 7, 8] mixed (by kernel_rfl) ?_
  refine lo_pv rfl rfl (sk_js (Tr.refl _) [0, 1, 2] rfl) (pv_fieldAddr (off := 3) (r := 3) Tryd.underlying27 rfl (tiSl_impl_Tree).size rfl rfl rfl) rfl ?_
  refine lo_pv rfl rfl (sk_js (Tr.refl _) [0, 1, 2] rfl) (pv_ldo (i := 0) rfl Tryd.underlying24 rfl rfl rfl) rfl ?_
  refine lo_pv rfl rfl (sk_js (Tr.refl _) [0, 1, 2] rfl) (pv_move rfl) rfl ?_
  refine lo_pv rfl rfl (sk_js (Tr.refl _) [0, 1, 2] rfl) (pv_nilCheck rfl) rfl ?_
  refine lo_pv rfl rfl (sk_js (Tr.refl _) [0, 1, 2] rfl) (pv_fieldAddr (off := 1)  Tryd.underlying81 rfl (tiint64).size rfl rfl rfl) rfl ?_
  refine lo_pv rfl rfl (sk_js (Tr.refl _) [0, 1, 2] rfl) (pv_ldr (j := 1) hrc Tryd.underlying2 rfl rfl rfl) rfl ?_
  refine lo_pv rfl rfl (sk_js (Tr.refl _) [0, 1, 2] rfl) (pv_struct [(0, 1), (1, 1), (2, 1), (3, 1), (4, 1)] (l := [_, _, _, _, _]) rfl Tryd.underlying27 tiimpl_Tree (by kernel_rfl) rfl rfl) rfl ?_
  refine lo_pv rfl rfl (sk_js (Tr.refl _) [0, 1, 2] rfl) (pv_ixN (o := 0) (i := 0) Tryd.underlying24 (tiimpl_Tree).size rfl rfl (by decide)) rfl ?_
  refine lo_eff rfl rfl ?_
  refine ln_store (i := 1) (vs := [_, _, _, _, _]) rfl rfl rfl rfl (tiimpl_Tree).size rfl rfl rfl ?_
  refine lo_last (by kernel_rfl) ?_
  refine lo_cd ?_
  refine cd_dr' [0, 1, 2] [0, 1, 2, 3, 4, 5, 6, 7, 8] [0, 1, 2, 3, 4, 5, 6, 7, 8, 9] mixed (by kernel_rfl) ?_
  refine lo_pv rfl rfl (sk_js (Tr.refl _) [0, 1, 2] rfl) (pv_fieldAddr (off := 3) (r := 3) Tryd.underlying27 rfl (tiSl_impl_Tree).size rfl rfl rfl) rfl ?_
  refine lo_pv rfl rfl (sk_js (Tr.refl _) [0, 1, 2] rfl) (pv_ldo (i := 0) rfl Tryd.underlying24 rfl rfl rfl) rfl ?_
  refine lo_pv rfl rfl (sk_js (Tr.refl _) [0, 1, 2] rfl) (pv_move rfl) rfl ?_
  refine lo_pv rfl rfl (sk_js (Tr.refl _) [0, 1, 2] rfl) (pv_nilCheck rfl) rfl ?_
  refine lo_pv rfl rfl (sk_js (Tr.refl _) [0, 1, 2] rfl) (pv_fieldAddr (off := 2)  Tryd.underlying81 rfl (tiint16).size rfl rfl rfl) rfl ?_
  refine lo_pv rfl rfl (sk_js (Tr.refl _) [0, 1, 2] rfl) (pv_ldr (j := 2) hrc Tryd.underlying45 rfl rfl rfl) rfl ?_
  refine lo_pv rfl rfl (sk_js (Tr.refl _) [0, 1, 2] rfl) (pv_conv' Tryd.underlying45 Tryd.underlying2 rfl (w64_i16 _)) rfl ?_
  refine lo_pv rfl rfl (sk_js (Tr.refl _) [0, 1, 2] rfl) (pv_struct [(0, 1), (1, 1), (2, 1), (3, 1), (4, 1)] (l := [_, _, _, _, _]) rfl Tryd.underlying27 tiimpl_Tree (by kernel_rfl) rfl rfl) rfl ?_
  refine lo_pv rfl rfl (sk_js (Tr.refl _) [0, 1, 2] rfl) (pv_ixN (o := 0) (i := 1) Tryd.underlying24 (tiimpl_Tree).size rfl rfl (by decide)) rfl ?_
  refine lo_eff rfl rfl ?_
  refine ln_store (i := 1) (vs := [_, _, _, _, _]) rfl rfl rfl rfl (tiimpl_Tree).size rfl rfl rfl ?_
  refine lo_last (by kernel_rfl) ?_
  refine lo_cd ?_
  refine cd_dr' [0, 1, 2] [0, 1, 2, 3, 4, 5, 6, 7, 8] [0, 1, 2, 3, 4, 5, 6, 7, 8, 9] mixed (by kernel_rfl) ?_
  refine lo_pv rfl rfl (sk_js (Tr.refl _) [0, 1, 2] rfl) (pv_fieldAddr (off := 3) (r := 3) Tryd.underlying27 rfl (tiSl_impl_Tree).size rfl rfl rfl) rfl ?_
  refine lo_pv rfl rfl (sk_js (Tr.refl _) [0, 1, 2] rfl) (pv_ldo (i := 0) rfl Tryd.underlying24 rfl rfl rfl) rfl ?_
  refine lo_pv rfl rfl (sk_js (Tr.refl _) [0, 1, 2] rfl) (pv_move rfl) rfl ?_
  refine lo_pv rfl rfl (sk_js (Tr.refl _) [0, 1, 2] rfl) (pv_nilCheck rfl) rfl ?_
  refine lo_pv rfl rfl (sk_js (Tr.refl _) [0, 1, 2] rfl) (pv_fieldAddr (off := 3)  Tryd.underlying81 rfl (tiint32).size rfl rfl rfl) rfl ?_
  refine lo_pv rfl rfl (sk_js (Tr.refl _) [0, 1, 2] rfl) (pv_ldr (j := 3) hrc Tryd.underlying21 rfl rfl rfl) rfl ?_
  refine lo_pv rfl rfl (sk_js (Tr.refl _) [0, 1, 2] rfl) (pv_conv' Tryd.underlying21 Tryd.underlying2 rfl (w64_i32 _)) rfl ?_
  refine lo_pv rfl rfl (sk_js (Tr.refl _) [0, 1, 2] rfl) (pv_struct [(0, 1), (1, 1), (2, 1), (3, 1), (4, 1)] (l := [_, _, _, _, _]) rfl Tryd.underlying27 tiimpl_Tree (by kernel_rfl) rfl rfl) rfl ?_
  refine lo_pv rfl rfl (sk_js (Tr.refl _) [0, 1, 2] rfl) (pv_ixN (o := 0) (i := 2) Tryd.underlying24 (tiimpl_Tree).size rfl rfl (by decide)) rfl ?_
  refine lo_eff rfl rfl ?_
  refine ln_store (i := 1) (vs := [_, _, _, _, _]) rfl rfl rfl rfl (tiimpl_Tree).size rfl rfl rfl ?_
  refine lo_last (by kernel_rfl) ?_
  refine lo_cd ?_
  refine cd_dr' [0, 1, 2] [0, 1, 2, 3, 4, 5, 6, 7, 8] [0, 1, 2, 3, 4, 5, 6, 7, 8, 9] mixed (by kernel_rfl) ?_
  refine lo_pv rfl rfl (sk_js (Tr.refl _) [0, 1, 2] rfl) (pv_fieldAddr (off := 3) (r := 3) Tryd.underlying27 rfl (tiSl_impl_Tree).size rfl rfl rfl) rfl ?_
  refine lo_pv rfl rfl (sk_js (Tr.refl _) [0, 1, 2] rfl) (pv_ldo (i := 0) rfl Tryd.underlying24 rfl rfl rfl) rfl ?_
  refine lo_pv rfl rfl (sk_js (Tr.refl _) [0, 1, 2] rfl) (pv_move rfl) rfl ?_
  refine lo_pv rfl rfl (sk_js (Tr.refl _) [0, 1, 2] rfl) (pv_nilCheck rfl) rfl ?_
  refine lo_pv rfl rfl (sk_js (Tr.refl _) [0, 1, 2] rfl) (pv_fieldAddr (off := 4)  Tryd.underlying81 rfl (tipub_kmsg_TransactionState).size rfl rfl rfl) rfl ?_
  refine lo_pv rfl rfl (sk_js (Tr.refl _) [0, 1, 2] rfl) (pv_ldr (j := 4) hrc Tryd.underlying75 rfl rfl rfl) rfl ?_
  refine lo_pv rfl rfl (sk_js (Tr.refl _) [0, 1, 2] rfl) (pv_conv' Tryd.underlying75 Tryd.underlying2 rfl (w64_i8 _)) rfl ?_
  refine lo_pv rfl rfl (sk_js (Tr.refl _) [0, 1, 2] rfl) (pv_struct [(0, 1), (1, 1), (2, 1), (3, 1), (4, 1)] (l := [_, _, _, _, _]) rfl Tryd.underlying27 tiimpl_Tree (by kernel_rfl) rfl rfl) rfl ?_
  refine lo_pv rfl rfl (sk_js (Tr.refl _) [0, 1, 2] rfl) (pv_ixN (o := 0) (i := 3) Tryd.underlying24 (tiimpl_Tree).size rfl rfl (by decide)) rfl ?_
  refine lo_eff rfl rfl ?_
  refine ln_store (i := 1) (vs := [_, _, _, _, _]) rfl rfl rfl rfl (tiimpl_Tree).size rfl rfl rfl ?_
  refine lo_last (by kernel_rfl) ?_
  refine lo_cd ?_
  refine cd_dr' [0, 1, 2] [0, 1, 2, 3, 4, 5, 6, 8] [0, 1, 2, 3, 4, 5, 6, 7, 8, 9] mixed (by kernel_rfl) ?_
  refine lo_pv rfl rfl (sk_js (Tr.refl _) [0, 1, 2] rfl) (pv_fieldAddr (off := 3) (r := 3) Tryd.underlying27 rfl (tiSl_impl_Tree).size rfl rfl rfl) rfl ?_
  refine lo_pv rfl rfl (sk_js (Tr.refl _) [0, 1, 2] rfl) (pv_ldo (i := 0) rfl Tryd.underlying24 rfl rfl rfl) rfl ?_
  refine lo_pv rfl rfl (sk_js (Tr.refl _) [0, 1, 2] rfl) (pv_move rfl) rfl ?_
  refine lo_pv rfl rfl (sk_js (Tr.refl _) [0, 1, 2] rfl) (pv_nilCheck rfl) rfl ?_
  refine lo_pv rfl rfl (sk_js (Tr.refl _) [0, 1, 2] rfl) (pv_fieldAddr (off := 5)  Tryd.underlying81 rfl (tiSl_kmsg_TxnMetadataValueTopic).size rfl rfl rfl) rfl ?_
  refine lo_pv rfl rfl (sk_js (Tr.refl _) [0, 1, 2] rfl) (pv_ldr (j := 5) hrc Tryd.underlying76 rfl rfl rfl) rfl ?_
  refine lo_pv rfl rfl (sk_js (Tr.refl _) [0, 1, 2] rfl) (pv_eqS Tryd.underlying76 rfl rfl) rfl ?_
  refine lo_eff rfl rfl ?_
  refine ln_pv (pv_ixN (o := 0) (i := 4) Tryd.underlying24 (tiimpl_Tree).size rfl rfl (by decide)) rfl ?_
  refine lo_back (sk_js (Tr.refl _) [0, 1, 2] rfl) ?_
  refine lo_pv rfl rfl (sk_js (Tr.refl _) [0, 1, 2] rfl) (pv_fieldAddr (off := 2) (r := 22) Tryd.underlying27 rfl (tibool).size rfl rfl rfl) rfl ?_
  refine lo_eff rfl rfl ?_
  refine ln_store1 (i := 1) rfl rfl rfl rfl (tibool).size rfl ?_
  refine lo_last (by kernel_rfl) ?_
  refine lo_cd ?_
  refine cd_seq ?_
  refine cd_nilrow 27 5 ?_
  refine cd_sr ?_
  refine ln_pv (pv_move rfl) rfl ?_
  refine ln_pv (pv_nilCheck rfl) rfl ?_
  refine ln_pv (pv_fieldAddr (off := 5)  Tryd.underlying81 rfl (tiSl_kmsg_TxnMetadataValueTopic).size rfl rfl rfl) rfl ?_
  refine ln_pv (pv_ldr (j := 5) hrc Tryd.underlying76 rfl rfl rfl) rfl ?_
  refine ln_pv (pv_len_slice Tryd.underlying76 rfl) rfl ?_
  refine ln_pv (pv_move rfl) rfl ?_
  refine ln_cd ?_
  refine cd_block ?_
  refine cd_loop (⟨fun (z : Nat × List Value × Value) => [(0, .pointer (some ⟨b, 0, none⟩)), (2, .pointer (some ⟨b1, 0, none⟩)), (3, .pointer (some ⟨b2, 0, none⟩)), (55, .int .i64 ((els (y.at_ 4)).length : Int)), (56, .int .i64 ((z.1 : Nat) : Int))], fun (z : Nat × List Value × Value) => [.row z.2.2 27 5 ((els (y.at_ 4)).take z.1).length z.2.1, .obj b2 (.cells [.int .i64 0, .slice none 0 0, .bool false, .slice (some ⟨bL, 0, none⟩) 11 11, .slice none 0 0].toArray 27), .obj bL (.cells [.int .i64 (y.at_ 0).n, .slice none 0 0, .bool false, .slice none 0 0, .slice none 0 0, .int .i64 (IntKind.i16.wrap (y.at_ 1).n), .slice none 0 0, .bool false, .slice none 0 0, .slice none 0 0, .int .i64 (IntKind.i32.wrap (y.at_ 2).n), .slice none 0 0, .bool false, .slice none 0 0, .slice none 0 0, .int .i64 (IntKind.i8.wrap (y.at_ 3).n), .slice none 0 0, .bool false, .slice none 0 0, .slice none 0 0, .int .i64 0, .slice none 0 0, .bool ad1_4.isNone, z.2.2, .slice none 0 0, .int .i64 0, .slice none 0 0, .bool false, .slice none 0 0, .slice none 0 0, .int .i64 0, .slice none 0 0, .bool false, .slice none 0 0, .slice none 0 0, .int .i64 0, .slice none 0 0, .bool false, .slice none 0 0, .slice none 0 0, .int .i64 0, .slice none 0 0, .bool false, .slice none 0 0, .slice none 0 0, .int .i64 0, .slice none 0 0, .bool false, .slice none 0 0, .slice none 0 0, .int .i64 0, .slice none 0 0, .bool false, .slice none 0 0, .slice none 0 0].toArray 27), .obj b1 (.cells [.int .i64 0, .slice none 0 0, .bool false, .slice none 0 0, .slice none 0 0].toArray 27)], fun (z : Nat × List Value × Value) s => z.1 ≤ (els (y.at_ 4)).length ∧ RTs s (((els (y.at_ 4)).take z.1).map (tlT tSub)) z.2.1, fun (z : Nat × List Value × Value) => (els (y.at_ 4)).length - z.1⟩ : Lp (Nat × List Value × Value)) (0, [], .slice none 0 0) ?_ ?_ ?_ ?_
  · intro s0 hs0
    exact ⟨Nat.zero_le _, rfl⟩
  · exact ⟨rfl, rfl, rfl, rfl, rfl,  trivial⟩
  · exact (.cons_cons _ (.cons_cons _ (.cons_cons _ (.cons_cons _ .slnil))))
  intro z s1 hl1 hI
  obtain ⟨i_4, ys_4, vv_4⟩ := z
  dsimp only at hI ⊢
  have hrc := hrc.mv hl1
  have hrt := hrt.mv hl1
  have hMK := hMK.mv hl1
  have hRK := hRK.mv hl1
  have hLs_4 := hLs_4.mv hl1
  obtain ⟨hI_4, hIr_4⟩ := hI
  refine cd_sr ?_
  refine ln_pv (pv_lss rfl rfl) rfl ?_
  refine ln_cd ?_
  refine cd_seq ?_
  refine cd_if rfl (fun hc1 => ?_) (fun hc1 => ?_)
  · -- yes
    refine cd_skip ?_
    refine at_cd ?_
    refine cd_seq ?_
    refine cd_block ?_
    have hi_4 : i_4 < (els (y.at_ 4)).length := by omega
    have hsl_4 : ((els (y.at_ 4)).take (i_4 + 1)).length = ((els (y.at_ 4)).take i_4).length + 1 := by simp only [List.length_take]; omega
    have hil_4 : ((els (y.at_ 4)).take i_4).length = i_4 := by rw [List.length_take]; omega
    obtain ⟨gE_4, oE_4, cE_4, hadE_4, hrce_4, hme_4⟩ := hLs_4.at_ hi_4 (show esl _ _ = 3 by kernel_rfl)
    subst hadE_4
    have hme_4 := RE_part hme_4
    have htge_4 : tgT tSub (els (y.at_ 4))[i_4] := by have h := (tgF_list.1 qg4).2 _ (List.getElem_mem hi_4); rw [if_pos rfl] at h; exact h
    refine cd_sr ?_
    refine ln_pv (pv_move rfl) rfl ?_
    refine ln_pv (pv_assign rfl) rfl ?_
    refine ln_cd ?_
    refine cd_dr3 [1, 2, 3] [] [0] 1 2 [2, 3] [1, 3] mixed (by kernel_rfl) ?_
    refine lo_eff rfl rfl ?_
    refine ln_alloc tibool rfl rfl (fun b3 => ?_)
    refine lo_last (by kernel_rfl) ?_
    refine lo_nil (at_two ?_ ?_)
    · skip
      refine lo_eff rfl rfl ?_
      refine ln_store1 (i := 0) rfl rfl rfl rfl (tibool).size rfl ?_
      refine lo_last (by kernel_rfl) ?_
      refine lo_eff rfl rfl ?_
      refine ln_store1 (i := 0) rfl rfl rfl rfl (tibool).size rfl ?_
      refine lo_last (by kernel_rfl) ?_
      refine lo_eff rfl rfl ?_
      refine ln_pv (pv_ldo (i := 0) rfl Tryd.underlying4 rfl rfl rfl) rfl ?_
      refine lo_last (by kernel_rfl) ?_
      refine lo_cd ?_
      refine cd_ff rfl ?_
      refine cd_draw' [0, 2, 3, 4] [0, 1, 2, 3, 4, 5, 6, 7, 8, 9, 10, 11, 12, 17] [0, 1, 2, 3, 4, 5, 6, 7, 8, 9, 10, 11, 12, 13, 14, 15, 16, 17, 18] mixed (by kernel_rfl) ?_
      refine lo_pv rfl rfl (sk_js (Tr.refl _) [0, 2, 3, 4] rfl) (pv_fieldAddr (off := 3) (r := 3) Tryd.underlying27 rfl (tiSl_impl_Tree).size rfl rfl rfl) rfl ?_
      refine lo_pv rfl rfl (sk_js (Tr.refl _) [0, 2, 3, 4] rfl) (pv_ldo (i := 1) rfl Tryd.underlying24 rfl rfl rfl) rfl ?_
      refine lo_pv rfl rfl (sk_js (Tr.refl _) [0, 2, 3, 4] rfl) (pv_fieldAddr (off := 3) (r := 3) Tryd.underlying27 rfl (tiSl_impl_Tree).size rfl rfl rfl) rfl ?_
      refine lo_pv rfl rfl (sk_js (Tr.refl _) [0, 2, 3, 4] rfl) (pv_ldo (i := 1) rfl Tryd.underlying24 rfl rfl rfl) rfl ?_
      refine lo_pv rfl rfl (sk_js (Tr.refl _) [0, 2, 3, 4] rfl) (pv_ixN (o := 0) (i := 4) Tryd.underlying24 (tiimpl_Tree).size rfl rfl (by decide)) rfl ?_
      refine lo_pv rfl rfl (sk_js (Tr.refl _) [0, 2, 3, 4] rfl) (pv_fieldAddr (off := 3) (r := 23) Tryd.underlying27 rfl (tiSl_impl_Tree).size rfl rfl rfl) rfl ?_
      refine lo_pv rfl rfl (sk_js (Tr.refl _) [0, 2, 3, 4] rfl) (pv_ldo (i := 2) rfl Tryd.underlying24 rfl rfl rfl) rfl ?_
      refine lo_pv rfl rfl (sk_js (Tr.refl _) [0, 2, 3, 4] rfl) (pv_move rfl) rfl ?_
      refine lo_pv rfl rfl (sk_js (Tr.refl _) [0, 2, 3, 4] rfl) (pv_nilCheck rfl) rfl ?_
      refine lo_pv rfl rfl (sk_js (Tr.refl _) [0, 2, 3, 4] rfl) (pv_fieldAddr (off := 5)  Tryd.underlying81 rfl (tiSl_kmsg_TxnMetadataValueTopic).size rfl rfl rfl) rfl ?_
      refine lo_pv rfl rfl (sk_js (Tr.refl _) [0, 2, 3, 4] rfl) (pv_ldr (j := 5) hrc Tryd.underlying76 rfl rfl rfl) rfl ?_
      refine lo_pv rfl rfl (sk_js (Tr.refl _) [0, 2, 3, 4] rfl) (pv_move rfl) rfl ?_
      refine lo_pv rfl rfl (sk_js (Tr.refl _) [0, 2, 3, 4] rfl) (pv_ixN Tryd.underlying76 (tipub_kmsg_TxnMetadataValueTopic).size rfl rfl hi_4) rfl ?_
      refine lo_eff rfl rfl ?_
      refine ln_callA en_107 rfl (fun u hu => tell_TxnMetadataValueTopic u gE_4 (oE_4 + i_4 * 3) (els (y.at_ 4))[i_4] cE_4 (hrce_4.mv hu).2 (RMp.mv hme_4 hu) htge_4) rfl (fun u1 v1 ht1 hR1 => ?_)
      have hrc := hrc.mv ht1
      have hrt := hrt.mv ht1
      have hMK := hMK.mv ht1
      have hRK := hRK.mv ht1
      have hLs_4 := hLs_4.mv ht1
      have hIr_4 := hIr_4.mv ht1
      have hrce_4 := hrce_4.mv ht1
      have hme_4 := hme_4.mv ht1
      obtain ⟨dsF4, rfl, hdF4⟩ := hR1
      refine lo_back (sk_js ht1 [0, 2, 3, 4] rfl) ?_
      refine lo_eff rfl rfl ?_
      refine ln_lit (vs := [_]) Tryd.underlying24 tiimpl_Tree rfl (by decide) rfl rfl rfl (by simp [partsOk, Value.cells, hdF4.len]; try exact .inl rfl) rfl rfl (fun b4 => ?_)
      refine lo_back (sk_js ht1 [1, 3, 4, 5] rfl) ?_
      refine lo_eff rfl rfl ?_
      refine ln_append (i := 2) rfl Tryd.underlying24 tiimpl_Tree rfl (by decide) rfl rfl (src_obj (j := 0) rfl (by simp [flat, Value.cells, hdF4.len]) (List.all_eq_true.2 (by simpa [flat, Value.cells] using hdF4.cells))) (by rw [hil_4]; first | omega | (simp only [maxLen]; omega)) (by rw [hil_4]; first | omega | (simp only [maxLen]; omega)) rfl (k' := ((els (y.at_ 4)).take (i_4 + 1)).length) (xs' := ys_4 ++ dsF4) hsl_4.symm (by simp [flat, Value.cells]) (fun v2 hv2 => ?_)
      refine lo_back (sk_js ht1 [1, 3, 4, 5] rfl) ?_
      refine lo_eff rfl rfl ?_
      refine ln_pv (pv_ixN (o := 0) (i := 4) Tryd.underlying24 (tiimpl_Tree).size rfl rfl (by decide)) rfl ?_
      refine lo_back (sk_js ht1 [1, 3, 4, 5] rfl) ?_
      refine lo_pv rfl rfl (sk_js ht1 [1, 3, 4, 5] rfl) (pv_fieldAddr (off := 3) (r := 23) Tryd.underlying27 rfl (tiSl_impl_Tree).size rfl rfl rfl) rfl ?_
      refine lo_eff rfl rfl ?_
      refine ln_store1 (i := 4) rfl rfl rfl hv2.2 (tiSl_impl_Tree).size rfl ?_
      refine lo_last (by kernel_rfl) ?_
      refine lo_nil ?_
      refine at_cd ?_
      refine cd_region ?_
      refine ln_pv (pv_add' rfl rfl (wrap_succ (by omega))) rfl ?_
      refine ln_pv (pv_move rfl) rfl ?_
      refine ln_nil ?_
      refine at_rnd (i_4 + 1, ys_4 ++ dsF4, v2) (hl1.trans ht1) ?_ ?_ ⟨rfl, rfl, rfl, rfl, rfl,  trivial⟩ (.cons _ (.cons _ (.cons_cons _ (.cons_cons _ (.cons_cons _ (.cons_cons _ .slnil))))))
      · intro s9 hs9
        exact ⟨by dsimp only; omega, RTs_snoc hi_4 (RTs.mv hIr_4 hs9) (RT.mv hdF4 hs9)⟩
      · dsimp only; omega
    · skip
      refine lo_eff rfl rfl ?_
      refine ln_store1 (i := 0) rfl rfl rfl rfl (tibool).size rfl ?_
      refine lo_last (by kernel_rfl) ?_
      refine lo_eff rfl rfl ?_
      refine ln_store1 (i := 0) rfl rfl rfl rfl (tibool).size rfl ?_
      refine lo_last (by kernel_rfl) ?_
      refine lo_eff rfl rfl ?_
      refine ln_pv (pv_ldo (i := 0) rfl Tryd.underlying4 rfl rfl rfl) rfl ?_
      refine lo_last (by kernel_rfl) ?_
      refine lo_cd ?_
      refine cd_tt rfl ?_
      refine cd_rowshape (i := 1) rfl (fun adR_4 cpR_4 hvR_4 hleR_4 hposR_4 => ?_)
      subst hvR_4
      refine cd_dr2 [0, 2, 3, 4] [0, 1, 2, 3, 4, 5, 6, 7, 8, 9, 10, 12, 16] [0, 1, 2, 3, 4, 5, 6, 7, 8, 9, 10, 12] 11 13 [13, 14, 15, 16, 17] [11, 14, 15, 16, 17] mixed (by kernel_rfl) ?_
      refine lo_pv rfl rfl (sk_js (Tr.refl _) [0, 2, 3, 4] rfl) (pv_fieldAddr (off := 3) (r := 3) Tryd.underlying27 rfl (tiSl_impl_Tree).size rfl rfl rfl) rfl ?_
      refine lo_pv rfl rfl (sk_js (Tr.refl _) [0, 2, 3, 4] rfl) (pv_ldo (i := 1) rfl Tryd.underlying24 rfl rfl rfl) rfl ?_
      refine lo_pv rfl rfl (sk_js (Tr.refl _) [0, 2, 3, 4] rfl) (pv_ixN (o := 0) (i := 4) Tryd.underlying24 (tiimpl_Tree).size rfl rfl (by decide)) rfl ?_
      refine lo_pv rfl rfl (sk_js (Tr.refl _) [0, 2, 3, 4] rfl) (pv_fieldAddr (off := 3) (r := 23) Tryd.underlying27 rfl (tiSl_impl_Tree).size rfl rfl rfl) rfl ?_
      refine lo_pv rfl rfl (sk_js (Tr.refl _) [0, 2, 3, 4] rfl) (pv_ldo (i := 2) rfl Tryd.underlying24 rfl rfl rfl) rfl ?_
      refine lo_pv rfl rfl (sk_js (Tr.refl _) [0, 2, 3, 4] rfl) (pv_move rfl) rfl ?_
      refine lo_pv rfl rfl (sk_js (Tr.refl _) [0, 2, 3, 4] rfl) (pv_nilCheck rfl) rfl ?_
      refine lo_pv rfl rfl (sk_js (Tr.refl _) [0, 2, 3, 4] rfl) (pv_fieldAddr (off := 5)  Tryd.underlying81 rfl (tiSl_kmsg_TxnMetadataValueTopic).size rfl rfl rfl) rfl ?_
      refine lo_pv rfl rfl (sk_js (Tr.refl _) [0, 2, 3, 4] rfl) (pv_ldr (j := 5) hrc Tryd.underlying76 rfl rfl rfl) rfl ?_
      refine lo_pv rfl rfl (sk_js (Tr.refl _) [0, 2, 3, 4] rfl) (pv_move rfl) rfl ?_
      refine lo_pv rfl rfl (sk_js (Tr.refl _) [0, 2, 3, 4] rfl) (pv_ixN Tryd.underlying76 (tipub_kmsg_TxnMetadataValueTopic).size rfl rfl hi_4) rfl ?_
      refine lo_pv rfl rfl (sk_js (Tr.refl _) [0, 2, 3, 4] rfl) (pv_len_slice Tryd.underlying24 rfl) rfl ?_
      refine lo_nil (at_two ?_ ?_)
      · skip
        refine lo_eff rfl rfl ?_
        refine ln_callA en_107 rfl (fun u hu => tell_TxnMetadataValueTopic u gE_4 (oE_4 + i_4 * 3) (els (y.at_ 4))[i_4] cE_4 (hrce_4.mv hu).2 (RMp.mv hme_4 hu) htge_4) rfl (fun u3 v3 ht3 hR3 => ?_)
        have hrc := hrc.mv ht3
        have hrt := hrt.mv ht3
        have hMK := hMK.mv ht3
        have hRK := hRK.mv ht3
        have hLs_4 := hLs_4.mv ht3
        have hIr_4 := hIr_4.mv ht3
        have hrce_4 := hrce_4.mv ht3
        have hme_4 := hme_4.mv ht3
        obtain ⟨dsF4, rfl, hdF4⟩ := hR3
        refine lo_back (sk_js ht3 [0, 2, 3, 4] rfl) ?_
        refine lo_eff rfl rfl ?_
        refine ln_lit (vs := [_]) Tryd.underlying24 tiimpl_Tree rfl (by decide) rfl rfl rfl rfl rfl rfl (fun b5 => ?_)
        refine lo_back (sk_js ht3 [1, 3, 4, 5] rfl) ?_
        refine lo_eff rfl rfl ?_
        refine ln_append (i := 2) rfl Tryd.underlying24 tiimpl_Tree rfl (by decide) rfl rfl (src_obj (j := 0) rfl rfl rfl) (by rw [hil_4]; first | omega | (simp only [maxLen]; omega)) (by rw [hil_4]; first | omega | (simp only [maxLen]; omega)) rfl (k' := ((els (y.at_ 4)).take (i_4 + 1)).length) (xs' := ys_4 ++ [.int .i64 0, .slice none 0 0, .bool false, .slice none 0 0, .slice none 0 0]) hsl_4.symm (by simp [flat, Value.cells]) (fun v4 hv4 => ?_)
        refine lo_back (sk_js ht3 [1, 3, 4, 5] rfl) ?_
        refine lo_eff rfl rfl ?_
        refine ln_pv (pv_ixN (o := 0) (i := 4) Tryd.underlying24 (tiimpl_Tree).size rfl rfl (by decide)) rfl ?_
        refine lo_back (sk_js ht3 [1, 3, 4, 5] rfl) ?_
        refine lo_pv rfl rfl (sk_js ht3 [1, 3, 4, 5] rfl) (pv_fieldAddr (off := 3) (r := 23) Tryd.underlying27 rfl (tiSl_impl_Tree).size rfl rfl rfl) rfl ?_
        refine lo_eff rfl rfl ?_
        refine ln_store1 (i := 4) rfl rfl rfl hv4.2 (tiSl_impl_Tree).size rfl ?_
        refine lo_last (by kernel_rfl) ?_
        refine lo_cd ?_
        refine cd_region ?_
        refine ln_rowshp (i := 2) rfl (fun ad2_4 cp2_4 hv2_4 hle2_4 hpos2_4 => ?_)
        subst hv2_4
        obtain ⟨g2_4, rfl⟩ := hpos2_4 (by omega)
        refine ln_pv (pv_ixN Tryd.underlying24 tiimpl_Tree.size rfl rfl (by omega)) rfl ?_
        refine ln_storeR (i := 2) (vs := dsF4) (xs' := ys_4 ++ dsF4) rfl rfl rfl rfl (by rw [show List.length _ = 5 from hdF4.len]; exact tiimpl_Tree.size) (by have h5 : List.length (dsF4) = 5 := hdF4.len; omega) hdF4.cells (wr_end (show 5 = List.length _ from Eq.symm hdF4.len) (by have h6 := (RTs.len5 hIr_4); simp only [List.length_map] at h6; omega)) ?_
        refine ln_nil ?_
        refine at_cd ?_
        refine cd_region ?_
        refine ln_pv (pv_add' rfl rfl (wrap_succ (by omega))) rfl ?_
        refine ln_pv (pv_move rfl) rfl ?_
        refine ln_nil ?_
        refine at_rnd (i_4 + 1, ys_4 ++ dsF4, (.slice (some ⟨g2_4, 0, none⟩) ((els (y.at_ 4)).take (i_4 + 1)).length cp2_4)) (hl1.trans ht3) ?_ ?_ ⟨rfl, rfl, rfl, rfl, rfl,  trivial⟩ (.cons _ (.cons _ (.cons_cons _ (.cons_cons _ (.cons_cons _ (.cons_cons _ .slnil))))))
        · intro s9 hs9
          exact ⟨by dsimp only; omega, RTs_snoc hi_4 (RTs.mv hIr_4 hs9) (RT.mv hdF4 hs9)⟩
        · dsimp only; omega
      · skip
        refine lo_eff rfl rfl ?_
        refine ln_lit (vs := [_]) Tryd.underlying24 tiimpl_Tree rfl (by decide) rfl rfl rfl rfl rfl rfl (fun b6 => ?_)
        refine lo_back (sk_js (Tr.refl _) [1, 3, 4, 5] rfl) ?_
        refine lo_eff rfl rfl ?_
        refine ln_callA en_107 rfl (fun u hu => tell_TxnMetadataValueTopic u gE_4 (oE_4 + i_4 * 3) (els (y.at_ 4))[i_4] cE_4 (hrce_4.mv hu).2 (RMp.mv hme_4 hu) htge_4) rfl (fun u6 v6 ht6 hR6 => ?_)
        have hrc := hrc.mv ht6
        have hrt := hrt.mv ht6
        have hMK := hMK.mv ht6
        have hRK := hRK.mv ht6
        have hLs_4 := hLs_4.mv ht6
        have hIr_4 := hIr_4.mv ht6
        have hrce_4 := hrce_4.mv ht6
        have hme_4 := hme_4.mv ht6
        obtain ⟨dsF4, rfl, hdF4⟩ := hR6
        refine lo_back (sk_js ht6 [1, 3, 4, 5] rfl) ?_
        refine lo_eff rfl rfl ?_
        refine ln_append (i := 2) rfl Tryd.underlying24 tiimpl_Tree rfl (by decide) rfl rfl (src_obj (j := 0) rfl rfl rfl) (by rw [hil_4]; first | omega | (simp only [maxLen]; omega)) (by rw [hil_4]; first | omega | (simp only [maxLen]; omega)) rfl (k' := ((els (y.at_ 4)).take (i_4 + 1)).length) (xs' := ys_4 ++ [.int .i64 0, .slice none 0 0, .bool false, .slice none 0 0, .slice none 0 0]) hsl_4.symm (by simp [flat, Value.cells]) (fun v7 hv7 => ?_)
        refine lo_back (sk_js ht6 [1, 3, 4, 5] rfl) ?_
        refine lo_eff rfl rfl ?_
        refine ln_pv (pv_ixN (o := 0) (i := 4) Tryd.underlying24 (tiimpl_Tree).size rfl rfl (by decide)) rfl ?_
        refine lo_back (sk_js ht6 [1, 3, 4, 5] rfl) ?_
        refine lo_pv rfl rfl (sk_js ht6 [1, 3, 4, 5] rfl) (pv_fieldAddr (off := 3) (r := 23) Tryd.underlying27 rfl (tiSl_impl_Tree).size rfl rfl rfl) rfl ?_
        refine lo_eff rfl rfl ?_
        refine ln_store1 (i := 4) rfl rfl rfl hv7.2 (tiSl_impl_Tree).size rfl ?_
        refine lo_last (by kernel_rfl) ?_
        refine lo_cd ?_
        refine cd_region ?_
        refine ln_rowshp (i := 2) rfl (fun ad2_4 cp2_4 hv2_4 hle2_4 hpos2_4 => ?_)
        subst hv2_4
        obtain ⟨g2_4, rfl⟩ := hpos2_4 (by omega)
        refine ln_pv (pv_ixN Tryd.underlying24 tiimpl_Tree.size rfl rfl (by omega)) rfl ?_
        refine ln_storeR (i := 2) (vs := dsF4) (xs' := ys_4 ++ dsF4) rfl rfl rfl rfl (by rw [show List.length _ = 5 from hdF4.len]; exact tiimpl_Tree.size) (by have h5 : List.length (dsF4) = 5 := hdF4.len; omega) hdF4.cells (wr_end (show 5 = List.length _ from Eq.symm hdF4.len) (by have h6 := (RTs.len5 hIr_4); simp only [List.length_map] at h6; omega)) ?_
        refine ln_nil ?_
        refine at_cd ?_
        refine cd_region ?_
        refine ln_pv (pv_add' rfl rfl (wrap_succ (by omega))) rfl ?_
        refine ln_pv (pv_move rfl) rfl ?_
        refine ln_nil ?_
        refine at_rnd (i_4 + 1, ys_4 ++ dsF4, (.slice (some ⟨g2_4, 0, none⟩) ((els (y.at_ 4)).take (i_4 + 1)).length cp2_4)) (hl1.trans ht6) ?_ ?_ ⟨rfl, rfl, rfl, rfl, rfl,  trivial⟩ (.cons _ (.cons _ (.cons_cons _ (.cons_cons _ (.cons_cons _ (.cons_cons _ .slnil))))))
        · intro s9 hs9
          exact ⟨by dsimp only; omega, RTs_snoc hi_4 (RTs.mv hIr_4 hs9) (RT.mv hdF4 hs9)⟩
        · dsimp only; omega
  · -- no
    refine cd_exit rfl ?_
    refine at_cd ?_
    have hq_4 : i_4 = (els (y.at_ 4)).length := by omega
    subst hq_4
    rw [List.take_length] at hIr_4
    refine cd_row (i := 0) (m' := ((els (y.at_ 4)).map (tlT tSub)).length) (xs' := ys_4) rfl (by simp) rfl ?_
    refine cd_dr' [1, 2, 3] [0, 1, 2, 3, 4, 5, 6, 7] [0, 1, 2, 3, 4, 5, 6, 7, 8] mixed (by kernel_rfl) ?_
    refine lo_pv rfl rfl (sk_js (Tr.refl _) [1, 2, 3] rfl) (pv_fieldAddr (off := 3) (r := 3) Tryd.underlying27 rfl (tiSl_impl_Tree).size rfl rfl rfl) rfl ?_
    refine lo_pv rfl rfl (sk_js (Tr.refl _) [1, 2, 3] rfl) (pv_ldo (i := 0) rfl Tryd.underlying24 rfl rfl rfl) rfl ?_
    refine lo_pv rfl rfl (sk_js (Tr.refl _) [1, 2, 3] rfl) (pv_move rfl) rfl ?_
    refine lo_pv rfl rfl (sk_js (Tr.refl _) [1, 2, 3] rfl) (pv_nilCheck rfl) rfl ?_
    refine lo_pv rfl rfl (sk_js (Tr.refl _) [1, 2, 3] rfl) (pv_fieldAddr (off := 6)  Tryd.underlying81 rfl (tiint64).size rfl rfl rfl) rfl ?_
    refine lo_pv rfl rfl (sk_js (Tr.refl _) [1, 2, 3] rfl) (pv_ldr (j := 6) hrc Tryd.underlying2 rfl rfl rfl) rfl ?_
    refine lo_pv rfl rfl (sk_js (Tr.refl _) [1, 2, 3] rfl) (pv_struct [(0, 1), (1, 1), (2, 1), (3, 1), (4, 1)] (l := [_, _, _, _, _]) rfl Tryd.underlying27 tiimpl_Tree (by kernel_rfl) rfl rfl) rfl ?_
    refine lo_pv rfl rfl (sk_js (Tr.refl _) [1, 2, 3] rfl) (pv_ixN (o := 0) (i := 5) Tryd.underlying24 (tiimpl_Tree).size rfl rfl (by decide)) rfl ?_
    refine lo_eff rfl rfl ?_
    refine ln_store (i := 2) (vs := [_, _, _, _, _]) rfl rfl rfl rfl (tiimpl_Tree).size rfl rfl rfl ?_
    refine lo_last (by kernel_rfl) ?_
    refine lo_cd ?_
    refine cd_dr' [1, 2, 3] [0, 1, 2, 3, 4, 5, 6, 7] [0, 1, 2, 3, 4, 5, 6, 7, 8] mixed (by kernel_rfl) ?_
    refine lo_pv rfl rfl (sk_js (Tr.refl _) [1, 2, 3] rfl) (pv_fieldAddr (off := 3) (r := 3) Tryd.underlying27 rfl (tiSl_impl_Tree).size rfl rfl rfl) rfl ?_
    refine lo_pv rfl rfl (sk_js (Tr.refl _) [1, 2, 3] rfl) (pv_ldo (i := 0) rfl Tryd.underlying24 rfl rfl rfl) rfl ?_
    refine lo_pv rfl rfl (sk_js (Tr.refl _) [1, 2, 3] rfl) (pv_move rfl) rfl ?_
    refine lo_pv rfl rfl (sk_js (Tr.refl _) [1, 2, 3] rfl) (pv_nilCheck rfl) rfl ?_
    refine lo_pv rfl rfl (sk_js (Tr.refl _) [1, 2, 3] rfl) (pv_fieldAddr (off := 7)  Tryd.underlying81 rfl (tiint64).size rfl rfl rfl) rfl ?_
    refine lo_pv rfl rfl (sk_js (Tr.refl _) [1, 2, 3] rfl) (pv_ldr (j := 7) hrc Tryd.underlying2 rfl rfl rfl) rfl ?_
    refine lo_pv rfl rfl (sk_js (Tr.refl _) [1, 2, 3] rfl) (pv_struct [(0, 1), (1, 1), (2, 1), (3, 1), (4, 1)] (l := [_, _, _, _, _]) rfl Tryd.underlying27 tiimpl_Tree (by kernel_rfl) rfl rfl) rfl ?_
    refine lo_pv rfl rfl (sk_js (Tr.refl _) [1, 2, 3] rfl) (pv_ixN (o := 0) (i := 6) Tryd.underlying24 (tiimpl_Tree).size rfl rfl (by decide)) rfl ?_
    refine lo_eff rfl rfl ?_
    refine ln_store (i := 2) (vs := [_, _, _, _, _]) rfl rfl rfl rfl (tiimpl_Tree).size rfl rfl rfl ?_
    refine lo_last (by kernel_rfl) ?_
    refine lo_cd ?_
    refine cd_dr' [1, 2, 3] [0, 1, 2, 3, 4, 5, 6, 7] [0, 1, 2, 3, 4, 5, 6, 7, 8] mixed (by kernel_rfl) ?_
    refine lo_pv rfl rfl (sk_js (Tr.refl _) [1, 2, 3] rfl) (pv_fieldAddr (off := 3) (r := 3) Tryd.underlying27 rfl (tiSl_impl_Tree).size rfl rfl rfl) rfl ?_
    refine lo_pv rfl rfl (sk_js (Tr.refl _) [1, 2, 3] rfl) (pv_ldo (i := 0) rfl Tryd.underlying24 rfl rfl rfl) rfl ?_
    refine lo_pv rfl rfl (sk_js (Tr.refl _) [1, 2, 3] rfl) (pv_move rfl) rfl ?_
    refine lo_pv rfl rfl (sk_js (Tr.refl _) [1, 2, 3] rfl) (pv_nilCheck rfl) rfl ?_
    refine lo_pv rfl rfl (sk_js (Tr.refl _) [1, 2, 3] rfl) (pv_fieldAddr (off := 8)  Tryd.underlying81 rfl (tiint64).size rfl rfl rfl) rfl ?_
    refine lo_pv rfl rfl (sk_js (Tr.refl _) [1, 2, 3] rfl) (pv_ldr (j := 8) hrc Tryd.underlying2 rfl rfl rfl) rfl ?_
    refine lo_pv rfl rfl (sk_js (Tr.refl _) [1, 2, 3] rfl) (pv_struct [(0, 1), (1, 1), (2, 1), (3, 1), (4, 1)] (l := [_, _, _, _, _]) rfl Tryd.underlying27 tiimpl_Tree (by kernel_rfl) rfl rfl) rfl ?_
    refine lo_pv rfl rfl (sk_js (Tr.refl _) [1, 2, 3] rfl) (pv_ixN (o := 0) (i := 7) Tryd.underlying24 (tiimpl_Tree).size rfl rfl (by decide)) rfl ?_
    refine lo_eff rfl rfl ?_
    refine ln_store (i := 2) (vs := [_, _, _, _, _]) rfl rfl rfl rfl (tiimpl_Tree).size rfl rfl rfl ?_
    refine lo_last (by kernel_rfl) ?_
    refine lo_cd ?_
    refine cd_dr' [1, 2, 3] [0, 1, 2, 3, 4, 5, 6, 7] [0, 1, 2, 3, 4, 5, 6, 7, 8] mixed (by kernel_rfl) ?_
    refine lo_pv rfl rfl (sk_js (Tr.refl _) [1, 2, 3] rfl) (pv_fieldAddr (off := 3) (r := 3) Tryd.underlying27 rfl (tiSl_impl_Tree).size rfl rfl rfl) rfl ?_
    refine lo_pv rfl rfl (sk_js (Tr.refl _) [1, 2, 3] rfl) (pv_ldo (i := 0) rfl Tryd.underlying24 rfl rfl rfl) rfl ?_
    refine lo_pv rfl rfl (sk_js (Tr.refl _) [1, 2, 3] rfl) (pv_move rfl) rfl ?_
    refine lo_pv rfl rfl (sk_js (Tr.refl _) [1, 2, 3] rfl) (pv_nilCheck rfl) rfl ?_
    refine lo_pv rfl rfl (sk_js (Tr.refl _) [1, 2, 3] rfl) (pv_fieldAddr (off := 9)  Tryd.underlying81 rfl (tiint64).size rfl rfl rfl) rfl ?_
    refine lo_pv rfl rfl (sk_js (Tr.refl _) [1, 2, 3] rfl) (pv_ldr (j := 9) hrc Tryd.underlying2 rfl rfl rfl) rfl ?_
    refine lo_pv rfl rfl (sk_js (Tr.refl _) [1, 2, 3] rfl) (pv_struct [(0, 1), (1, 1), (2, 1), (3, 1), (4, 1)] (l := [_, _, _, _, _]) rfl Tryd.underlying27 tiimpl_Tree (by kernel_rfl) rfl rfl) rfl ?_
    refine lo_pv rfl rfl (sk_js (Tr.refl _) [1, 2, 3] rfl) (pv_ixN (o := 0) (i := 8) Tryd.underlying24 (tiimpl_Tree).size rfl rfl (by decide)) rfl ?_
    refine lo_eff rfl rfl ?_
    refine ln_store (i := 2) (vs := [_, _, _, _, _]) rfl rfl rfl rfl (tiimpl_Tree).size rfl rfl rfl ?_
    refine lo_last (by kernel_rfl) ?_
    refine lo_cd ?_
    refine cd_dr' [1, 2, 3] [0, 1, 2, 3, 4, 5, 6, 7, 8] [0, 1, 2, 3, 4, 5, 6, 7, 8, 9] mixed (by kernel_rfl) ?_
    refine lo_pv rfl rfl (sk_js (Tr.refl _) [1, 2, 3] rfl) (pv_fieldAddr (off := 3) (r := 3) Tryd.underlying27 rfl (tiSl_impl_Tree).size rfl rfl rfl) rfl ?_
    refine lo_pv rfl rfl (sk_js (Tr.refl _) [1, 2, 3] rfl) (pv_ldo (i := 0) rfl Tryd.underlying24 rfl rfl rfl) rfl ?_
    refine lo_pv rfl rfl (sk_js (Tr.refl _) [1, 2, 3] rfl) (pv_move rfl) rfl ?_
    refine lo_pv rfl rfl (sk_js (Tr.refl _) [1, 2, 3] rfl) (pv_nilCheck rfl) rfl ?_
    refine lo_pv rfl rfl (sk_js (Tr.refl _) [1, 2, 3] rfl) (pv_fieldAddr (off := 10)  Tryd.underlying81 rfl (tiint16).size rfl rfl rfl) rfl ?_
    refine lo_pv rfl rfl (sk_js (Tr.refl _) [1, 2, 3] rfl) (pv_ldr (j := 10) hrc Tryd.underlying45 rfl rfl rfl) rfl ?_
    refine lo_pv rfl rfl (sk_js (Tr.refl _) [1, 2, 3] rfl) (pv_conv' Tryd.underlying45 Tryd.underlying2 rfl (w64_i16 _)) rfl ?_
    refine lo_pv rfl rfl (sk_js (Tr.refl _) [1, 2, 3] rfl) (pv_struct [(0, 1), (1, 1), (2, 1), (3, 1), (4, 1)] (l := [_, _, _, _, _]) rfl Tryd.underlying27 tiimpl_Tree (by kernel_rfl) rfl rfl) rfl ?_
    refine lo_pv rfl rfl (sk_js (Tr.refl _) [1, 2, 3] rfl) (pv_ixN (o := 0) (i := 9) Tryd.underlying24 (tiimpl_Tree).size rfl rfl (by decide)) rfl ?_
    refine lo_eff rfl rfl ?_
    refine ln_store (i := 2) (vs := [_, _, _, _, _]) rfl rfl rfl rfl (tiimpl_Tree).size rfl rfl rfl ?_
    refine lo_last (by kernel_rfl) ?_
    refine lo_cd ?_
    refine cd_dr' [1, 2, 3] [0, 1, 2, 3, 4, 5, 6, 7, 8] [0, 1, 2, 3, 4, 5, 6, 7, 8, 9] mixed (by kernel_rfl) ?_
    refine lo_pv rfl rfl (sk_js (Tr.refl _) [1, 2, 3] rfl) (pv_fieldAddr (off := 3) (r := 3) Tryd.underlying27 rfl (tiSl_impl_Tree).size rfl rfl rfl) rfl ?_
    refine lo_pv rfl rfl (sk_js (Tr.refl _) [1, 2, 3] rfl) (pv_ldo (i := 0) rfl Tryd.underlying24 rfl rfl rfl) rfl ?_
    refine lo_pv rfl rfl (sk_js (Tr.refl _) [1, 2, 3] rfl) (pv_move rfl) rfl ?_
    refine lo_pv rfl rfl (sk_js (Tr.refl _) [1, 2, 3] rfl) (pv_nilCheck rfl) rfl ?_
    refine lo_pv rfl rfl (sk_js (Tr.refl _) [1, 2, 3] rfl) (pv_fieldAddr (off := 11)  Tryd.underlying81 rfl (tiint16).size rfl rfl rfl) rfl ?_
    refine lo_pv rfl rfl (sk_js (Tr.refl _) [1, 2, 3] rfl) (pv_ldr (j := 11) hrc Tryd.underlying45 rfl rfl rfl) rfl ?_
    refine lo_pv rfl rfl (sk_js (Tr.refl _) [1, 2, 3] rfl) (pv_conv' Tryd.underlying45 Tryd.underlying2 rfl (w64_i16 _)) rfl ?_
    refine lo_pv rfl rfl (sk_js (Tr.refl _) [1, 2, 3] rfl) (pv_struct [(0, 1), (1, 1), (2, 1), (3, 1), (4, 1)] (l := [_, _, _, _, _]) rfl Tryd.underlying27 tiimpl_Tree (by kernel_rfl) rfl rfl) rfl ?_
    refine lo_pv rfl rfl (sk_js (Tr.refl _) [1, 2, 3] rfl) (pv_ixN (o := 0) (i := 10) Tryd.underlying24 (tiimpl_Tree).size rfl rfl (by decide)) rfl ?_
    refine lo_eff rfl rfl ?_
    refine ln_store (i := 2) (vs := [_, _, _, _, _]) rfl rfl rfl rfl (tiimpl_Tree).size rfl rfl rfl ?_
    refine lo_last (by kernel_rfl) ?_
    refine lo_cd ?_
    refine cd_sr ?_
    refine ln_pv (pv_move rfl) rfl ?_
    refine ln_pv (pv_nilCheck rfl) rfl ?_
    refine ln_pv (pv_fieldAddr (off := 12)  Tryd.underlying81 rfl (tipub_kmsg_Tags).size rfl rfl rfl) rfl ?_
    refine ln_pv (pv_makeFunc (vf := #[]) (vc := #[.pointer (some ⟨b2, 0, none⟩)]) (by rw [List.map_toArray, List.map_toArray]; rfl) (by rw [List.map_toArray, List.map_toArray]; rfl)) rfl ?_
    refine ln_nilrow 58 2 ?_
    have hst := tclo_TxnMetadataValue b2 (.int .i64 0) (.slice none 0 0) (.bool false) (.slice (some ⟨bL, 0, none⟩) 11 11) y.u hkeys hlens (Nat.le_of_lt hlen)
    have hEa := fun (u : Vw) hr hm hk h0 hok hav hnd => tags_EachG (fun z => TA b2 (.int .i64 0) (.slice none 0 0) (.bool false) (.slice (some ⟨bL, 0, none⟩) 11 11) z) TB (TInv y.u) 108 (.pointer (some ⟨b2, 0, none⟩)) en_108 u b (0 + 12) mv1 lt y.u (.slice none 0 0, [], 0) hr hm hk hsrt (by omega) h0 hst hok hav hnd
    refine ln_callH (E := [TA b2 (.int .i64 0) (.slice none 0 0) (.bool false) (.slice (some ⟨bL, 0, none⟩) 11 11) (.slice none 0 0, [], 0), TB (.slice none 0 0, [], 0)]) (H0 := [_, _, _]) (List.perm_middle (l₁ := [_, _])) en_82 rfl (fun u hu hok hav hnd => hEa u (RC1.mv hrt hu) (hMK.mv hu) (RKp.mv hu hRK) (fun w hw => ⟨rfl, by rw [List.take_zero]; rfl⟩) hok hav hnd) rfl ?_
    rintro u9 v9 _ ht9 ⟨xu9, ⟨⟨vU, csU, kU⟩, rfl, hzU⟩, hxu9⟩
    obtain ⟨hkU, hRU⟩ := (hzU.mv hxu9).get
    dsimp only at hkU hRU
    subst hkU
    rw [List.take_length] at hRU
    have hrc := hrc.mv ht9
    have hrt := hrt.mv ht9
    have hMK := hMK.mv ht9
    have hRK := hRK.mv ht9
    have hLs_4 := hLs_4.mv ht9
    have hIr_4 := hIr_4.mv ht9
    refine ln_cd ?_
    refine cd_sr ?_
    refine ln_pv (pv_fieldAddr (off := 4) (r := 4) Tryd.underlying27 rfl (tiSl_impl_Tag).size rfl rfl rfl) rfl ?_
    refine ln_pv (pv_ldo (i := 0) rfl Tryd.underlying25 rfl rfl rfl) rfl ?_
    refine ln_callT (i := 1) en_84 rfl rfl (fun u hu hok hav => impl_sorted u vU y.u csU hsrt (by omega) (RUs.cells hRU).1 (fun i hi => by obtain ⟨c1, tv, c3, he, hc, _, _⟩ := RUs.at_ hi hRU; rw [he, List.append_assoc, List.getElem?_append_right (by omega), hc]; simp) hok hav) rfl ?_
    rintro u10 v10 _ ht10 ⟨_, rfl, _⟩
    have hrc := hrc.mv ht10
    have hrt := hrt.mv ht10
    have hMK := hMK.mv ht10
    have hRK := hRK.mv ht10
    have hLs_4 := hLs_4.mv ht10
    have hIr_4 := hIr_4.mv ht10
    have hRU := hRU.mv ht10
    refine ln_cd ?_
    refine cd_rowone (i := 1) rfl (fun hoU => ?_)
    refine cd_sr ?_
    refine ln_pv (pv_ldO (i := 0) rfl Tryd.underlying27 rfl (tiimpl_Tree).size rfl rfl) rfl ?_
    refine ln_storeW (i := 4) rfl rfl rfl rfl (tiimpl_Tree).size rfl (by simp [hoU]) ?_
    refine ln_cd ?_
    refine cd_ret ?_
    refine at_retC (i := 4) rfl rfl rfl Tryd.underlying27 rfl tiimpl_Tree.size rfl (fun w hS => ?_)
    have hRTs : RTs hS.fin [.mk (y.at_ 0).n [] false [] [], .mk (IntKind.i16.wrap (y.at_ 1).n) [] false [] [], .mk (IntKind.i32.wrap (y.at_ 2).n) [] false [] [], .mk (IntKind.i8.wrap (y.at_ 3).n) [] false [] [], .mk 0 [] (y.at_ 4).z ((els (y.at_ 4)).map (tlT tSub)) [], .mk (y.at_ 5).n [] false [] [], .mk (y.at_ 6).n [] false [] [], .mk (y.at_ 7).n [] false [] [], .mk (y.at_ 8).n [] false [] [], .mk (IntKind.i16.wrap (y.at_ 9).n) [] false [] [], .mk (IntKind.i16.wrap (y.at_ 10).n) [] false [] []] _ := ⟨[.int .i64 (y.at_ 0).n, .slice none 0 0, .bool false, .slice none 0 0, .slice none 0 0], _, rfl, RT_num hI1_0, ⟨[.int .i64 (IntKind.i16.wrap (y.at_ 1).n), .slice none 0 0, .bool false, .slice none 0 0, .slice none 0 0], _, rfl, RT_num (I64_i16 _), ⟨[.int .i64 (IntKind.i32.wrap (y.at_ 2).n), .slice none 0 0, .bool false, .slice none 0 0, .slice none 0 0], _, rfl, RT_num (I64_i32 _), ⟨[.int .i64 (IntKind.i8.wrap (y.at_ 3).n), .slice none 0 0, .bool false, .slice none 0 0, .slice none 0 0], _, rfl, RT_num (I64_i8 _), ⟨[_, _, _, _, _], _, rfl, RT_list hnil1_4 rfl (row_rs hS (j := 2) rfl (RTs.cells hIr_4)) (RTs.mv hIr_4 hS.trFin), ⟨[.int .i64 (y.at_ 5).n, .slice none 0 0, .bool false, .slice none 0 0, .slice none 0 0], _, rfl, RT_num hI1_5, ⟨[.int .i64 (y.at_ 6).n, .slice none 0 0, .bool false, .slice none 0 0, .slice none 0 0], _, rfl, RT_num hI1_6, ⟨[.int .i64 (y.at_ 7).n, .slice none 0 0, .bool false, .slice none 0 0, .slice none 0 0], _, rfl, RT_num hI1_7, ⟨[.int .i64 (y.at_ 8).n, .slice none 0 0, .bool false, .slice none 0 0, .slice none 0 0], _, rfl, RT_num hI1_8, ⟨[.int .i64 (IntKind.i16.wrap (y.at_ 9).n), .slice none 0 0, .bool false, .slice none 0 0, .slice none 0 0], _, rfl, RT_num (I64_i16 _), ⟨[.int .i64 (IntKind.i16.wrap (y.at_ 10).n), .slice none 0 0, .bool false, .slice none 0 0, .slice none 0 0], _, rfl, RT_num (I64_i16 _), rfl⟩⟩⟩⟩⟩⟩⟩⟩⟩⟩⟩
    refine ⟨_, rfl, RT.shut ⟨_, _, _, rfl, (show I64 0 from by unfold I64; omega), RS_nil 1, ⟨_, obj_rsS hS (i := 3) (sz := 5) (m := 11) rfl rfl (RTs.cells hRTs), hRTs⟩, ⟨csU, row_rs hS (j := 1) rfl (RUs.cells hRU).2, RUs.mv hS.trFin hRU⟩⟩⟩
end K
end Go.Proofs.YtjjfpdofkdolnaaDoor
