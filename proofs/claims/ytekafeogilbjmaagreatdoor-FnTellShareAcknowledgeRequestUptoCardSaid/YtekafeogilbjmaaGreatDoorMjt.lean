import Derived.Test.YtekafeogilbjmaaGreatDoorTm
import Derived.Test.YtekafeogilbjmaaGreatDoorMjs
set_option linter.unusedVariables false
set_option linter.unusedSimpArgs false
namespace Go.Proofs.YtekafeogilbjmaaGreatDoor
namespace K
open Go Go.Lib
theorem tclo_ShareAcknowledgeRequestTopicPartitionAcknowledgementBatch (b3 : Nat) (c0 c1 c2 c3 : Value) (us : Tags) (hk : ∀ y ∈ us, y.1 < 4294967296) (hl : ∀ y ∈ us, y.2.length ≤ 4398046511104) (hlen : us.length ≤ 1099511627776) : ∀ j (hj : j < us.length) (u : Vw) (z : Value × List Value × Nat) (tv : Value), Iv (TInv us) j u z → RSv u tv (us[j]'hj).2 → HF [TA b3 c0 c1 c2 c3 z, TB z] u.w → (∀ q ∈ blks [TA b3 c0 c1 c2 c3 z, TB z], u.av q) → (blks [TA b3 c0 c1 c2 c3 z, TB z]).Nodup → CH Tryz.prog 274 [.int .u32 ((us[j]'hj).1 : Int), tv, .pointer (some ⟨b3, 0, none⟩)] u [TA b3 c0 c1 c2 c3 z, TB z] fun u r E' => ∃ z', E' = [TA b3 c0 c1 c2 c3 z', TB z'] ∧ Iv (TInv us) (j + 1) u z' := by
  rintro j hj u ⟨vU, cs, k⟩ tv hz htv hok hav hnd
  obtain ⟨hk0, hR⟩ := hz.get
  dsimp only at hk0 hR
  subst hk0
  have hbl := hl _ (List.getElem_mem hj)
  obtain ⟨adV, cV, rfl, hleV⟩ := htv.shape
  refine ch_enter Tryz.func274 rfl Tryz.ntmps274 rfl hok hav hnd ?_
  refine cd_draw' [0] [0, 1, 2, 3, 5, 8] [0, 1, 2, 3, 4, 5, 6, 7, 8, 9] mixed (by kernel_rfl) ?_
  refine lo_pv rfl rfl (sk_js (Tr.refl _) [0] rfl) (pv_fieldAddr (off := 4) (r := 4) Tryz.underlying37 rfl (tiSl_impl_Tag).size rfl rfl rfl) rfl ?_
  refine lo_pv rfl rfl (sk_js (Tr.refl _) [0] rfl) (pv_ldo (i := 0) rfl Tryz.underlying35 rfl rfl rfl) rfl ?_
  refine lo_pv rfl rfl (sk_js (Tr.refl _) [0] rfl) (pv_move rfl) rfl ?_
  refine lo_pv rfl rfl (sk_js (Tr.refl _) [0] rfl) (pv_move rfl) rfl ?_
  refine lo_eff rfl rfl ?_
  refine ln_nilrow 5 1 ?_
  refine ln_append (i := 0) rfl Tryz.underlying22 tiuint8 rfl (by decide) rfl rfl (RS.src htv) (by simp only [maxLen]; omega) (by omega) rfl (k' := (us[k]'hj).2.length) (xs' := u8s (us[k]'hj).2) (by omega) (by simp) (fun vc hvc => ?_)
  refine ln_free1 (fun q h => by simpa using h) (fun s1 ht1 hK1 => ?_)
  have hcp : RSv s1 vc (us[k]'hj).2 := Known.rs hK1 (u8s_one _)
  clear hK1
  have htv := htv.mv ht1
  have hR := RUs.mv ht1 hR
  refine lo_back (sk_js ht1 [0] rfl) ?_
  refine lo_pv rfl rfl (sk_js ht1 [0] rfl) (pv_struct [(0, 1), (1, 1)] (l := [_, _]) rfl Tryz.underlying69 tiimpl_Tag (by kernel_rfl) rfl (by simp [okL, Nat.ble_eq, Value.cells, hvc.2])) rfl ?_
  refine lo_eff rfl rfl ?_
  refine ln_lit (vs := [_]) Tryz.underlying35 tiimpl_Tag rfl (by decide) rfl rfl rfl rfl rfl rfl (fun b1 => ?_)
  refine lo_back (sk_js ht1 [1] rfl) ?_
  refine lo_eff rfl rfl ?_
  refine ln_append (i := 2) rfl Tryz.underlying35 tiimpl_Tag rfl (by decide) rfl rfl (src_obj (j := 0) rfl rfl (by simp [flat, Value.cells, hvc.2])) (by first | omega | (simp only [maxLen]; omega)) (by first | omega | (simp only [maxLen]; omega)) rfl (k' := (k + 1)) (xs' := cs ++ [.int .u32 ((us[k]'hj).1 : Int), vc]) rfl (by simp [flat, Value.cells]) (fun v1 hv1 => ?_)
  refine lo_back (sk_js ht1 [1] rfl) ?_
  refine lo_pv rfl rfl (sk_js ht1 [1] rfl) (pv_fieldAddr (off := 4) (r := 4) Tryz.underlying37 rfl (tiSl_impl_Tag).size rfl rfl rfl) rfl ?_
  refine lo_eff rfl rfl ?_
  refine ln_store1 (i := 1) rfl rfl rfl hv1.2 (tiSl_impl_Tag).size rfl ?_
  refine lo_last (by kernel_rfl) ?_
  refine lo_nil ?_
  refine at_retH0 [TA b3 c0 c1 c2 c3 (v1, cs ++ [.int .u32 ((us[k]'hj).1 : Int), vc], k + 1), TB (v1, cs ++ [.int .u32 ((us[k]'hj).1 : Int), vc], k + 1)] (.cons _ (.cons_cons _ (.cons_cons _ .slnil))) rfl (fun w hS => ⟨(v1, cs ++ [.int .u32 ((us[k]'hj).1 : Int), vc], k + 1), rfl, fun w2 hw2 => ⟨rfl, ?_⟩⟩)
  rw [take_snoc' hj]
  have hq := (hS.trFinH _ _).trans hw2
  exact RUs.append (RUs.mv hq hR) (RUs.one_ (hk _ (List.getElem_mem hj)) (RSv.mv hcp hq))
theorem tlT_ShareAcknowledgeRequestTopicPartitionAcknowledgementBatch (y : Tre) : tlT F_sShareAcknowledgeRequestTopicPartitionAcknowledgementBatch y = .mk 0 [] false [.mk (y.at_ 0).n [] false [] [], .mk (y.at_ 1).n [] false [] [], .mk 0 [] (y.at_ 2).z ((els (y.at_ 2)).map (tlS 1 (-1))) []] y.u := rfl
set_option maxHeartbeats 2000000 in
theorem tell_ShareAcknowledgeRequestTopicPartitionAcknowledgementBatch (t : Vw) (b o : Nat) (y : Tre) (cells : List Value) (hrc : RC t b o cells) (hM : RMp t F_sShareAcknowledgeRequestTopicPartitionAcknowledgementBatch y cells) (htg : tgT F_sShareAcknowledgeRequestTopicPartitionAcknowledgementBatch y) : CA Tryz.prog 250 [.pointer (some ⟨b, o, none⟩)] t fun u r => ∃ ds, r = .agg ds.toArray ∧ RT u (tlT F_sShareAcknowledgeRequestTopicPartitionAcknowledgementBatch y) ds := by
  rw [tlT_ShareAcknowledgeRequestTopicPartitionAcknowledgementBatch]
  obtain ⟨⟨hsrt, hkeys, hlens, hlen⟩, htl⟩ := htg
  simp only [F_sShareAcknowledgeRequestTopicPartitionAcknowledgementBatch, tgL] at htl
  obtain ⟨qg0, qg1, qg2, _⟩ := htl
  obtain ⟨fc1, mv1, hce1, hfl1, hTg1⟩ := hM
  simp only [F_sShareAcknowledgeRequestTopicPartitionAcknowledgementBatch, RMl] at hfl1
  obtain ⟨x1_0, z1_0, e1_0, g1_0, x1_1, z1_1, e1_1, g1_1, x1_2, z1_2, e1_2, g1_2, hend1⟩ := hfl1
  obtain ⟨rfl, hI1_0⟩ := RMf_i64.1 g1_0
  obtain ⟨rfl, hI1_1⟩ := RMf_i64.1 g1_1
  obtain ⟨_, rfl, Gg1_2⟩ := RMf_list.1 g1_2
  obtain ⟨ad1_2, cap1_2, rfl, hnil1_2, Hg1_2⟩ := Gg1_2.els
  subst hend1
  subst e1_2
  subst e1_1
  subst e1_0
  rw [hce1] at hrc
  simp only [List.cons_append, List.nil_append, List.append_assoc] at hrc
  have hLs_2 := LsF.of Hg1_2
  have hll_2 : (els (y.at_ 2)).length ≤ 32767 := (tgF_list.1 qg2).1
  obtain ⟨lt, hMK, hRK⟩ := hTg1
  have hrt : RC1 t b (o + 3) mv1 := hrc.sub 3 (c1 := [_, _, _]) (c2 := [mv1]) (c3 := []) rfl rfl
  have hrc : RCx t b o _ _ := hrc
  refine ca_enter Tryz.func250 rfl Tryz.ntmps250 rfl ?_
  refine cd_sr ?_
  refine ln_alloc tiimpl_Tree rfl rfl (fun b1 => ?_)
  refine ln_cd ?_
  refine cd_sr ?_
  refine ln_makeN (m := 3) (l := [.int .i64 0, .slice none 0 0, .bool false, .slice none 0 0, .slice none 0 0, .int .i64 0, .slice none 0 0, .bool false, .slice none 0 0, .slice none 0 0, .int .i64 0, .slice none 0 0, .bool false, .slice none 0 0, .slice none 0 0]) Tryz.underlying34 tiimpl_Tree rfl rfl (by kernel_rfl) (by decide) (by decide) rfl (fun bL => ?_)
  refine ln_pv (pv_struct [(0, 1), (1, 1), (2, 1), (3, 1), (4, 1)] (l := [_, _, _, _, _]) rfl Tryz.underlying37 tiimpl_Tree (by kernel_rfl) rfl rfl) rfl ?_
  refine ln_alloc tiimpl_Tree rfl rfl (fun b2 => ?_)
  refine ln_storeW (i := 0) rfl rfl rfl rfl (tiimpl_Tree).size rfl (by simp []) ?_
  refine ln_cd ?_
  refine cd_dr' [0, 1, 2] [0, 1, 2, 3, 4, 5, 6, 7] [0, 1, 2, 3, 4, 5, 6, 7, 8] mixed (by kernel_rfl) ?_
  refine lo_pv rfl rfl (sk_js (Tr.refl _) [0, 1, 2] rfl) (pv_fieldAddr (off := 3) (r := 3) Tryz.underlying37 rfl (tiSl_impl_Tree).size rfl rfl rfl) rfl ?_
  refine lo_pv rfl rfl (sk_js (Tr.refl _) [0, 1, 2] rfl) (pv_ldo (i := 0) rfl Tryz.underlying34 rfl rfl rfl) rfl ?_
  refine lo_pv rfl rfl (sk_js (Tr.refl _) [0, 1, 2] rfl) (pv_move rfl) rfl ?_
  refine lo_pv rfl rfl (sk_js (Tr.refl _) [0, 1, 2] rfl) (pv_nilCheck rfl) rfl ?_
  refine lo_pv rfl rfl (sk_js (Tr.refl _) [0, 1, 2] rfl) (pv_fieldAddr (off := 0)  Tryz.underlying238 rfl (tiint64).size rfl rfl rfl) rfl ?_
  refine lo_pv rfl rfl (sk_js (Tr.refl _) [0, 1, 2] rfl) (pv_ldr (j := 0) hrc Tryz.underlying2 rfl rfl rfl) rfl ?_
  refine lo_pv rfl rfl (sk_js (Tr.refl _) [0, 1, 2] rfl) (pv_struct [(0, 1), (1, 1), (2, 1), (3, 1), (4, 1)] (l := [_, _, _, _, _]) rfl Tryz.underlying37 tiimpl_Tree (by kernel_rfl) rfl rfl) rfl ?_
  refine lo_pv rfl rfl (sk_js (Tr.refl _) [0, 1, 2] rfl) (pv_ixN (o := 0) (i := 0) Tryz.underlying34 (tiimpl_Tree).size rfl rfl (by decide)) rfl ?_
  refine lo_eff rfl rfl ?_
  refine ln_store (i := 1) (vs := [_, _, _, _, _]) rfl rfl rfl rfl (tiimpl_Tree).size rfl rfl rfl ?_
  refine lo_last (by kernel_rfl) ?_
  refine lo_cd ?_
  refine cd_dr' [0, 1, 2] [0, 1, 2, 3, 4, 5, 6, 7] [0, 1, 2, 3, 4, 5, 6, 7, 8] mixed (by kernel_rfl) ?_
  refine lo_pv rfl rfl (sk_js (Tr.refl _) [0, 1, 2] rfl) (pv_fieldAddr (off := 3) (r := 3) Tryz.underlying37 rfl (tiSl_impl_Tree).size rfl rfl rfl) rfl ?_
  refine lo_pv rfl rfl (sk_js (Tr.refl _) [0, 1, 2] rfl) (pv_ldo (i := 0) rfl Tryz.underlying34 rfl rfl rfl) rfl ?_
  refine lo_pv rfl rfl (sk_js (Tr.refl _) [0, 1, 2] rfl) (pv_move rfl) rfl ?_
  refine lo_pv rfl rfl (sk_js (Tr.refl _) [0, 1, 2] rfl) (pv_nilCheck rfl) rfl ?_
  refine lo_pv rfl rfl (sk_js (Tr.refl _) [0, 1, 2] rfl) (pv_fieldAddr (off := 1)  Tryz.underlying238 rfl (tiint64).size rfl rfl rfl) rfl ?_
  refine lo_pv rfl rfl (sk_js (Tr.refl _) [0, 1, 2] rfl) (pv_ldr (j := 1) hrc Tryz.underlying2 rfl rfl rfl) rfl ?_
  refine lo_pv rfl rfl (sk_js (Tr.refl _) [0, 1, 2] rfl) (pv_struct [(0, 1), (1, 1), (2, 1), (3, 1), (4, 1)] (l := [_, _, _, _, _]) rfl Tryz.underlying37 tiimpl_Tree (by kernel_rfl) rfl rfl) rfl ?_
  refine lo_pv rfl rfl (sk_js (Tr.refl _) [0, 1, 2] rfl) (pv_ixN (o := 0) (i := 1) Tryz.underlying34 (tiimpl_Tree).size rfl rfl (by decide)) rfl ?_
  refine lo_eff rfl rfl ?_
  refine ln_store (i := 1) (vs := [_, _, _, _, _]) rfl rfl rfl rfl (tiimpl_Tree).size rfl rfl rfl ?_
  refine lo_last (by kernel_rfl) ?_
  refine lo_cd ?_
  refine cd_dr' [0, 1, 2] [0, 1, 2, 3, 4, 5, 6, 8] [0, 1, 2, 3, 4, 5, 6, 7, 8, 9] mixed (by kernel_rfl) ?_
  refine lo_pv rfl rfl (sk_js (Tr.refl _) [0, 1, 2] rfl) (pv_fieldAddr (off := 3) (r := 3) Tryz.underlying37 rfl (tiSl_impl_Tree).size rfl rfl rfl) rfl ?_
  refine lo_pv rfl rfl (sk_js (Tr.refl _) [0, 1, 2] rfl) (pv_ldo (i := 0) rfl Tryz.underlying34 rfl rfl rfl) rfl ?_
  refine lo_pv rfl rfl (sk_js (Tr.refl _) [0, 1, 2] rfl) (pv_move rfl) rfl ?_
  refine lo_pv rfl rfl (sk_js (Tr.refl _) [0, 1, 2] rfl) (pv_nilCheck rfl) rfl ?_
  refine lo_pv rfl rfl (sk_js (Tr.refl _) [0, 1, 2] rfl) (pv_fieldAddr (off := 2)  Tryz.underlying238 rfl (tiSl_int8).size rfl rfl rfl) rfl ?_
  refine lo_pv rfl rfl (sk_js (Tr.refl _) [0, 1, 2] rfl) (pv_ldr (j := 2) hrc Tryz.underlying236 rfl rfl rfl) rfl ?_
  refine lo_pv rfl rfl (sk_js (Tr.refl _) [0, 1, 2] rfl) (pv_eqS Tryz.underlying236 rfl rfl) rfl ?_
  refine lo_eff rfl rfl ?_
  refine ln_pv (pv_ixN (o := 0) (i := 2) Tryz.underlying34 (tiimpl_Tree).size rfl rfl (by decide)) rfl ?_
  refine lo_back (sk_js (Tr.refl _) [0, 1, 2] rfl) ?_
  refine lo_pv rfl rfl (sk_js (Tr.refl _) [0, 1, 2] rfl) (pv_fieldAddr (off := 2) (r := 12) Tryz.underlying37 rfl (tibool).size rfl rfl rfl) rfl ?_
  refine lo_eff rfl rfl ?_
  refine ln_store1 (i := 1) rfl rfl rfl rfl (tibool).size rfl ?_
  refine lo_last (by kernel_rfl) ?_
  refine lo_cd ?_
  refine cd_seq ?_
  refine cd_nilrow 37 5 ?_
  refine cd_sr ?_
  refine ln_pv (pv_move rfl) rfl ?_
  refine ln_pv (pv_nilCheck rfl) rfl ?_
  refine ln_pv (pv_fieldAddr (off := 2)  Tryz.underlying238 rfl (tiSl_int8).size rfl rfl rfl) rfl ?_
  refine ln_pv (pv_ldr (j := 2) hrc Tryz.underlying236 rfl rfl rfl) rfl ?_
  refine ln_pv (pv_len_slice Tryz.underlying236 rfl) rfl ?_
  refine ln_pv (pv_move rfl) rfl ?_
  refine ln_cd ?_
  refine cd_block ?_
  refine cd_loop (⟨fun (z : Nat × List Value × Value) => [(0, .pointer (some ⟨b, o, none⟩)), (2, .pointer (some ⟨b1, 0, none⟩)), (3, .pointer (some ⟨b2, 0, none⟩)), (36, .int .i64 ((els (y.at_ 2)).length : Int)), (37, .int .i64 ((z.1 : Nat) : Int))], fun (z : Nat × List Value × Value) => [.row z.2.2 37 5 ((els (y.at_ 2)).take z.1).length z.2.1, .obj b2 (.cells [.int .i64 0, .slice none 0 0, .bool false, .slice (some ⟨bL, 0, none⟩) 3 3, .slice none 0 0].toArray 37), .obj bL (.cells [.int .i64 (y.at_ 0).n, .slice none 0 0, .bool false, .slice none 0 0, .slice none 0 0, .int .i64 (y.at_ 1).n, .slice none 0 0, .bool false, .slice none 0 0, .slice none 0 0, .int .i64 0, .slice none 0 0, .bool ad1_2.isNone, z.2.2, .slice none 0 0].toArray 37), .obj b1 (.cells [.int .i64 0, .slice none 0 0, .bool false, .slice none 0 0, .slice none 0 0].toArray 37)], fun (z : Nat × List Value × Value) s => z.1 ≤ (els (y.at_ 2)).length ∧ RTs s (((els (y.at_ 2)).take z.1).map (tlS 1 (-1))) z.2.1, fun (z : Nat × List Value × Value) => (els (y.at_ 2)).length - z.1⟩ : Lp (Nat × List Value × Value)) (0, [], .slice none 0 0) ?_ ?_ ?_ ?_
  · intro s0 hs0
    exact ⟨Nat.zero_le _, rfl⟩
  · exact ⟨rfl, rfl, rfl, rfl, rfl,  trivial⟩
  · exact (.cons_cons _ (.cons_cons _ (.cons_cons _ (.cons_cons _ .slnil))))
  intro z s1 hl1 hI
  obtain ⟨i_2, ys_2, vv_2⟩ := z
  dsimp only at hI ⊢
  have hrc := hrc.mv hl1
  have hrt := hrt.mv hl1
  have hMK := hMK.mv hl1
  have hRK := hRK.mv hl1
  have hLs_2 := hLs_2.mv hl1
  obtain ⟨hI_2, hIr_2⟩ := hI
  refine cd_sr ?_
  refine ln_pv (pv_lss rfl rfl) rfl ?_
  refine ln_cd ?_
  refine cd_seq ?_
  refine cd_if rfl (fun hc1 => ?_) (fun hc1 => ?_)
  · -- yes
    refine cd_skip ?_
    refine at_cd ?_
    refine cd_seq ?_
    refine cd_block ?_
    have hi_2 : i_2 < (els (y.at_ 2)).length := by omega
    have hsl_2 : ((els (y.at_ 2)).take (i_2 + 1)).length = ((els (y.at_ 2)).take i_2).length + 1 := by simp only [List.length_take]; omega
    have hil_2 : ((els (y.at_ 2)).take i_2).length = i_2 := by rw [List.length_take]; omega
    obtain ⟨gE_2, oE_2, cE_2, hadE_2, hrce_2, hme_2⟩ := hLs_2.at_ hi_2 (show esl _ _ = 1 by kernel_rfl)
    subst hadE_2
    obtain rfl := RE_i8 hme_2
    refine cd_sr ?_
    refine ln_pv (pv_move rfl) rfl ?_
    refine ln_pv (pv_assign rfl) rfl ?_
    refine ln_cd ?_
    refine cd_dr3 [1, 2, 3] [] [0] 1 2 [2, 3] [1, 3] mixed (by kernel_rfl) ?_
    refine lo_eff rfl rfl ?_
    refine ln_alloc tibool rfl rfl (fun b3 => ?_)
    refine lo_last (by kernel_rfl) ?_
    refine lo_nil (at_two ?_ ?_)
    · skip
      refine lo_eff rfl rfl ?_
      refine ln_store1 (i := 0) rfl rfl rfl rfl (tibool).size rfl ?_
      refine lo_last (by kernel_rfl) ?_
      refine lo_eff rfl rfl ?_
      refine ln_store1 (i := 0) rfl rfl rfl rfl (tibool).size rfl ?_
      refine lo_last (by kernel_rfl) ?_
      refine lo_eff rfl rfl ?_
      refine ln_pv (pv_ldo (i := 0) rfl Tryz.underlying4 rfl rfl rfl) rfl ?_
      refine lo_last (by kernel_rfl) ?_
      refine lo_cd ?_
      refine cd_ff rfl ?_
      refine cd_draw' [0, 2, 3, 4] [0, 1, 2, 3, 4, 5, 6, 7, 8, 9, 10, 11, 12, 13, 14, 15, 19] [0, 1, 2, 3, 4, 5, 6, 7, 8, 9, 10, 11, 12, 13, 14, 15, 16, 17, 18, 19, 20] mixed (by kernel_rfl) ?_
      refine lo_pv rfl rfl (sk_js (Tr.refl _) [0, 2, 3, 4] rfl) (pv_fieldAddr (off := 3) (r := 3) Tryz.underlying37 rfl (tiSl_impl_Tree).size rfl rfl rfl) rfl ?_
      refine lo_pv rfl rfl (sk_js (Tr.refl _) [0, 2, 3, 4] rfl) (pv_ldo (i := 1) rfl Tryz.underlying34 rfl rfl rfl) rfl ?_
      refine lo_pv rfl rfl (sk_js (Tr.refl _) [0, 2, 3, 4] rfl) (pv_fieldAddr (off := 3) (r := 3) Tryz.underlying37 rfl (tiSl_impl_Tree).size rfl rfl rfl) rfl ?_
      refine lo_pv rfl rfl (sk_js (Tr.refl _) [0, 2, 3, 4] rfl) (pv_ldo (i := 1) rfl Tryz.underlying34 rfl rfl rfl) rfl ?_
      refine lo_pv rfl rfl (sk_js (Tr.refl _) [0, 2, 3, 4] rfl) (pv_ixN (o := 0) (i := 2) Tryz.underlying34 (tiimpl_Tree).size rfl rfl (by decide)) rfl ?_
      refine lo_pv rfl rfl (sk_js (Tr.refl _) [0, 2, 3, 4] rfl) (pv_fieldAddr (off := 3) (r := 13) Tryz.underlying37 rfl (tiSl_impl_Tree).size rfl rfl rfl) rfl ?_
      refine lo_pv rfl rfl (sk_js (Tr.refl _) [0, 2, 3, 4] rfl) (pv_ldo (i := 2) rfl Tryz.underlying34 rfl rfl rfl) rfl ?_
      refine lo_pv rfl rfl (sk_js (Tr.refl _) [0, 2, 3, 4] rfl) (pv_move rfl) rfl ?_
      refine lo_pv rfl rfl (sk_js (Tr.refl _) [0, 2, 3, 4] rfl) (pv_nilCheck rfl) rfl ?_
      refine lo_pv rfl rfl (sk_js (Tr.refl _) [0, 2, 3, 4] rfl) (pv_fieldAddr (off := 2)  Tryz.underlying238 rfl (tiSl_int8).size rfl rfl rfl) rfl ?_
      refine lo_pv rfl rfl (sk_js (Tr.refl _) [0, 2, 3, 4] rfl) (pv_ldr (j := 2) hrc Tryz.underlying236 rfl rfl rfl) rfl ?_
      refine lo_pv rfl rfl (sk_js (Tr.refl _) [0, 2, 3, 4] rfl) (pv_move rfl) rfl ?_
      refine lo_pv rfl rfl (sk_js (Tr.refl _) [0, 2, 3, 4] rfl) (pv_ixN Tryz.underlying236 (tiint8).size rfl rfl hi_2) rfl ?_
      refine lo_pv rfl rfl (sk_js (Tr.refl _) [0, 2, 3, 4] rfl) (pv_ldr (j := 0) (hrce_2).2 Tryz.underlying122 rfl rfl rfl) rfl ?_
      refine lo_pv rfl rfl (sk_js (Tr.refl _) [0, 2, 3, 4] rfl) (pv_conv' Tryz.underlying122 Tryz.underlying2 rfl (w64_i8 _)) rfl ?_
      refine lo_pv rfl rfl (sk_js (Tr.refl _) [0, 2, 3, 4] rfl) (pv_struct [(0, 1), (1, 1), (2, 1), (3, 1), (4, 1)] (l := [_, _, _, _, _]) rfl Tryz.underlying37 tiimpl_Tree (by kernel_rfl) rfl rfl) rfl ?_
      refine lo_eff rfl rfl ?_
      refine ln_lit (vs := [_]) Tryz.underlying34 tiimpl_Tree rfl (by decide) rfl rfl rfl rfl rfl rfl (fun b4 => ?_)
      refine lo_back (sk_js (Tr.refl _) [1, 3, 4, 5] rfl) ?_
      refine lo_eff rfl rfl ?_
      refine ln_append (i := 2) rfl Tryz.underlying34 tiimpl_Tree rfl (by decide) rfl rfl (src_obj (j := 0) rfl rfl rfl) (by rw [hil_2]; first | omega | (simp only [maxLen]; omega)) (by rw [hil_2]; first | omega | (simp only [maxLen]; omega)) rfl (k' := ((els (y.at_ 2)).take (i_2 + 1)).length) (xs' := ys_2 ++ [.int .i64 (IntKind.i8.wrap ((els (y.at_ 2))[i_2]).n), .slice none 0 0, .bool false, .slice none 0 0, .slice none 0 0]) hsl_2.symm (by simp [flat, Value.cells]) (fun v1 hv1 => ?_)
      refine lo_back (sk_js (Tr.refl _) [1, 3, 4, 5] rfl) ?_
      refine lo_eff rfl rfl ?_
      refine ln_pv (pv_ixN (o := 0) (i := 2) Tryz.underlying34 (tiimpl_Tree).size rfl rfl (by decide)) rfl ?_
      refine lo_back (sk_js (Tr.refl _) [1, 3, 4, 5] rfl) ?_
      refine lo_pv rfl rfl (sk_js (Tr.refl _) [1, 3, 4, 5] rfl) (pv_fieldAddr (off := 3) (r := 13) Tryz.underlying37 rfl (tiSl_impl_Tree).size rfl rfl rfl) rfl ?_
      refine lo_eff rfl rfl ?_
      refine ln_store1 (i := 4) rfl rfl rfl hv1.2 (tiSl_impl_Tree).size rfl ?_
      refine lo_last (by kernel_rfl) ?_
      refine lo_nil ?_
      refine at_cd ?_
      refine cd_region ?_
      refine ln_pv (pv_add' rfl rfl (wrap_succ (by omega))) rfl ?_
      refine ln_pv (pv_move rfl) rfl ?_
      refine ln_nil ?_
      refine at_rnd (i_2 + 1, ys_2 ++ [.int .i64 (IntKind.i8.wrap ((els (y.at_ 2))[i_2]).n), .slice none 0 0, .bool false, .slice none 0 0, .slice none 0 0], v1) hl1 ?_ ?_ ⟨rfl, rfl, rfl, rfl, rfl,  trivial⟩ (.cons _ (.cons _ (.cons_cons _ (.cons_cons _ (.cons_cons _ (.cons_cons _ .slnil))))))
      · intro s9 hs9
        exact ⟨by dsimp only; omega, RTs_snoc hi_2 (RTs.mv hIr_2 hs9) RT_e1⟩
      · dsimp only; omega
    · skip
      refine lo_eff rfl rfl ?_
      refine ln_store1 (i := 0) rfl rfl rfl rfl (tibool).size rfl ?_
      refine lo_last (by kernel_rfl) ?_
      refine lo_eff rfl rfl ?_
      refine ln_store1 (i := 0) rfl rfl rfl rfl (tibool).size rfl ?_
      refine lo_last (by kernel_rfl) ?_
      refine lo_eff rfl rfl ?_
      refine ln_pv (pv_ldo (i := 0) rfl Tryz.underlying4 rfl rfl rfl) rfl ?_
      refine lo_last (by kernel_rfl) ?_
      refine lo_cd ?_
      refine cd_tt rfl ?_
      refine cd_rowshape (i := 1) rfl (fun adR_2 cpR_2 hvR_2 hleR_2 hposR_2 => ?_)
      subst hvR_2
      refine cd_dr' [0, 2, 3, 4] [0, 1, 2, 3, 4, 5, 6, 7, 8, 9, 10, 11, 12, 13, 14, 18] [0, 1, 2, 3, 4, 5, 6, 7, 8, 9, 10, 11, 12, 13, 14, 15, 16, 17, 18, 19] mixed (by kernel_rfl) ?_
      refine lo_pv rfl rfl (sk_js (Tr.refl _) [0, 2, 3, 4] rfl) (pv_fieldAddr (off := 3) (r := 3) Tryz.underlying37 rfl (tiSl_impl_Tree).size rfl rfl rfl) rfl ?_
      refine lo_pv rfl rfl (sk_js (Tr.refl _) [0, 2, 3, 4] rfl) (pv_ldo (i := 1) rfl Tryz.underlying34 rfl rfl rfl) rfl ?_
      refine lo_pv rfl rfl (sk_js (Tr.refl _) [0, 2, 3, 4] rfl) (pv_ixN (o := 0) (i := 2) Tryz.underlying34 (tiimpl_Tree).size rfl rfl (by decide)) rfl ?_
      refine lo_pv rfl rfl (sk_js (Tr.refl _) [0, 2, 3, 4] rfl) (pv_fieldAddr (off := 3) (r := 13) Tryz.underlying37 rfl (tiSl_impl_Tree).size rfl rfl rfl) rfl ?_
      refine lo_pv rfl rfl (sk_js (Tr.refl _) [0, 2, 3, 4] rfl) (pv_ldo (i := 2) rfl Tryz.underlying34 rfl rfl rfl) rfl ?_
      refine lo_pv rfl rfl (sk_js (Tr.refl _) [0, 2, 3, 4] rfl) (pv_move rfl) rfl ?_
      refine lo_pv rfl rfl (sk_js (Tr.refl _) [0, 2, 3, 4] rfl) (pv_nilCheck rfl) rfl ?_
      refine lo_pv rfl rfl (sk_js (Tr.refl _) [0, 2, 3, 4] rfl) (pv_fieldAddr (off := 2)  Tryz.underlying238 rfl (tiSl_int8).size rfl rfl rfl) rfl ?_
      refine lo_pv rfl rfl (sk_js (Tr.refl _) [0, 2, 3, 4] rfl) (pv_ldr (j := 2) hrc Tryz.underlying236 rfl rfl rfl) rfl ?_
      refine lo_pv rfl rfl (sk_js (Tr.refl _) [0, 2, 3, 4] rfl) (pv_move rfl) rfl ?_
      refine lo_pv rfl rfl (sk_js (Tr.refl _) [0, 2, 3, 4] rfl) (pv_ixN Tryz.underlying236 (tiint8).size rfl rfl hi_2) rfl ?_
      refine lo_pv rfl rfl (sk_js (Tr.refl _) [0, 2, 3, 4] rfl) (pv_ldr (j := 0) (hrce_2).2 Tryz.underlying122 rfl rfl rfl) rfl ?_
      refine lo_pv rfl rfl (sk_js (Tr.refl _) [0, 2, 3, 4] rfl) (pv_conv' Tryz.underlying122 Tryz.underlying2 rfl (w64_i8 _)) rfl ?_
      refine lo_pv rfl rfl (sk_js (Tr.refl _) [0, 2, 3, 4] rfl) (pv_struct [(0, 1), (1, 1), (2, 1), (3, 1), (4, 1)] (l := [_, _, _, _, _]) rfl Tryz.underlying37 tiimpl_Tree (by kernel_rfl) rfl rfl) rfl ?_
      refine lo_pv rfl rfl (sk_js (Tr.refl _) [0, 2, 3, 4] rfl) (pv_len_slice Tryz.underlying34 rfl) rfl ?_
      refine lo_eff rfl rfl ?_
      refine ln_lit (vs := [_]) Tryz.underlying34 tiimpl_Tree rfl (by decide) rfl rfl rfl rfl rfl rfl (fun b5 => ?_)
      refine lo_back (sk_js (Tr.refl _) [1, 3, 4, 5] rfl) ?_
      refine lo_eff rfl rfl ?_
      refine ln_append (i := 2) rfl Tryz.underlying34 tiimpl_Tree rfl (by decide) rfl rfl (src_obj (j := 0) rfl rfl rfl) (by rw [hil_2]; first | omega | (simp only [maxLen]; omega)) (by rw [hil_2]; first | omega | (simp only [maxLen]; omega)) rfl (k' := ((els (y.at_ 2)).take (i_2 + 1)).length) (xs' := ys_2 ++ [.int .i64 0, .slice none 0 0, .bool false, .slice none 0 0, .slice none 0 0]) hsl_2.symm (by simp [flat, Value.cells]) (fun v2 hv2 => ?_)
      refine lo_back (sk_js (Tr.refl _) [1, 3, 4, 5] rfl) ?_
      refine lo_eff rfl rfl ?_
      refine ln_pv (pv_ixN (o := 0) (i := 2) Tryz.underlying34 (tiimpl_Tree).size rfl rfl (by decide)) rfl ?_
      refine lo_back (sk_js (Tr.refl _) [1, 3, 4, 5] rfl) ?_
      refine lo_pv rfl rfl (sk_js (Tr.refl _) [1, 3, 4, 5] rfl) (pv_fieldAddr (off := 3) (r := 13) Tryz.underlying37 rfl (tiSl_impl_Tree).size rfl rfl rfl) rfl ?_
      refine lo_eff rfl rfl ?_
      refine ln_store1 (i := 4) rfl rfl rfl hv2.2 (tiSl_impl_Tree).size rfl ?_
      refine lo_last (by kernel_rfl) ?_
      refine lo_cd ?_
      refine cd_region ?_
      refine ln_rowshp (i := 2) rfl (fun ad2_2 cp2_2 hv2_2 hle2_2 hpos2_2 => ?_)
      subst hv2_2
      obtain ⟨g2_2, rfl⟩ := hpos2_2 (by omega)
      refine ln_pv (pv_ixN Tryz.underlying34 tiimpl_Tree.size rfl rfl (by omega)) rfl ?_
      refine ln_storeR (i := 2) (vs := [.int .i64 (IntKind.i8.wrap ((els (y.at_ 2))[i_2]).n), .slice none 0 0, .bool false, .slice none 0 0, .slice none 0 0]) (xs' := ys_2 ++ [.int .i64 (IntKind.i8.wrap ((els (y.at_ 2))[i_2]).n), .slice none 0 0, .bool false, .slice none 0 0, .slice none 0 0]) rfl rfl rfl rfl tiimpl_Tree.size (by simp only [List.length_cons, List.length_nil]; omega) (by simp) (wr_end (xs := ys_2) (z := [.int .i64 0, .slice none 0 0, .bool false, .slice none 0 0, .slice none 0 0]) (o := 0 + ((els (y.at_ 2)).take i_2).length * 5) (vs := [.int .i64 (IntKind.i8.wrap ((els (y.at_ 2))[i_2]).n), .slice none 0 0, .bool false, .slice none 0 0, .slice none 0 0]) rfl (by have h6 := (RTs.len5 hIr_2); simp only [List.length_map] at h6; omega)) ?_
      refine ln_nil ?_
      refine at_cd ?_
      refine cd_region ?_
      refine ln_pv (pv_add' rfl rfl (wrap_succ (by omega))) rfl ?_
      refine ln_pv (pv_move rfl) rfl ?_
      refine ln_nil ?_
      refine at_rnd (i_2 + 1, ys_2 ++ [.int .i64 (IntKind.i8.wrap ((els (y.at_ 2))[i_2]).n), .slice none 0 0, .bool false, .slice none 0 0, .slice none 0 0], (.slice (some ⟨g2_2, 0, none⟩) ((els (y.at_ 2)).take (i_2 + 1)).length cp2_2)) hl1 ?_ ?_ ⟨rfl, rfl, rfl, rfl, rfl,  trivial⟩ (.cons _ (.cons _ (.cons_cons _ (.cons_cons _ (.cons_cons _ (.cons_cons _ .slnil))))))
      · intro s9 hs9
        exact ⟨by dsimp only; omega, RTs_snoc hi_2 (RTs.mv hIr_2 hs9) RT_e1⟩
      · dsimp only; omega
  · -- no
    refine cd_exit rfl ?_
    refine at_cd ?_
    have hq_2 : i_2 = (els (y.at_ 2)).length := by omega
    subst hq_2
    rw [List.take_length] at hIr_2
    refine cd_row (i := 0) (m' := ((els (y.at_ 2)).map (tlS 1 (-1))).length) (xs' := ys_2) rfl (by simp) rfl ?_
    refine cd_sr ?_
    refine ln_pv (pv_move rfl) rfl ?_
    refine ln_pv (pv_nilCheck rfl) rfl ?_
    refine ln_pv (pv_fieldAddr (off := 3)  Tryz.underlying238 rfl (tipub_kmsg_Tags).size rfl rfl rfl) rfl ?_
    refine ln_pv (pv_makeFunc (vf := #[]) (vc := #[.pointer (some ⟨b2, 0, none⟩)]) (by rw [List.map_toArray, List.map_toArray]; rfl) (by rw [List.map_toArray, List.map_toArray]; rfl)) rfl ?_
    refine ln_nilrow 69 2 ?_
    have hst := tclo_ShareAcknowledgeRequestTopicPartitionAcknowledgementBatch b2 (.int .i64 0) (.slice none 0 0) (.bool false) (.slice (some ⟨bL, 0, none⟩) 3 3) y.u hkeys hlens (Nat.le_of_lt hlen)
    have hEa := fun (u : Vw) hr hm hk h0 hok hav hnd => tags_EachG (fun z => TA b2 (.int .i64 0) (.slice none 0 0) (.bool false) (.slice (some ⟨bL, 0, none⟩) 3 3) z) TB (TInv y.u) 274 (.pointer (some ⟨b2, 0, none⟩)) en_274 u b (o + 3) mv1 lt y.u (.slice none 0 0, [], 0) hr hm hk hsrt (by omega) h0 hst hok hav hnd
    refine ln_callH (E := [TA b2 (.int .i64 0) (.slice none 0 0) (.bool false) (.slice (some ⟨bL, 0, none⟩) 3 3) (.slice none 0 0, [], 0), TB (.slice none 0 0, [], 0)]) (H0 := [_, _, _]) (List.perm_middle (l₁ := [_, _])) en_125 rfl (fun u hu hok hav hnd => hEa u (RC1.mv hrt hu) (hMK.mv hu) (RK.mv hu hRK) (fun w hw => ⟨rfl, by rw [List.take_zero]; rfl⟩) hok hav hnd) rfl ?_
    rintro u4 v4 _ ht4 ⟨xu4, ⟨⟨vU, csU, kU⟩, rfl, hzU⟩, hxu4⟩
    obtain ⟨hkU, hRU⟩ := (hzU.mv hxu4).get
    dsimp only at hkU hRU
    subst hkU
    rw [List.take_length] at hRU
    have hrc := hrc.mv ht4
    have hrt := hrt.mv ht4
    have hMK := hMK.mv ht4
    have hRK := hRK.mv ht4
    have hLs_2 := hLs_2.mv ht4
    have hIr_2 := hIr_2.mv ht4
    refine ln_cd ?_
    refine cd_sr ?_
    refine ln_pv (pv_fieldAddr (off := 4) (r := 4) Tryz.underlying37 rfl (tiSl_impl_Tag).size rfl rfl rfl) rfl ?_
    refine ln_pv (pv_ldo (i := 0) rfl Tryz.underlying35 rfl rfl rfl) rfl ?_
    refine ln_callT (i := 1) en_127 rfl rfl (fun u hu hok hav => impl_sorted u vU y.u csU hsrt (by omega) (RUs.cells hRU).1 (fun i hi => by obtain ⟨c1, tv, c3, he, hc, _, _⟩ := RUs.at_ hi hRU; rw [he, List.append_assoc, List.getElem?_append_right (by omega), hc]; simp) hok hav) rfl ?_
    rintro u5 v5 _ ht5 ⟨_, rfl, _⟩
    have hrc := hrc.mv ht5
    have hrt := hrt.mv ht5
    have hMK := hMK.mv ht5
    have hRK := hRK.mv ht5
    have hLs_2 := hLs_2.mv ht5
    have hIr_2 := hIr_2.mv ht5
    have hRU := hRU.mv ht5
    refine ln_cd ?_
    refine cd_rowone (i := 1) rfl (fun hoU => ?_)
    refine cd_sr ?_
    refine ln_pv (pv_ldO (i := 0) rfl Tryz.underlying37 rfl (tiimpl_Tree).size rfl rfl) rfl ?_
    refine ln_storeW (i := 4) rfl rfl rfl rfl (tiimpl_Tree).size rfl (by simp [hoU]) ?_
    refine ln_cd ?_
    refine cd_ret ?_
    refine at_retC (i := 4) rfl rfl rfl Tryz.underlying37 rfl tiimpl_Tree.size rfl (fun w hS => ?_)
    have hRTs : RTs hS.fin [.mk (y.at_ 0).n [] false [] [], .mk (y.at_ 1).n [] false [] [], .mk 0 [] (y.at_ 2).z ((els (y.at_ 2)).map (tlS 1 (-1))) []] _ := ⟨[.int .i64 (y.at_ 0).n, .slice none 0 0, .bool false, .slice none 0 0, .slice none 0 0], _, rfl, RT_num hI1_0, ⟨[.int .i64 (y.at_ 1).n, .slice none 0 0, .bool false, .slice none 0 0, .slice none 0 0], _, rfl, RT_num hI1_1, ⟨[_, _, _, _, _], _, rfl, RT_list hnil1_2 rfl (row_rs hS (j := 2) rfl (RTs.cells hIr_2)) (RTs.mv hIr_2 hS.trFin), rfl⟩⟩⟩
    refine ⟨_, rfl, RT.shut ⟨_, _, _, rfl, (show I64 0 from by unfold I64; omega), RS_nil 1, ⟨_, obj_rsS hS (i := 3) (sz := 5) (m := 3) rfl rfl (RTs.cells hRTs), hRTs⟩, ⟨csU, row_rs hS (j := 1) rfl (RUs.cells hRU).2, RUs.mv hS.trFin hRU⟩⟩⟩
theorem tclo_ShareAcknowledgeRequestTopicPartition (b3 : Nat) (c0 c1 c2 c3 : Value) (us : Tags) (hk : ∀ y ∈ us, y.1 < 4294967296) (hl : ∀ y ∈ us, y.2.length ≤ 4398046511104) (hlen : us.length ≤ 1099511627776) : ∀ j (hj : j < us.length) (u : Vw) (z : Value × List Value × Nat) (tv : Value), Iv (TInv us) j u z → RSv u tv (us[j]'hj).2 → HF [TA b3 c0 c1 c2 c3 z, TB z] u.w → (∀ q ∈ blks [TA b3 c0 c1 c2 c3 z, TB z], u.av q) → (blks [TA b3 c0 c1 c2 c3 z, TB z]).Nodup → CH Tryz.prog 251 [.int .u32 ((us[j]'hj).1 : Int), tv, .pointer (some ⟨b3, 0, none⟩)] u [TA b3 c0 c1 c2 c3 z, TB z] fun u r E' => ∃ z', E' = [TA b3 c0 c1 c2 c3 z', TB z'] ∧ Iv (TInv us) (j + 1) u z' := by
  rintro j hj u ⟨vU, cs, k⟩ tv hz htv hok hav hnd
  obtain ⟨hk0, hR⟩ := hz.get
  dsimp only at hk0 hR
  subst hk0
  have hbl := hl _ (List.getElem_mem hj)
  obtain ⟨adV, cV, rfl, hleV⟩ := htv.shape
  refine ch_enter Tryz.func251 rfl Tryz.ntmps251 rfl hok hav hnd ?_
  refine cd_draw' [0] [0, 1, 2, 3, 5, 8] [0, 1, 2, 3, 4, 5, 6, 7, 8, 9] mixed (by kernel_rfl) ?_
  refine lo_pv rfl rfl (sk_js (Tr.refl _) [0] rfl) (pv_fieldAddr (off := 4) (r := 4) Tryz.underlying37 rfl (tiSl_impl_Tag).size rfl rfl rfl) rfl ?_
  refine lo_pv rfl rfl (sk_js (Tr.refl _) [0] rfl) (pv_ldo (i := 0) rfl Tryz.underlying35 rfl rfl rfl) rfl ?_
  refine lo_pv rfl rfl (sk_js (Tr.refl _) [0] rfl) (pv_move rfl) rfl ?_
  refine lo_pv rfl rfl (sk_js (Tr.refl _) [0] rfl) (pv_move rfl) rfl ?_
  refine lo_eff rfl rfl ?_
  refine ln_nilrow 5 1 ?_
  refine ln_append (i := 0) rfl Tryz.underlying22 tiuint8 rfl (by decide) rfl rfl (RS.src htv) (by simp only [maxLen]; omega) (by omega) rfl (k' := (us[k]'hj).2.length) (xs' := u8s (us[k]'hj).2) (by omega) (by simp) (fun vc hvc => ?_)
  refine ln_free1 (fun q h => by simpa using h) (fun s1 ht1 hK1 => ?_)
  have hcp : RSv s1 vc (us[k]'hj).2 := Known.rs hK1 (u8s_one _)
  clear hK1
  have htv := htv.mv ht1
  have hR := RUs.mv ht1 hR
  refine lo_back (sk_js ht1 [0] rfl) ?_
  refine lo_pv rfl rfl (sk_js ht1 [0] rfl) (pv_struct [(0, 1), (1, 1)] (l := [_, _]) rfl Tryz.underlying69 tiimpl_Tag (by kernel_rfl) rfl (by simp [okL, Nat.ble_eq, Value.cells, hvc.2])) rfl ?_
  refine lo_eff rfl rfl ?_
  refine ln_lit (vs := [_]) Tryz.underlying35 tiimpl_Tag rfl (by decide) rfl rfl rfl rfl rfl rfl (fun b1 => ?_)
  refine lo_back (sk_js ht1 [1] rfl) ?_
  refine lo_eff rfl rfl ?_
  refine ln_append (i := 2) rfl Tryz.underlying35 tiimpl_Tag rfl (by decide) rfl rfl (src_obj (j := 0) rfl rfl (by simp [flat, Value.cells, hvc.2])) (by first | omega | (simp only [maxLen]; omega)) (by first | omega | (simp only [maxLen]; omega)) rfl (k' := (k + 1)) (xs' := cs ++ [.int .u32 ((us[k]'hj).1 : Int), vc]) rfl (by simp [flat, Value.cells]) (fun v1 hv1 => ?_)
  refine lo_back (sk_js ht1 [1] rfl) ?_
  refine lo_pv rfl rfl (sk_js ht1 [1] rfl) (pv_fieldAddr (off := 4) (r := 4) Tryz.underlying37 rfl (tiSl_impl_Tag).size rfl rfl rfl) rfl ?_
  refine lo_eff rfl rfl ?_
  refine ln_store1 (i := 1) rfl rfl rfl hv1.2 (tiSl_impl_Tag).size rfl ?_
  refine lo_last (by kernel_rfl) ?_
  refine lo_nil ?_
  refine at_retH0 [TA b3 c0 c1 c2 c3 (v1, cs ++ [.int .u32 ((us[k]'hj).1 : Int), vc], k + 1), TB (v1, cs ++ [.int .u32 ((us[k]'hj).1 : Int), vc], k + 1)] (.cons _ (.cons_cons _ (.cons_cons _ .slnil))) rfl (fun w hS => ⟨(v1, cs ++ [.int .u32 ((us[k]'hj).1 : Int), vc], k + 1), rfl, fun w2 hw2 => ⟨rfl, ?_⟩⟩)
  rw [take_snoc' hj]
  have hq := (hS.trFinH _ _).trans hw2
  exact RUs.append (RUs.mv hq hR) (RUs.one_ (hk _ (List.getElem_mem hj)) (RSv.mv hcp hq))
theorem tlT_ShareAcknowledgeRequestTopicPartition (y : Tre) : tlT F_sShareAcknowledgeRequestTopicPartition y = .mk 0 [] false [.mk (IntKind.i32.wrap (y.at_ 0).n) [] false [] [], .mk 0 [] (y.at_ 1).z ((els (y.at_ 1)).map (tlT F_sShareAcknowledgeRequestTopicPartitionAcknowledgementBatch)) []] y.u := rfl
set_option maxHeartbeats 2000000 in
theorem tell_ShareAcknowledgeRequestTopicPartition (t : Vw) (b o : Nat) (y : Tre) (cells : List Value) (hrc : RC t b o cells) (hM : RMp t F_sShareAcknowledgeRequestTopicPartition y cells) (htg : tgT F_sShareAcknowledgeRequestTopicPartition y) : CA Tryz.prog 232 [.pointer (some ⟨b, o, none⟩)] t fun u r => ∃ ds, r = .agg ds.toArray ∧ RT u (tlT F_sShareAcknowledgeRequestTopicPartition y) ds := by
  rw [tlT_ShareAcknowledgeRequestTopicPartition]
  obtain ⟨⟨hsrt, hkeys, hlens, hlen⟩, htl⟩ := htg
  simp only [F_sShareAcknowledgeRequestTopicPartition, tgL] at htl
  obtain ⟨qg0, qg1, _⟩ := htl
  obtain ⟨fc1, mv1, hce1, hfl1, hTg1⟩ := hM
  simp only [F_sShareAcknowledgeRequestTopicPartition, RMl] at hfl1
  obtain ⟨x1_0, z1_0, e1_0, g1_0, x1_1, z1_1, e1_1, g1_1, hend1⟩ := hfl1
  obtain rfl := RMf_i32.1 g1_0
  obtain ⟨_, rfl, Gg1_1⟩ := RMf_list.1 g1_1
  obtain ⟨ad1_1, cap1_1, rfl, hnil1_1, Hg1_1⟩ := Gg1_1.els
  subst hend1
  subst e1_1
  subst e1_0
  rw [hce1] at hrc
  simp only [List.cons_append, List.nil_append, List.append_assoc] at hrc
  have hLs_1 := LsF.of Hg1_1
  have hll_1 : (els (y.at_ 1)).length ≤ 32767 := (tgF_list.1 qg1).1
  obtain ⟨lt, hMK, hRK⟩ := hTg1
  have hrt : RC1 t b (o + 2) mv1 := hrc.sub 2 (c1 := [_, _]) (c2 := [mv1]) (c3 := []) rfl rfl
  have hrc : RCx t b o _ _ := hrc
  refine ca_enter Tryz.func232 rfl Tryz.ntmps232 rfl ?_
  refine cd_sr ?_
  refine ln_alloc tiimpl_Tree rfl rfl (fun b1 => ?_)
  refine ln_cd ?_
  refine cd_sr ?_
  refine ln_makeN (m := 2) (l := [.int .i64 0, .slice none 0 0, .bool false, .slice none 0 0, .slice none 0 0, .int .i64 0, .slice none 0 0, .bool false, .slice none 0 0, .slice none 0 0]) Tryz.underlying34 tiimpl_Tree rfl rfl (by kernel_rfl) (by decide) (by decide) rfl (fun bL => ?_)
  refine ln_pv (pv_struct [(0, 1), (1, 1), (2, 1), (3, 1), (4, 1)] (l := [_, _, _, _, _]) rfl Tryz.underlying37 tiimpl_Tree (by kernel_rfl) rfl rfl) rfl ?_
  refine ln_alloc tiimpl_Tree rfl rfl (fun b2 => ?_)
  refine ln_storeW (i := 0) rfl rfl rfl rfl (tiimpl_Tree).size rfl (by simp []) ?_
  refine ln_cd ?_
  refine cd_dr' [0, 1, 2] [0, 1, 2, 3, 4, 5, 6, 7, 8] [0, 1, 2, 3, 4, 5, 6, 7, 8, 9] mixed (by kernel_rfl) ?_
  refine lo_pv rfl rfl (sk_js (Tr.refl _) [0, 1, 2] rfl) (pv_fieldAddr (off := 3) (r := 3) Tryz.underlying37 rfl (tiSl_impl_Tree).size rfl rfl rfl) rfl ?_
  refine lo_pv rfl rfl (sk_js (Tr.refl _) [0, 1, 2] rfl) (pv_ldo (i := 0) rfl Tryz.underlying34 rfl rfl rfl) rfl ?_
  refine lo_pv rfl rfl (sk_js (Tr.refl _) [0, 1, 2] rfl) (pv_move rfl) rfl ?_
  refine lo_pv rfl rfl (sk_js (Tr.refl _) [0, 1, 2] rfl) (pv_nilCheck rfl) rfl ?_
  refine lo_pv rfl rfl (sk_js (Tr.refl _) [0, 1, 2] rfl) (pv_fieldAddr (off := 0)  Tryz.underlying234 rfl (tiint32).size rfl rfl rfl) rfl ?_
  refine lo_pv rfl rfl (sk_js (Tr.refl _) [0, 1, 2] rfl) (pv_ldr (j := 0) hrc Tryz.underlying21 rfl rfl rfl) rfl ?_
  refine lo_pv rfl rfl (sk_js (Tr.refl _) [0, 1, 2] rfl) (pv_conv' Tryz.underlying21 Tryz.underlying2 rfl (w64_i32 _)) rfl ?_
  refine lo_pv rfl rfl (sk_js (Tr.refl _) [0, 1, 2] rfl) (pv_struct [(0, 1), (1, 1), (2, 1), (3, 1), (4, 1)] (l := [_, _, _, _, _]) rfl Tryz.underlying37 tiimpl_Tree (by kernel_rfl) rfl rfl) rfl ?_
  refine lo_pv rfl rfl (sk_js (Tr.refl _) [0, 1, 2] rfl) (pv_ixN (o := 0) (i := 0) Tryz.underlying34 (tiimpl_Tree).size rfl rfl (by decide)) rfl ?_
  refine lo_eff rfl rfl ?_
  refine ln_store (i := 1) (vs := [_, _, _, _, _]) rfl rfl rfl rfl (tiimpl_Tree).size rfl rfl rfl ?_
  refine lo_last (by kernel_rfl) ?_
  refine lo_cd ?_
  refine cd_dr' [0, 1, 2] [0, 1, 2, 3, 4, 5, 6, 8] [0, 1, 2, 3, 4, 5, 6, 7, 8, 9] mixed (by kernel_rfl) ?_
  refine lo_pv rfl rfl (sk_js (Tr.refl _) [0, 1, 2] rfl) (pv_fieldAddr (off := 3) (r := 3) Tryz.underlying37 rfl (tiSl_impl_Tree).size rfl rfl rfl) rfl ?_
  refine lo_pv rfl rfl (sk_js (Tr.refl _) [0, 1, 2] rfl) (pv_ldo (i := 0) rfl Tryz.underlying34 rfl rfl rfl) rfl ?_
  refine lo_pv rfl rfl (sk_js (Tr.refl _) [0, 1, 2] rfl) (pv_move rfl) rfl ?_
  refine lo_pv rfl rfl (sk_js (Tr.refl _) [0, 1, 2] rfl) (pv_nilCheck rfl) rfl ?_
  refine lo_pv rfl rfl (sk_js (Tr.refl _) [0, 1, 2] rfl) (pv_fieldAddr (off := 1)  Tryz.underlying234 rfl (tiSl_kmsg_ShareAcknowledgeRequestTopicPartitionAcknowledgementBatch).size rfl rfl rfl) rfl ?_
  refine lo_pv rfl rfl (sk_js (Tr.refl _) [0, 1, 2] rfl) (pv_ldr (j := 1) hrc Tryz.underlying232 rfl rfl rfl) rfl ?_
  refine lo_pv rfl rfl (sk_js (Tr.refl _) [0, 1, 2] rfl) (pv_eqS Tryz.underlying232 rfl rfl) rfl ?_
  refine lo_eff rfl rfl ?_
  refine ln_pv (pv_ixN (o := 0) (i := 1) Tryz.underlying34 (tiimpl_Tree).size rfl rfl (by decide)) rfl ?_
  refine lo_back (sk_js (Tr.refl _) [0, 1, 2] rfl) ?_
  refine lo_pv rfl rfl (sk_js (Tr.refl _) [0, 1, 2] rfl) (pv_fieldAddr (off := 2) (r := 7) Tryz.underlying37 rfl (tibool).size rfl rfl rfl) rfl ?_
  refine lo_eff rfl rfl ?_
  refine ln_store1 (i := 1) rfl rfl rfl rfl (tibool).size rfl ?_
  refine lo_last (by kernel_rfl) ?_
  refine lo_cd ?_
  refine cd_seq ?_
  refine cd_nilrow 37 5 ?_
  refine cd_sr ?_
  refine ln_pv (pv_move rfl) rfl ?_
  refine ln_pv (pv_nilCheck rfl) rfl ?_
  refine ln_pv (pv_fieldAddr (off := 1)  Tryz.underlying234 rfl (tiSl_kmsg_ShareAcknowledgeRequestTopicPartitionAcknowledgementBatch).size rfl rfl rfl) rfl ?_
  refine ln_pv (pv_ldr (j := 1) hrc Tryz.underlying232 rfl rfl rfl) rfl ?_
  refine ln_pv (pv_len_slice Tryz.underlying232 rfl) rfl ?_
  refine ln_pv (pv_move rfl) rfl ?_
  refine ln_cd ?_
  refine cd_block ?_
  refine cd_loop (⟨fun (z : Nat × List Value × Value) => [(0, .pointer (some ⟨b, o, none⟩)), (2, .pointer (some ⟨b1, 0, none⟩)), (3, .pointer (some ⟨b2, 0, none⟩)), (29, .int .i64 ((els (y.at_ 1)).length : Int)), (30, .int .i64 ((z.1 : Nat) : Int))], fun (z : Nat × List Value × Value) => [.row z.2.2 37 5 ((els (y.at_ 1)).take z.1).length z.2.1, .obj b2 (.cells [.int .i64 0, .slice none 0 0, .bool false, .slice (some ⟨bL, 0, none⟩) 2 2, .slice none 0 0].toArray 37), .obj bL (.cells [.int .i64 (IntKind.i32.wrap (y.at_ 0).n), .slice none 0 0, .bool false, .slice none 0 0, .slice none 0 0, .int .i64 0, .slice none 0 0, .bool ad1_1.isNone, z.2.2, .slice none 0 0].toArray 37), .obj b1 (.cells [.int .i64 0, .slice none 0 0, .bool false, .slice none 0 0, .slice none 0 0].toArray 37)], fun (z : Nat × List Value × Value) s => z.1 ≤ (els (y.at_ 1)).length ∧ RTs s (((els (y.at_ 1)).take z.1).map (tlT F_sShareAcknowledgeRequestTopicPartitionAcknowledgementBatch)) z.2.1, fun (z : Nat × List Value × Value) => (els (y.at_ 1)).length - z.1⟩ : Lp (Nat × List Value × Value)) (0, [], .slice none 0 0) ?_ ?_ ?_ ?_
  · intro s0 hs0
    exact ⟨Nat.zero_le _, rfl⟩
  · exact ⟨rfl, rfl, rfl, rfl, rfl,  trivial⟩
  · exact (.cons_cons _ (.cons_cons _ (.cons_cons _ (.cons_cons _ .slnil))))
  intro z s1 hl1 hI
  obtain ⟨i_1, ys_1, vv_1⟩ := z
  dsimp only at hI ⊢
  have hrc := hrc.mv hl1
  have hrt := hrt.mv hl1
  have hMK := hMK.mv hl1
  have hRK := hRK.mv hl1
  have hLs_1 := hLs_1.mv hl1
  obtain ⟨hI_1, hIr_1⟩ := hI
  refine cd_sr ?_
  refine ln_pv (pv_lss rfl rfl) rfl ?_
  refine ln_cd ?_
  refine cd_seq ?_
  refine cd_if rfl (fun hc1 => ?_) (fun hc1 => ?_)
  · -- yes
    refine cd_skip ?_
    refine at_cd ?_
    refine cd_seq ?_
    refine cd_block ?_
    have hi_1 : i_1 < (els (y.at_ 1)).length := by omega
    have hsl_1 : ((els (y.at_ 1)).take (i_1 + 1)).length = ((els (y.at_ 1)).take i_1).length + 1 := by simp only [List.length_take]; omega
    have hil_1 : ((els (y.at_ 1)).take i_1).length = i_1 := by rw [List.length_take]; omega
    obtain ⟨gE_1, oE_1, cE_1, hadE_1, hrce_1, hme_1⟩ := hLs_1.at_ hi_1 (show esl _ _ = 4 by kernel_rfl)
    subst hadE_1
    have hme_1 := RE_part hme_1
    have htge_1 : tgT F_sShareAcknowledgeRequestTopicPartitionAcknowledgementBatch (els (y.at_ 1))[i_1] := by have h := (tgF_list.1 qg1).2 _ (List.getElem_mem hi_1); rw [if_pos rfl] at h; exact h
    refine cd_sr ?_
    refine ln_pv (pv_move rfl) rfl ?_
    refine ln_pv (pv_assign rfl) rfl ?_
    refine ln_cd ?_
    refine cd_dr3 [1, 2, 3] [] [0] 1 2 [2, 3] [1, 3] mixed (by kernel_rfl) ?_
    refine lo_eff rfl rfl ?_
    refine ln_alloc tibool rfl rfl (fun b3 => ?_)
    refine lo_last (by kernel_rfl) ?_
    refine lo_nil (at_two ?_ ?_)
    · skip
      refine lo_eff rfl rfl ?_
      refine ln_store1 (i := 0) rfl rfl rfl rfl (tibool).size rfl ?_
      refine lo_last (by kernel_rfl) ?_
      refine lo_eff rfl rfl ?_
      refine ln_store1 (i := 0) rfl rfl rfl rfl (tibool).size rfl ?_
      refine lo_last (by kernel_rfl) ?_
      refine lo_eff rfl rfl ?_
      refine ln_pv (pv_ldo (i := 0) rfl Tryz.underlying4 rfl rfl rfl) rfl ?_
      refine lo_last (by kernel_rfl) ?_
      refine lo_cd ?_
      refine cd_ff rfl ?_
      refine cd_draw' [0, 2, 3, 4] [0, 1, 2, 3, 4, 5, 6, 7, 8, 9, 10, 11, 12, 17] [0, 1, 2, 3, 4, 5, 6, 7, 8, 9, 10, 11, 12, 13, 14, 15, 16, 17, 18] mixed (by kernel_rfl) ?_
      refine lo_pv rfl rfl (sk_js (Tr.refl _) [0, 2, 3, 4] rfl) (pv_fieldAddr (off := 3) (r := 3) Tryz.underlying37 rfl (tiSl_impl_Tree).size rfl rfl rfl) rfl ?_
      refine lo_pv rfl rfl (sk_js (Tr.refl _) [0, 2, 3, 4] rfl) (pv_ldo (i := 1) rfl Tryz.underlying34 rfl rfl rfl) rfl ?_
      refine lo_pv rfl rfl (sk_js (Tr.refl _) [0, 2, 3, 4] rfl) (pv_fieldAddr (off := 3) (r := 3) Tryz.underlying37 rfl (tiSl_impl_Tree).size rfl rfl rfl) rfl ?_
      refine lo_pv rfl rfl (sk_js (Tr.refl _) [0, 2, 3, 4] rfl) (pv_ldo (i := 1) rfl Tryz.underlying34 rfl rfl rfl) rfl ?_
      refine lo_pv rfl rfl (sk_js (Tr.refl _) [0, 2, 3, 4] rfl) (pv_ixN (o := 0) (i := 1) Tryz.underlying34 (tiimpl_Tree).size rfl rfl (by decide)) rfl ?_
      refine lo_pv rfl rfl (sk_js (Tr.refl _) [0, 2, 3, 4] rfl) (pv_fieldAddr (off := 3) (r := 8) Tryz.underlying37 rfl (tiSl_impl_Tree).size rfl rfl rfl) rfl ?_
      refine lo_pv rfl rfl (sk_js (Tr.refl _) [0, 2, 3, 4] rfl) (pv_ldo (i := 2) rfl Tryz.underlying34 rfl rfl rfl) rfl ?_
      refine lo_pv rfl rfl (sk_js (Tr.refl _) [0, 2, 3, 4] rfl) (pv_move rfl) rfl ?_
      refine lo_pv rfl rfl (sk_js (Tr.refl _) [0, 2, 3, 4] rfl) (pv_nilCheck rfl) rfl ?_
      refine lo_pv rfl rfl (sk_js (Tr.refl _) [0, 2, 3, 4] rfl) (pv_fieldAddr (off := 1)  Tryz.underlying234 rfl (tiSl_kmsg_ShareAcknowledgeRequestTopicPartitionAcknowledgementBatch).size rfl rfl rfl) rfl ?_
      refine lo_pv rfl rfl (sk_js (Tr.refl _) [0, 2, 3, 4] rfl) (pv_ldr (j := 1) hrc Tryz.underlying232 rfl rfl rfl) rfl ?_
      refine lo_pv rfl rfl (sk_js (Tr.refl _) [0, 2, 3, 4] rfl) (pv_move rfl) rfl ?_
      refine lo_pv rfl rfl (sk_js (Tr.refl _) [0, 2, 3, 4] rfl) (pv_ixN Tryz.underlying232 (tipub_kmsg_ShareAcknowledgeRequestTopicPartitionAcknowledgementBatch).size rfl rfl hi_1) rfl ?_
      refine lo_eff rfl rfl ?_
      refine ln_callA en_250 rfl (fun u hu => tell_ShareAcknowledgeRequestTopicPartitionAcknowledgementBatch u gE_1 (oE_1 + i_1 * 4) (els (y.at_ 1))[i_1] cE_1 (hrce_1.mv hu).2 (RMp.mv hme_1 hu) htge_1) rfl (fun u1 v1 ht1 hR1 => ?_)
      have hrc := hrc.mv ht1
      have hrt := hrt.mv ht1
      have hMK := hMK.mv ht1
      have hRK := hRK.mv ht1
      have hLs_1 := hLs_1.mv ht1
      have hIr_1 := hIr_1.mv ht1
      have hrce_1 := hrce_1.mv ht1
      have hme_1 := hme_1.mv ht1
      obtain ⟨dsF1, rfl, hdF1⟩ := hR1
      refine lo_back (sk_js ht1 [0, 2, 3, 4] rfl) ?_
      refine lo_eff rfl rfl ?_
      refine ln_lit (vs := [_]) Tryz.underlying34 tiimpl_Tree rfl (by decide) rfl rfl rfl (by simp [partsOk, Value.cells, hdF1.len]; try exact .inl rfl) rfl rfl (fun b4 => ?_)
      refine lo_back (sk_js ht1 [1, 3, 4, 5] rfl) ?_
      refine lo_eff rfl rfl ?_
      refine ln_append (i := 2) rfl Tryz.underlying34 tiimpl_Tree rfl (by decide) rfl rfl (src_obj (j := 0) rfl (by simp [flat, Value.cells, hdF1.len]) (List.all_eq_true.2 (by simpa [flat, Value.cells] using hdF1.cells))) (by rw [hil_1]; first | omega | (simp only [maxLen]; omega)) (by rw [hil_1]; first | omega | (simp only [maxLen]; omega)) rfl (k' := ((els (y.at_ 1)).take (i_1 + 1)).length) (xs' := ys_1 ++ dsF1) hsl_1.symm (by simp [flat, Value.cells]) (fun v2 hv2 => ?_)
      refine lo_back (sk_js ht1 [1, 3, 4, 5] rfl) ?_
      refine lo_eff rfl rfl ?_
      refine ln_pv (pv_ixN (o := 0) (i := 1) Tryz.underlying34 (tiimpl_Tree).size rfl rfl (by decide)) rfl ?_
      refine lo_back (sk_js ht1 [1, 3, 4, 5] rfl) ?_
      refine lo_pv rfl rfl (sk_js ht1 [1, 3, 4, 5] rfl) (pv_fieldAddr (off := 3) (r := 8) Tryz.underlying37 rfl (tiSl_impl_Tree).size rfl rfl rfl) rfl ?_
      refine lo_eff rfl rfl ?_
      refine ln_store1 (i := 4) rfl rfl rfl hv2.2 (tiSl_impl_Tree).size rfl ?_
      refine lo_last (by kernel_rfl) ?_
      refine lo_nil ?_
      refine at_cd ?_
      refine cd_region ?_
      refine ln_pv (pv_add' rfl rfl (wrap_succ (by omega))) rfl ?_
      refine ln_pv (pv_move rfl) rfl ?_
      refine ln_nil ?_
      refine at_rnd (i_1 + 1, ys_1 ++ dsF1, v2) (hl1.trans ht1) ?_ ?_ ⟨rfl, rfl, rfl, rfl, rfl,  trivial⟩ (.cons _ (.cons _ (.cons_cons _ (.cons_cons _ (.cons_cons _ (.cons_cons _ .slnil))))))
      · intro s9 hs9
        exact ⟨by dsimp only; omega, RTs_snoc hi_1 (RTs.mv hIr_1 hs9) (RT.mv hdF1 hs9)⟩
      · dsimp only; omega
    · skip
      refine lo_eff rfl rfl ?_
      refine ln_store1 (i := 0) rfl rfl rfl rfl (tibool).size rfl ?_
      refine lo_last (by kernel_rfl) ?_
      refine lo_eff rfl rfl ?_
      refine ln_store1 (i := 0) rfl rfl rfl rfl (tibool).size rfl ?_
      refine lo_last (by kernel_rfl) ?_
      refine lo_eff rfl rfl ?_
      refine ln_pv (pv_ldo (i := 0) rfl Tryz.underlying4 rfl rfl rfl) rfl ?_
      refine lo_last (by kernel_rfl) ?_
      refine lo_cd ?_
      refine cd_tt rfl ?_
      refine cd_rowshape (i := 1) rfl (fun adR_1 cpR_1 hvR_1 hleR_1 hposR_1 => ?_)
      subst hvR_1
      refine cd_dr2 [0, 2, 3, 4] [0, 1, 2, 3, 4, 5, 6, 7, 8, 9, 10, 12, 16] [0, 1, 2, 3, 4, 5, 6, 7, 8, 9, 10, 12] 11 13 [13, 14, 15, 16, 17] [11, 14, 15, 16, 17] mixed (by kernel_rfl) ?_
      refine lo_pv rfl rfl (sk_js (Tr.refl _) [0, 2, 3, 4] rfl) (pv_fieldAddr (off := 3) (r := 3) Tryz.underlying37 rfl (tiSl_impl_Tree).size rfl rfl rfl) rfl ?_
      refine lo_pv rfl rfl (sk_js (Tr.refl _) [0, 2, 3, 4] rfl) (pv_ldo (i := 1) rfl Tryz.underlying34 rfl rfl rfl) rfl ?_
      refine lo_pv rfl rfl (sk_js (Tr.refl _) [0, 2, 3, 4] rfl) (pv_ixN (o := 0) (i := 1) Tryz.underlying34 (tiimpl_Tree).size rfl rfl (by decide)) rfl ?_
      refine lo_pv rfl rfl (sk_js (Tr.refl _) [0, 2, 3, 4] rfl) (pv_fieldAddr (off := 3) (r := 8) Tryz.underlying37 rfl (tiSl_impl_Tree).size rfl rfl rfl) rfl ?_
      refine lo_pv rfl rfl (sk_js (Tr.refl _) [0, 2, 3, 4] rfl) (pv_ldo (i := 2) rfl Tryz.underlying34 rfl rfl rfl) rfl ?_
      refine lo_pv rfl rfl (sk_js (Tr.refl _) [0, 2, 3, 4] rfl) (pv_move rfl) rfl ?_
      refine lo_pv rfl rfl (sk_js (Tr.refl _) [0, 2, 3, 4] rfl) (pv_nilCheck rfl) rfl ?_
      refine lo_pv rfl rfl (sk_js (Tr.refl _) [0, 2, 3, 4] rfl) (pv_fieldAddr (off := 1)  Tryz.underlying234 rfl (tiSl_kmsg_ShareAcknowledgeRequestTopicPartitionAcknowledgementBatch).size rfl rfl rfl) rfl ?_
      refine lo_pv rfl rfl (sk_js (Tr.refl _) [0, 2, 3, 4] rfl) (pv_ldr (j := 1) hrc Tryz.underlying232 rfl rfl rfl) rfl ?_
      refine lo_pv rfl rfl (sk_js (Tr.refl _) [0, 2, 3, 4] rfl) (pv_move rfl) rfl ?_
      refine lo_pv rfl rfl (sk_js (Tr.refl _) [0, 2, 3, 4] rfl) (pv_ixN Tryz.underlying232 (tipub_kmsg_ShareAcknowledgeRequestTopicPartitionAcknowledgementBatch).size rfl rfl hi_1) rfl ?_
      refine lo_pv rfl rfl (sk_js (Tr.refl _) [0, 2, 3, 4] rfl) (pv_len_slice Tryz.underlying34 rfl) rfl ?_
      refine lo_nil (at_two ?_ ?_)
      · skip
        refine lo_eff rfl rfl ?_
        refine ln_callA en_250 rfl (fun u hu => tell_ShareAcknowledgeRequestTopicPartitionAcknowledgementBatch u gE_1 (oE_1 + i_1 * 4) (els (y.at_ 1))[i_1] cE_1 (hrce_1.mv hu).2 (RMp.mv hme_1 hu) htge_1) rfl (fun u3 v3 ht3 hR3 => ?_)
        have hrc := hrc.mv ht3
        have hrt := hrt.mv ht3
        have hMK := hMK.mv ht3
        have hRK := hRK.mv ht3
        have hLs_1 := hLs_1.mv ht3
        have hIr_1 := hIr_1.mv ht3
        have hrce_1 := hrce_1.mv ht3
        have hme_1 := hme_1.mv ht3
        obtain ⟨dsF1, rfl, hdF1⟩ := hR3
        refine lo_back (sk_js ht3 [0, 2, 3, 4] rfl) ?_
        refine lo_eff rfl rfl ?_
        refine ln_lit (vs := [_]) Tryz.underlying34 tiimpl_Tree rfl (by decide) rfl rfl rfl rfl rfl rfl (fun b5 => ?_)
        refine lo_back (sk_js ht3 [1, 3, 4, 5] rfl) ?_
        refine lo_eff rfl rfl ?_
        refine ln_append (i := 2) rfl Tryz.underlying34 tiimpl_Tree rfl (by decide) rfl rfl (src_obj (j := 0) rfl rfl rfl) (by rw [hil_1]; first | omega | (simp only [maxLen]; omega)) (by rw [hil_1]; first | omega | (simp only [maxLen]; omega)) rfl (k' := ((els (y.at_ 1)).take (i_1 + 1)).length) (xs' := ys_1 ++ [.int .i64 0, .slice none 0 0, .bool false, .slice none 0 0, .slice none 0 0]) hsl_1.symm (by simp [flat, Value.cells]) (fun v4 hv4 => ?_)
        refine lo_back (sk_js ht3 [1, 3, 4, 5] rfl) ?_
        refine lo_eff rfl rfl ?_
        refine ln_pv (pv_ixN (o := 0) (i := 1) Tryz.underlying34 (tiimpl_Tree).size rfl rfl (by decide)) rfl ?_
        refine lo_back (sk_js ht3 [1, 3, 4, 5] rfl) ?_
        refine lo_pv rfl rfl (sk_js ht3 [1, 3, 4, 5] rfl) (pv_fieldAddr (off := 3) (r := 8) Tryz.underlying37 rfl (tiSl_impl_Tree).size rfl rfl rfl) rfl ?_
        refine lo_eff rfl rfl ?_
        refine ln_store1 (i := 4) rfl rfl rfl hv4.2 (tiSl_impl_Tree).size rfl ?_
        refine lo_last (by kernel_rfl) ?_
        refine lo_cd ?_
        refine cd_region ?_
        refine ln_rowshp (i := 2) rfl (fun ad2_1 cp2_1 hv2_1 hle2_1 hpos2_1 => ?_)
        subst hv2_1
        obtain ⟨g2_1, rfl⟩ := hpos2_1 (by omega)
        refine ln_pv (pv_ixN Tryz.underlying34 tiimpl_Tree.size rfl rfl (by omega)) rfl ?_
        refine ln_storeR (i := 2) (vs := dsF1) (xs' := ys_1 ++ dsF1) rfl rfl rfl rfl (by rw [show List.length _ = 5 from hdF1.len]; exact tiimpl_Tree.size) (by have h5 : List.length (dsF1) = 5 := hdF1.len; omega) hdF1.cells (wr_end (show 5 = List.length _ from Eq.symm hdF1.len) (by have h6 := (RTs.len5 hIr_1); simp only [List.length_map] at h6; omega)) ?_
        refine ln_nil ?_
        refine at_cd ?_
        refine cd_region ?_
        refine ln_pv (pv_add' rfl rfl (wrap_succ (by omega))) rfl ?_
        refine ln_pv (pv_move rfl) rfl ?_
        refine ln_nil ?_
        refine at_rnd (i_1 + 1, ys_1 ++ dsF1, (.slice (some ⟨g2_1, 0, none⟩) ((els (y.at_ 1)).take (i_1 + 1)).length cp2_1)) (hl1.trans ht3) ?_ ?_ ⟨rfl, rfl, rfl, rfl, rfl,  trivial⟩ (.cons _ (.cons _ (.cons_cons _ (.cons_cons _ (.cons_cons _ (.cons_cons _ .slnil))))))
        · intro s9 hs9
          exact ⟨by dsimp only; omega, RTs_snoc hi_1 (RTs.mv hIr_1 hs9) (RT.mv hdF1 hs9)⟩
        · dsimp only; omega
      · skip
        refine lo_eff rfl rfl ?_
        refine ln_lit (vs := [_]) Tryz.underlying34 tiimpl_Tree rfl (by decide) rfl rfl rfl rfl rfl rfl (fun b6 => ?_)
        refine lo_back (sk_js (Tr.refl _) [1, 3, 4, 5] rfl) ?_
        refine lo_eff rfl rfl ?_
        refine ln_callA en_250 rfl (fun u hu => tell_ShareAcknowledgeRequestTopicPartitionAcknowledgementBatch u gE_1 (oE_1 + i_1 * 4) (els (y.at_ 1))[i_1] cE_1 (hrce_1.mv hu).2 (RMp.mv hme_1 hu) htge_1) rfl (fun u6 v6 ht6 hR6 => ?_)
        have hrc := hrc.mv ht6
        have hrt := hrt.mv ht6
        have hMK := hMK.mv ht6
        have hRK := hRK.mv ht6
        have hLs_1 := hLs_1.mv ht6
        have hIr_1 := hIr_1.mv ht6
        have hrce_1 := hrce_1.mv ht6
        have hme_1 := hme_1.mv ht6
        obtain ⟨dsF1, rfl, hdF1⟩ := hR6
        refine lo_back (sk_js ht6 [1, 3, 4, 5] rfl) ?_
        refine lo_eff rfl rfl ?_
        refine ln_append (i := 2) rfl Tryz.underlying34 tiimpl_Tree rfl (by decide) rfl rfl (src_obj (j := 0) rfl rfl rfl) (by rw [hil_1]; first | omega | (simp only [maxLen]; omega)) (by rw [hil_1]; first | omega | (simp only [maxLen]; omega)) rfl (k' := ((els (y.at_ 1)).take (i_1 + 1)).length) (xs' := ys_1 ++ [.int .i64 0, .slice none 0 0, .bool false, .slice none 0 0, .slice none 0 0]) hsl_1.symm (by simp [flat, Value.cells]) (fun v7 hv7 => ?_)
        refine lo_back (sk_js ht6 [1, 3, 4, 5] rfl) ?_
        refine lo_eff rfl rfl ?_
        refine ln_pv (pv_ixN (o := 0) (i := 1) Tryz.underlying34 (tiimpl_Tree).size rfl rfl (by decide)) rfl ?_
        refine lo_back (sk_js ht6 [1, 3, 4, 5] rfl) ?_
        refine lo_pv rfl rfl (sk_js ht6 [1, 3, 4, 5] rfl) (pv_fieldAddr (off := 3) (r := 8) Tryz.underlying37 rfl (tiSl_impl_Tree).size rfl rfl rfl) rfl ?_
        refine lo_eff rfl rfl ?_
        refine ln_store1 (i := 4) rfl rfl rfl hv7.2 (tiSl_impl_Tree).size rfl ?_
        refine lo_last (by kernel_rfl) ?_
        refine lo_cd ?_
        refine cd_region ?_
        refine ln_rowshp (i := 2) rfl (fun ad2_1 cp2_1 hv2_1 hle2_1 hpos2_1 => ?_)
        subst hv2_1
        obtain ⟨g2_1, rfl⟩ := hpos2_1 (by omega)
        refine ln_pv (pv_ixN Tryz.underlying34 tiimpl_Tree.size rfl rfl (by omega)) rfl ?_
        refine ln_storeR (i := 2) (vs := dsF1) (xs' := ys_1 ++ dsF1) rfl rfl rfl rfl (by rw [show List.length _ = 5 from hdF1.len]; exact tiimpl_Tree.size) (by have h5 : List.length (dsF1) = 5 := hdF1.len; omega) hdF1.cells (wr_end (show 5 = List.length _ from Eq.symm hdF1.len) (by have h6 := (RTs.len5 hIr_1); simp only [List.length_map] at h6; omega)) ?_
        refine ln_nil ?_
        refine at_cd ?_
        refine cd_region ?_
        refine ln_pv (pv_add' rfl rfl (wrap_succ (by omega))) rfl ?_
        refine ln_pv (pv_move rfl) rfl ?_
        refine ln_nil ?_
        refine at_rnd (i_1 + 1, ys_1 ++ dsF1, (.slice (some ⟨g2_1, 0, none⟩) ((els (y.at_ 1)).take (i_1 + 1)).length cp2_1)) (hl1.trans ht6) ?_ ?_ ⟨rfl, rfl, rfl, rfl, rfl,  trivial⟩ (.cons _ (.cons _ (.cons_cons _ (.cons_cons _ (.cons_cons _ (.cons_cons _ .slnil))))))
        · intro s9 hs9
          exact ⟨by dsimp only; omega, RTs_snoc hi_1 (RTs.mv hIr_1 hs9) (RT.mv hdF1 hs9)⟩
        · dsimp only; omega
  · -- no
    refine cd_exit rfl ?_
    refine at_cd ?_
    have hq_1 : i_1 = (els (y.at_ 1)).length := by omega
    subst hq_1
    rw [List.take_length] at hIr_1
    refine cd_row (i := 0) (m' := ((els (y.at_ 1)).map (tlT F_sShareAcknowledgeRequestTopicPartitionAcknowledgementBatch)).length) (xs' := ys_1) rfl (by simp) rfl ?_
    refine cd_sr ?_
    refine ln_pv (pv_move rfl) rfl ?_
    refine ln_pv (pv_nilCheck rfl) rfl ?_
    refine ln_pv (pv_fieldAddr (off := 2)  Tryz.underlying234 rfl (tipub_kmsg_Tags).size rfl rfl rfl) rfl ?_
    refine ln_pv (pv_makeFunc (vf := #[]) (vc := #[.pointer (some ⟨b2, 0, none⟩)]) (by rw [List.map_toArray, List.map_toArray]; rfl) (by rw [List.map_toArray, List.map_toArray]; rfl)) rfl ?_
    refine ln_nilrow 69 2 ?_
    have hst := tclo_ShareAcknowledgeRequestTopicPartition b2 (.int .i64 0) (.slice none 0 0) (.bool false) (.slice (some ⟨bL, 0, none⟩) 2 2) y.u hkeys hlens (Nat.le_of_lt hlen)
    have hEa := fun (u : Vw) hr hm hk h0 hok hav hnd => tags_EachG (fun z => TA b2 (.int .i64 0) (.slice none 0 0) (.bool false) (.slice (some ⟨bL, 0, none⟩) 2 2) z) TB (TInv y.u) 251 (.pointer (some ⟨b2, 0, none⟩)) en_251 u b (o + 2) mv1 lt y.u (.slice none 0 0, [], 0) hr hm hk hsrt (by omega) h0 hst hok hav hnd
    refine ln_callH (E := [TA b2 (.int .i64 0) (.slice none 0 0) (.bool false) (.slice (some ⟨bL, 0, none⟩) 2 2) (.slice none 0 0, [], 0), TB (.slice none 0 0, [], 0)]) (H0 := [_, _, _]) (List.perm_middle (l₁ := [_, _])) en_125 rfl (fun u hu hok hav hnd => hEa u (RC1.mv hrt hu) (hMK.mv hu) (RK.mv hu hRK) (fun w hw => ⟨rfl, by rw [List.take_zero]; rfl⟩) hok hav hnd) rfl ?_
    rintro u9 v9 _ ht9 ⟨xu9, ⟨⟨vU, csU, kU⟩, rfl, hzU⟩, hxu9⟩
    obtain ⟨hkU, hRU⟩ := (hzU.mv hxu9).get
    dsimp only at hkU hRU
    subst hkU
    rw [List.take_length] at hRU
    have hrc := hrc.mv ht9
    have hrt := hrt.mv ht9
    have hMK := hMK.mv ht9
    have hRK := hRK.mv ht9
    have hLs_1 := hLs_1.mv ht9
    have hIr_1 := hIr_1.mv ht9
    refine ln_cd ?_
    refine cd_sr ?_
    refine ln_pv (pv_fieldAddr (off := 4) (r := 4) Tryz.underlying37 rfl (tiSl_impl_Tag).size rfl rfl rfl) rfl ?_
    refine ln_pv (pv_ldo (i := 0) rfl Tryz.underlying35 rfl rfl rfl) rfl ?_
    refine ln_callT (i := 1) en_127 rfl rfl (fun u hu hok hav => impl_sorted u vU y.u csU hsrt (by omega) (RUs.cells hRU).1 (fun i hi => by obtain ⟨c1, tv, c3, he, hc, _, _⟩ := RUs.at_ hi hRU; rw [he, List.append_assoc, List.getElem?_append_right (by omega), hc]; simp) hok hav) rfl ?_
    rintro u10 v10 _ ht10 ⟨_, rfl, _⟩
    have hrc := hrc.mv ht10
    have hrt := hrt.mv ht10
    have hMK := hMK.mv ht10
    have hRK := hRK.mv ht10
    have hLs_1 := hLs_1.mv ht10
    have hIr_1 := hIr_1.mv ht10
    have hRU := hRU.mv ht10
    refine ln_cd ?_
    refine cd_rowone (i := 1) rfl (fun hoU => ?_)
    refine cd_sr ?_
    refine ln_pv (pv_ldO (i := 0) rfl Tryz.underlying37 rfl (tiimpl_Tree).size rfl rfl) rfl ?_
    refine ln_storeW (i := 4) rfl rfl rfl rfl (tiimpl_Tree).size rfl (by simp [hoU]) ?_
    refine ln_cd ?_
    refine cd_ret ?_
    refine at_retC (i := 4) rfl rfl rfl Tryz.underlying37 rfl tiimpl_Tree.size rfl (fun w hS => ?_)
    have hRTs : RTs hS.fin [.mk (IntKind.i32.wrap (y.at_ 0).n) [] false [] [], .mk 0 [] (y.at_ 1).z ((els (y.at_ 1)).map (tlT F_sShareAcknowledgeRequestTopicPartitionAcknowledgementBatch)) []] _ := ⟨[.int .i64 (IntKind.i32.wrap (y.at_ 0).n), .slice none 0 0, .bool false, .slice none 0 0, .slice none 0 0], _, rfl, RT_num (I64_i32 _), ⟨[_, _, _, _, _], _, rfl, RT_list hnil1_1 rfl (row_rs hS (j := 2) rfl (RTs.cells hIr_1)) (RTs.mv hIr_1 hS.trFin), rfl⟩⟩
    refine ⟨_, rfl, RT.shut ⟨_, _, _, rfl, (show I64 0 from by unfold I64; omega), RS_nil 1, ⟨_, obj_rsS hS (i := 3) (sz := 5) (m := 2) rfl rfl (RTs.cells hRTs), hRTs⟩, ⟨csU, row_rs hS (j := 1) rfl (RUs.cells hRU).2, RUs.mv hS.trFin hRU⟩⟩⟩
theorem tclo_ShareAcknowledgeRequestTopic (b3 : Nat) (c0 c1 c2 c3 : Value) (us : Tags) (hk : ∀ y ∈ us, y.1 < 4294967296) (hl : ∀ y ∈ us, y.2.length ≤ 4398046511104) (hlen : us.length ≤ 1099511627776) : ∀ j (hj : j < us.length) (u : Vw) (z : Value × List Value × Nat) (tv : Value), Iv (TInv us) j u z → RSv u tv (us[j]'hj).2 → HF [TA b3 c0 c1 c2 c3 z, TB z] u.w → (∀ q ∈ blks [TA b3 c0 c1 c2 c3 z, TB z], u.av q) → (blks [TA b3 c0 c1 c2 c3 z, TB z]).Nodup → CH Tryz.prog 233 [.int .u32 ((us[j]'hj).1 : Int), tv, .pointer (some ⟨b3, 0, none⟩)] u [TA b3 c0 c1 c2 c3 z, TB z] fun u r E' => ∃ z', E' = [TA b3 c0 c1 c2 c3 z', TB z'] ∧ Iv (TInv us) (j + 1) u z' := by
  rintro j hj u ⟨vU, cs, k⟩ tv hz htv hok hav hnd
  obtain ⟨hk0, hR⟩ := hz.get
  dsimp only at hk0 hR
  subst hk0
  have hbl := hl _ (List.getElem_mem hj)
  obtain ⟨adV, cV, rfl, hleV⟩ := htv.shape
  refine ch_enter Tryz.func233 rfl Tryz.ntmps233 rfl hok hav hnd ?_
  refine cd_draw' [0] [0, 1, 2, 3, 5, 8] [0, 1, 2, 3, 4, 5, 6, 7, 8, 9] mixed (by kernel_rfl) ?_
  refine lo_pv rfl rfl (sk_js (Tr.refl _) [0] rfl) (pv_fieldAddr (off := 4) (r := 4) Tryz.underlying37 rfl (tiSl_impl_Tag).size rfl rfl rfl) rfl ?_
  refine lo_pv rfl rfl (sk_js (Tr.refl _) [0] rfl) (pv_ldo (i := 0) rfl Tryz.underlying35 rfl rfl rfl) rfl ?_
  refine lo_pv rfl rfl (sk_js (Tr.refl _) [0] rfl) (pv_move rfl) rfl ?_
  refine lo_pv rfl rfl (sk_js (Tr.refl _) [0] rfl) (pv_move rfl) rfl ?_
  refine lo_eff rfl rfl ?_
  refine ln_nilrow 5 1 ?_
  refine ln_append (i := 0) rfl Tryz.underlying22 tiuint8 rfl (by decide) rfl rfl (RS.src htv) (by simp only [maxLen]; omega) (by omega) rfl (k' := (us[k]'hj).2.length) (xs' := u8s (us[k]'hj).2) (by omega) (by simp) (fun vc hvc => ?_)
  refine ln_free1 (fun q h => by simpa using h) (fun s1 ht1 hK1 => ?_)
  have hcp : RSv s1 vc (us[k]'hj).2 := Known.rs hK1 (u8s_one _)
  clear hK1
  have htv := htv.mv ht1
  have hR := RUs.mv ht1 hR
  refine lo_back (sk_js ht1 [0] rfl) ?_
  refine lo_pv rfl rfl (sk_js ht1 [0] rfl) (pv_struct [(0, 1), (1, 1)] (l := [_, _]) rfl Tryz.underlying69 tiimpl_Tag (by kernel_rfl) rfl (by simp [okL, Nat.ble_eq, Value.cells, hvc.2])) rfl ?_
  refine lo_eff rfl rfl ?_
  refine ln_lit (vs := [_]) Tryz.underlying35 tiimpl_Tag rfl (by decide) rfl rfl rfl rfl rfl rfl (fun b1 => ?_)
  refine lo_back (sk_js ht1 [1] rfl) ?_
  refine lo_eff rfl rfl ?_
  refine ln_append (i := 2) rfl Tryz.underlying35 tiimpl_Tag rfl (by decide) rfl rfl (src_obj (j := 0) rfl rfl (by simp [flat, Value.cells, hvc.2])) (by first | omega | (simp only [maxLen]; omega)) (by first | omega | (simp only [maxLen]; omega)) rfl (k' := (k + 1)) (xs' := cs ++ [.int .u32 ((us[k]'hj).1 : Int), vc]) rfl (by simp [flat, Value.cells]) (fun v1 hv1 => ?_)
  refine lo_back (sk_js ht1 [1] rfl) ?_
  refine lo_pv rfl rfl (sk_js ht1 [1] rfl) (pv_fieldAddr (off := 4) (r := 4) Tryz.underlying37 rfl (tiSl_impl_Tag).size rfl rfl rfl) rfl ?_
  refine lo_eff rfl rfl ?_
  refine ln_store1 (i := 1) rfl rfl rfl hv1.2 (tiSl_impl_Tag).size rfl ?_
  refine lo_last (by kernel_rfl) ?_
  refine lo_nil ?_
  refine at_retH0 [TA b3 c0 c1 c2 c3 (v1, cs ++ [.int .u32 ((us[k]'hj).1 : Int), vc], k + 1), TB (v1, cs ++ [.int .u32 ((us[k]'hj).1 : Int), vc], k + 1)] (.cons _ (.cons_cons _ (.cons_cons _ .slnil))) rfl (fun w hS => ⟨(v1, cs ++ [.int .u32 ((us[k]'hj).1 : Int), vc], k + 1), rfl, fun w2 hw2 => ⟨rfl, ?_⟩⟩)
  rw [take_snoc' hj]
  have hq := (hS.trFinH _ _).trans hw2
  exact RUs.append (RUs.mv hq hR) (RUs.one_ (hk _ (List.getElem_mem hj)) (RSv.mv hcp hq))
theorem tlT_ShareAcknowledgeRequestTopic (y : Tre) : tlT F_sShareAcknowledgeRequestTopic y = .mk 0 [] false [.mk 0 (uuid (y.at_ 0).s) false [] [], .mk 0 [] (y.at_ 1).z ((els (y.at_ 1)).map (tlT F_sShareAcknowledgeRequestTopicPartition)) []] y.u := rfl
set_option maxHeartbeats 2000000 in
theorem tell_ShareAcknowledgeRequestTopic (t : Vw) (b o : Nat) (y : Tre) (cells : List Value) (hrc : RC t b o cells) (hM : RMp t F_sShareAcknowledgeRequestTopic y cells) (htg : tgT F_sShareAcknowledgeRequestTopic y) : CA Tryz.prog 177 [.pointer (some ⟨b, o, none⟩)] t fun u r => ∃ ds, r = .agg ds.toArray ∧ RT u (tlT F_sShareAcknowledgeRequestTopic y) ds := by
  rw [tlT_ShareAcknowledgeRequestTopic]
  obtain ⟨⟨hsrt, hkeys, hlens, hlen⟩, htl⟩ := htg
  simp only [F_sShareAcknowledgeRequestTopic, tgL] at htl
  obtain ⟨qg0, qg1, _⟩ := htl
  obtain ⟨fc1, mv1, hce1, hfl1, hTg1⟩ := hM
  simp only [F_sShareAcknowledgeRequestTopic, RMl] at hfl1
  obtain ⟨x1_0, z1_0, e1_0, g1_0, x1_1, z1_1, e1_1, g1_1, hend1⟩ := hfl1
  have hq1_0 := RMf_uuid.1 g1_0
  obtain ⟨u1_0_0, u1_0_1, u1_0_2, u1_0_3, u1_0_4, u1_0_5, u1_0_6, u1_0_7, u1_0_8, u1_0_9, u1_0_10, u1_0_11, u1_0_12, u1_0_13, u1_0_14, u1_0_15, hu1_0⟩ := uuid16 (y.at_ 0).s
  rw [hu1_0] at hq1_0
  subst hq1_0
  obtain ⟨_, rfl, Gg1_1⟩ := RMf_list.1 g1_1
  obtain ⟨ad1_1, cap1_1, rfl, hnil1_1, Hg1_1⟩ := Gg1_1.els
  subst hend1
  subst e1_1
  subst e1_0
  rw [hce1] at hrc
  simp only [List.cons_append, List.nil_append, List.append_assoc] at hrc
  have huu_0 : RSv t (.slice (some ⟨b, o + 0, none⟩) 16 16) (uuid (y.at_ 0).s) := uuid_rs (hrc.sub 0 (c1 := []) (c2 := [u1_0_0, u1_0_1, u1_0_2, u1_0_3, u1_0_4, u1_0_5, u1_0_6, u1_0_7, u1_0_8, u1_0_9, u1_0_10, u1_0_11, u1_0_12, u1_0_13, u1_0_14, u1_0_15]) rfl rfl) hu1_0
  have hLs_1 := LsF.of Hg1_1
  have hll_1 : (els (y.at_ 1)).length ≤ 32767 := (tgF_list.1 qg1).1
  obtain ⟨lt, hMK, hRK⟩ := hTg1
  have hrt : RC1 t b (o + 17) mv1 := hrc.sub 17 (c1 := [_, _, _, _, _, _, _, _, _, _, _, _, _, _, _, _, _]) (c2 := [mv1]) (c3 := []) rfl rfl
  have hrc : RCx t b o _ _ := hrc
  refine ca_enter Tryz.func177 rfl Tryz.ntmps177 rfl ?_
  refine cd_sr ?_
  refine ln_alloc tiimpl_Tree rfl rfl (fun b1 => ?_)
  refine ln_cd ?_
  refine cd_sr ?_
  refine ln_makeN (m := 2) (l := [.int .i64 0, .slice none 0 0, .bool false, .slice none 0 0, .slice none 0 0, .int .i64 0, .slice none 0 0, .bool false, .slice none 0 0, .slice none 0 0]) Tryz.underlying34 tiimpl_Tree rfl rfl (by kernel_rfl) (by decide) (by decide) rfl (fun bL => ?_)
  refine ln_pv (pv_struct [(0, 1), (1, 1), (2, 1), (3, 1), (4, 1)] (l := [_, _, _, _, _]) rfl Tryz.underlying37 tiimpl_Tree (by kernel_rfl) rfl rfl) rfl ?_
  refine ln_alloc tiimpl_Tree rfl rfl (fun b2 => ?_)
  refine ln_storeW (i := 0) rfl rfl rfl rfl (tiimpl_Tree).size rfl (by simp []) ?_
  refine ln_cd ?_
  refine cd_dr' [0, 1, 2] [0, 1, 2, 3, 4, 5, 7, 8] [0, 1, 2, 3, 4, 5, 6, 7, 8, 9] mixed (by kernel_rfl) ?_
  refine lo_pv rfl rfl (sk_js (Tr.refl _) [0, 1, 2] rfl) (pv_fieldAddr (off := 3) (r := 3) Tryz.underlying37 rfl (tiSl_impl_Tree).size rfl rfl rfl) rfl ?_
  refine lo_pv rfl rfl (sk_js (Tr.refl _) [0, 1, 2] rfl) (pv_ldo (i := 0) rfl Tryz.underlying34 rfl rfl rfl) rfl ?_
  refine lo_pv rfl rfl (sk_js (Tr.refl _) [0, 1, 2] rfl) (pv_move rfl) rfl ?_
  refine lo_pv rfl rfl (sk_js (Tr.refl _) [0, 1, 2] rfl) (pv_nilCheck rfl) rfl ?_
  refine lo_pv rfl rfl (sk_js (Tr.refl _) [0, 1, 2] rfl) (pv_fieldAddr (off := 0)  Tryz.underlying197 rfl (ti_16_uint8).size rfl rfl rfl) rfl ?_
  refine lo_pv rfl rfl (sk_js (Tr.refl _) [0, 1, 2] rfl) (pv_slice_arro Tryz.underlying136 (size_some (tiuint8 : TI Tryz.prog _ _ _ _).size) rfl) rfl ?_
  refine lo_eff rfl rfl ?_
  refine ln_nilrow 5 1 ?_
  refine ln_append (i := 0) rfl Tryz.underlying22 tiuint8 rfl (by decide) rfl rfl (RS.src huu_0) (by rw [uuid_length]; simp only [maxLen]; omega) (by rw [uuid_length]; omega) rfl (k' := (uuid (y.at_ 0).s).length) (xs' := u8s (uuid (y.at_ 0).s)) (by omega) (by simp) (fun vI0 hvI0 => ?_)
  refine ln_free1 (fun q h => h.elim) (fun sI0 htI0 hKI0 => ?_)
  have hcI0 : RSv sI0 vI0 (uuid (y.at_ 0).s) := Known.rs hKI0 (u8s_one _)
  clear hKI0
  have hrc := hrc.mv htI0
  have hrt := hrt.mv htI0
  have hMK := hMK.mv htI0
  have hRK := hRK.mv htI0
  have huu_0 := huu_0.mv htI0
  have hLs_1 := hLs_1.mv htI0
  refine lo_back (sk_js htI0 [0, 1, 2] rfl) ?_
  refine lo_pv rfl rfl (sk_js htI0 [0, 1, 2] rfl) (pv_struct [(0, 1), (1, 1), (2, 1), (3, 1), (4, 1)] (l := [_, _, _, _, _]) rfl Tryz.underlying37 tiimpl_Tree (by kernel_rfl) rfl (by simp [okL, Nat.ble_eq, Value.cells, (RS.one hcI0)])) rfl ?_
  refine lo_pv rfl rfl (sk_js htI0 [0, 1, 2] rfl) (pv_ixN (o := 0) (i := 0) Tryz.underlying34 (tiimpl_Tree).size rfl rfl (by decide)) rfl ?_
  refine lo_eff rfl rfl ?_
  refine ln_store (i := 1) (vs := [_, _, _, _, _]) rfl rfl rfl rfl (tiimpl_Tree).size rfl (by simp [(RS.one hcI0)]) rfl ?_
  refine lo_last (by kernel_rfl) ?_
  refine lo_cd ?_
  refine cd_dr' [0, 1, 2] [0, 1, 2, 3, 4, 5, 6, 8] [0, 1, 2, 3, 4, 5, 6, 7, 8, 9] mixed (by kernel_rfl) ?_
  refine lo_pv rfl rfl (sk_js (Tr.refl _) [0, 1, 2] rfl) (pv_fieldAddr (off := 3) (r := 3) Tryz.underlying37 rfl (tiSl_impl_Tree).size rfl rfl rfl) rfl ?_
  refine lo_pv rfl rfl (sk_js (Tr.refl _) [0, 1, 2] rfl) (pv_ldo (i := 0) rfl Tryz.underlying34 rfl rfl rfl) rfl ?_
  refine lo_pv rfl rfl (sk_js (Tr.refl _) [0, 1, 2] rfl) (pv_move rfl) rfl ?_
  refine lo_pv rfl rfl (sk_js (Tr.refl _) [0, 1, 2] rfl) (pv_nilCheck rfl) rfl ?_
  refine lo_pv rfl rfl (sk_js (Tr.refl _) [0, 1, 2] rfl) (pv_fieldAddr (off := 16)  Tryz.underlying197 rfl (tiSl_kmsg_ShareAcknowledgeRequestTopicPartition).size rfl rfl rfl) rfl ?_
  refine lo_pv rfl rfl (sk_js (Tr.refl _) [0, 1, 2] rfl) (pv_ldr (j := 16) hrc Tryz.underlying195 rfl rfl rfl) rfl ?_
  refine lo_pv rfl rfl (sk_js (Tr.refl _) [0, 1, 2] rfl) (pv_eqS Tryz.underlying195 rfl rfl) rfl ?_
  refine lo_eff rfl rfl ?_
  refine ln_pv (pv_ixN (o := 0) (i := 1) Tryz.underlying34 (tiimpl_Tree).size rfl rfl (by decide)) rfl ?_
  refine lo_back (sk_js (Tr.refl _) [0, 1, 2] rfl) ?_
  refine lo_pv rfl rfl (sk_js (Tr.refl _) [0, 1, 2] rfl) (pv_fieldAddr (off := 2) (r := 7) Tryz.underlying37 rfl (tibool).size rfl rfl rfl) rfl ?_
  refine lo_eff rfl rfl ?_
  refine ln_store1 (i := 1) rfl rfl rfl rfl (tibool).size rfl ?_
  refine lo_last (by kernel_rfl) ?_
  refine lo_cd ?_
  refine cd_seq ?_
  refine cd_nilrow 37 5 ?_
  refine cd_sr ?_
  refine ln_pv (pv_move rfl) rfl ?_
  refine ln_pv (pv_nilCheck rfl) rfl ?_
  refine ln_pv (pv_fieldAddr (off := 16)  Tryz.underlying197 rfl (tiSl_kmsg_ShareAcknowledgeRequestTopicPartition).size rfl rfl rfl) rfl ?_
  refine ln_pv (pv_ldr (j := 16) hrc Tryz.underlying195 rfl rfl rfl) rfl ?_
  refine ln_pv (pv_len_slice Tryz.underlying195 rfl) rfl ?_
  refine ln_pv (pv_move rfl) rfl ?_
  refine ln_cd ?_
  refine cd_block ?_
  refine cd_loop (⟨fun (z : Nat × List Value × Value) => [(0, .pointer (some ⟨b, o, none⟩)), (2, .pointer (some ⟨b1, 0, none⟩)), (3, .pointer (some ⟨b2, 0, none⟩)), (29, .int .i64 ((els (y.at_ 1)).length : Int)), (30, .int .i64 ((z.1 : Nat) : Int))], fun (z : Nat × List Value × Value) => [.row z.2.2 37 5 ((els (y.at_ 1)).take z.1).length z.2.1, .obj b2 (.cells [.int .i64 0, .slice none 0 0, .bool false, .slice (some ⟨bL, 0, none⟩) 2 2, .slice none 0 0].toArray 37), .obj bL (.cells [.int .i64 0, vI0, .bool false, .slice none 0 0, .slice none 0 0, .int .i64 0, .slice none 0 0, .bool ad1_1.isNone, z.2.2, .slice none 0 0].toArray 37), .obj b1 (.cells [.int .i64 0, .slice none 0 0, .bool false, .slice none 0 0, .slice none 0 0].toArray 37)], fun (z : Nat × List Value × Value) s => z.1 ≤ (els (y.at_ 1)).length ∧ RTs s (((els (y.at_ 1)).take z.1).map (tlT F_sShareAcknowledgeRequestTopicPartition)) z.2.1, fun (z : Nat × List Value × Value) => (els (y.at_ 1)).length - z.1⟩ : Lp (Nat × List Value × Value)) (0, [], .slice none 0 0) ?_ ?_ ?_ ?_
  · intro s0 hs0
    exact ⟨Nat.zero_le _, rfl⟩
  · exact ⟨rfl, rfl, rfl, rfl, rfl,  trivial⟩
  · exact (.cons_cons _ (.cons_cons _ (.cons_cons _ (.cons_cons _ .slnil))))
  intro z s1 hl1 hI
  obtain ⟨i_1, ys_1, vv_1⟩ := z
  dsimp only at hI ⊢
  have hrc := hrc.mv hl1
  have hrt := hrt.mv hl1
  have hMK := hMK.mv hl1
  have hRK := hRK.mv hl1
  have huu_0 := huu_0.mv hl1
  have hLs_1 := hLs_1.mv hl1
  have hcI0 := hcI0.mv hl1
  obtain ⟨hI_1, hIr_1⟩ := hI
  refine cd_sr ?_
  refine ln_pv (pv_lss rfl rfl) rfl ?_
  refine ln_cd ?_
  refine cd_seq ?_
  refine cd_if rfl (fun hc1 => ?_) (fun hc1 => ?_)
  · -- yes
    refine cd_skip ?_
    refine at_cd ?_
    refine cd_seq ?_
    refine cd_block ?_
    have hi_1 : i_1 < (els (y.at_ 1)).length := by omega
    have hsl_1 : ((els (y.at_ 1)).take (i_1 + 1)).length = ((els (y.at_ 1)).take i_1).length + 1 := by simp only [List.length_take]; omega
    have hil_1 : ((els (y.at_ 1)).take i_1).length = i_1 := by rw [List.length_take]; omega
    obtain ⟨gE_1, oE_1, cE_1, hadE_1, hrce_1, hme_1⟩ := hLs_1.at_ hi_1 (show esl _ _ = 3 by kernel_rfl)
    subst hadE_1
    have hme_1 := RE_part hme_1
    have htge_1 : tgT F_sShareAcknowledgeRequestTopicPartition (els (y.at_ 1))[i_1] := by have h := (tgF_list.1 qg1).2 _ (List.getElem_mem hi_1); rw [if_pos rfl] at h; exact h
    refine cd_sr ?_
    refine ln_pv (pv_move rfl) rfl ?_
    refine ln_pv (pv_assign rfl) rfl ?_
    refine ln_cd ?_
    refine cd_dr3 [1, 2, 3] [] [0] 1 2 [2, 3] [1, 3] mixed (by kernel_rfl) ?_
    refine lo_eff rfl rfl ?_
    refine ln_alloc tibool rfl rfl (fun b3 => ?_)
    refine lo_last (by kernel_rfl) ?_
    refine lo_nil (at_two ?_ ?_)
    · skip
      refine lo_eff rfl rfl ?_
      refine ln_store1 (i := 0) rfl rfl rfl rfl (tibool).size rfl ?_
      refine lo_last (by kernel_rfl) ?_
      refine lo_eff rfl rfl ?_
      refine ln_store1 (i := 0) rfl rfl rfl rfl (tibool).size rfl ?_
      refine lo_last (by kernel_rfl) ?_
      refine lo_eff rfl rfl ?_
      refine ln_pv (pv_ldo (i := 0) rfl Tryz.underlying4 rfl rfl rfl) rfl ?_
      refine lo_last (by kernel_rfl) ?_
      refine lo_cd ?_
      refine cd_ff rfl ?_
      refine cd_draw' [0, 2, 3, 4] [0, 1, 2, 3, 4, 5, 6, 7, 8, 9, 10, 11, 12, 17] [0, 1, 2, 3, 4, 5, 6, 7, 8, 9, 10, 11, 12, 13, 14, 15, 16, 17, 18] mixed (by kernel_rfl) ?_
      refine lo_pv rfl rfl (sk_js (Tr.refl _) [0, 2, 3, 4] rfl) (pv_fieldAddr (off := 3) (r := 3) Tryz.underlying37 rfl (tiSl_impl_Tree).size rfl rfl rfl) rfl ?_
      refine lo_pv rfl rfl (sk_js (Tr.refl _) [0, 2, 3, 4] rfl) (pv_ldo (i := 1) rfl Tryz.underlying34 rfl rfl rfl) rfl ?_
      refine lo_pv rfl rfl (sk_js (Tr.refl _) [0, 2, 3, 4] rfl) (pv_fieldAddr (off := 3) (r := 3) Tryz.underlying37 rfl (tiSl_impl_Tree).size rfl rfl rfl) rfl ?_
      refine lo_pv rfl rfl (sk_js (Tr.refl _) [0, 2, 3, 4] rfl) (pv_ldo (i := 1) rfl Tryz.underlying34 rfl rfl rfl) rfl ?_
      refine lo_pv rfl rfl (sk_js (Tr.refl _) [0, 2, 3, 4] rfl) (pv_ixN (o := 0) (i := 1) Tryz.underlying34 (tiimpl_Tree).size rfl rfl (by decide)) rfl ?_
      refine lo_pv rfl rfl (sk_js (Tr.refl _) [0, 2, 3, 4] rfl) (pv_fieldAddr (off := 3) (r := 8) Tryz.underlying37 rfl (tiSl_impl_Tree).size rfl rfl rfl) rfl ?_
      refine lo_pv rfl rfl (sk_js (Tr.refl _) [0, 2, 3, 4] rfl) (pv_ldo (i := 2) rfl Tryz.underlying34 rfl rfl rfl) rfl ?_
      refine lo_pv rfl rfl (sk_js (Tr.refl _) [0, 2, 3, 4] rfl) (pv_move rfl) rfl ?_
      refine lo_pv rfl rfl (sk_js (Tr.refl _) [0, 2, 3, 4] rfl) (pv_nilCheck rfl) rfl ?_
      refine lo_pv rfl rfl (sk_js (Tr.refl _) [0, 2, 3, 4] rfl) (pv_fieldAddr (off := 16)  Tryz.underlying197 rfl (tiSl_kmsg_ShareAcknowledgeRequestTopicPartition).size rfl rfl rfl) rfl ?_
      refine lo_pv rfl rfl (sk_js (Tr.refl _) [0, 2, 3, 4] rfl) (pv_ldr (j := 16) hrc Tryz.underlying195 rfl rfl rfl) rfl ?_
      refine lo_pv rfl rfl (sk_js (Tr.refl _) [0, 2, 3, 4] rfl) (pv_move rfl) rfl ?_
      refine lo_pv rfl rfl (sk_js (Tr.refl _) [0, 2, 3, 4] rfl) (pv_ixN Tryz.underlying195 (tipub_kmsg_ShareAcknowledgeRequestTopicPartition).size rfl rfl hi_1) rfl ?_
      refine lo_eff rfl rfl ?_
      refine ln_callA en_232 rfl (fun u hu => tell_ShareAcknowledgeRequestTopicPartition u gE_1 (oE_1 + i_1 * 3) (els (y.at_ 1))[i_1] cE_1 (hrce_1.mv hu).2 (RMp.mv hme_1 hu) htge_1) rfl (fun u1 v1 ht1 hR1 => ?_)
      have hrc := hrc.mv ht1
      have hrt := hrt.mv ht1
      have hMK := hMK.mv ht1
      have hRK := hRK.mv ht1
      have huu_0 := huu_0.mv ht1
      have hLs_1 := hLs_1.mv ht1
      have hcI0 := hcI0.mv ht1
      have hIr_1 := hIr_1.mv ht1
      have hrce_1 := hrce_1.mv ht1
      have hme_1 := hme_1.mv ht1
      obtain ⟨dsF1, rfl, hdF1⟩ := hR1
      refine lo_back (sk_js ht1 [0, 2, 3, 4] rfl) ?_
      refine lo_eff rfl rfl ?_
      refine ln_lit (vs := [_]) Tryz.underlying34 tiimpl_Tree rfl (by decide) rfl rfl rfl (by simp [partsOk, Value.cells, hdF1.len]; try exact .inl rfl) rfl rfl (fun b4 => ?_)
      refine lo_back (sk_js ht1 [1, 3, 4, 5] rfl) ?_
      refine lo_eff rfl rfl ?_
      refine ln_append (i := 2) rfl Tryz.underlying34 tiimpl_Tree rfl (by decide) rfl rfl (src_obj (j := 0) rfl (by simp [flat, Value.cells, hdF1.len]) (List.all_eq_true.2 (by simpa [flat, Value.cells] using hdF1.cells))) (by rw [hil_1]; first | omega | (simp only [maxLen]; omega)) (by rw [hil_1]; first | omega | (simp only [maxLen]; omega)) rfl (k' := ((els (y.at_ 1)).take (i_1 + 1)).length) (xs' := ys_1 ++ dsF1) hsl_1.symm (by simp [flat, Value.cells]) (fun v2 hv2 => ?_)
      refine lo_back (sk_js ht1 [1, 3, 4, 5] rfl) ?_
      refine lo_eff rfl rfl ?_
      refine ln_pv (pv_ixN (o := 0) (i := 1) Tryz.underlying34 (tiimpl_Tree).size rfl rfl (by decide)) rfl ?_
      refine lo_back (sk_js ht1 [1, 3, 4, 5] rfl) ?_
      refine lo_pv rfl rfl (sk_js ht1 [1, 3, 4, 5] rfl) (pv_fieldAddr (off := 3) (r := 8) Tryz.underlying37 rfl (tiSl_impl_Tree).size rfl rfl rfl) rfl ?_
      refine lo_eff rfl rfl ?_
      refine ln_store1 (i := 4) rfl rfl rfl hv2.2 (tiSl_impl_Tree).size rfl ?_
      refine lo_last (by kernel_rfl) ?_
      refine lo_nil ?_
      refine at_cd ?_
      refine cd_region ?_
      refine ln_pv (pv_add' rfl rfl (wrap_succ (by omega))) rfl ?_
      refine ln_pv (pv_move rfl) rfl ?_
      refine ln_nil ?_
      refine at_rnd (i_1 + 1, ys_1 ++ dsF1, v2) (hl1.trans ht1) ?_ ?_ ⟨rfl, rfl, rfl, rfl, rfl,  trivial⟩ (.cons _ (.cons _ (.cons_cons _ (.cons_cons _ (.cons_cons _ (.cons_cons _ .slnil))))))
      · intro s9 hs9
        exact ⟨by dsimp only; omega, RTs_snoc hi_1 (RTs.mv hIr_1 hs9) (RT.mv hdF1 hs9)⟩
      · dsimp only; omega
    · skip
      refine lo_eff rfl rfl ?_
      refine ln_store1 (i := 0) rfl rfl rfl rfl (tibool).size rfl ?_
      refine lo_last (by kernel_rfl) ?_
      refine lo_eff rfl rfl ?_
      refine ln_store1 (i := 0) rfl rfl rfl rfl (tibool).size rfl ?_
      refine lo_last (by kernel_rfl) ?_
      refine lo_eff rfl rfl ?_
      refine ln_pv (pv_ldo (i := 0) rfl Tryz.underlying4 rfl rfl rfl) rfl ?_
      refine lo_last (by kernel_rfl) ?_
      refine lo_cd ?_
      refine cd_tt rfl ?_
      refine cd_rowshape (i := 1) rfl (fun adR_1 cpR_1 hvR_1 hleR_1 hposR_1 => ?_)
      subst hvR_1
      refine cd_dr2 [0, 2, 3, 4] [0, 1, 2, 3, 4, 5, 6, 7, 8, 9, 10, 12, 16] [0, 1, 2, 3, 4, 5, 6, 7, 8, 9, 10, 12] 11 13 [13, 14, 15, 16, 17] [11, 14, 15, 16, 17] mixed (by kernel_rfl) ?_
      refine lo_pv rfl rfl (sk_js (Tr.refl _) [0, 2, 3, 4] rfl) (pv_fieldAddr (off := 3) (r := 3) Tryz.underlying37 rfl (tiSl_impl_Tree).size rfl rfl rfl) rfl ?_
      refine lo_pv rfl rfl (sk_js (Tr.refl _) [0, 2, 3, 4] rfl) (pv_ldo (i := 1) rfl Tryz.underlying34 rfl rfl rfl) rfl ?_
      refine lo_pv rfl rfl (sk_js (Tr.refl _) [0, 2, 3, 4] rfl) (pv_ixN (o := 0) (i := 1) Tryz.underlying34 (tiimpl_Tree).size rfl rfl (by decide)) rfl ?_
      refine lo_pv rfl rfl (sk_js (Tr.refl _) [0, 2, 3, 4] rfl) (pv_fieldAddr (off := 3) (r := 8) Tryz.underlying37 rfl (tiSl_impl_Tree).size rfl rfl rfl) rfl ?_
      refine lo_pv rfl rfl (sk_js (Tr.refl _) [0, 2, 3, 4] rfl) (pv_ldo (i := 2) rfl Tryz.underlying34 rfl rfl rfl) rfl ?_
      refine lo_pv rfl rfl (sk_js (Tr.refl _) [0, 2, 3, 4] rfl) (pv_move rfl) rfl ?_
      refine lo_pv rfl rfl (sk_js (Tr.refl _) [0, 2, 3, 4] rfl) (pv_nilCheck rfl) rfl ?_
      refine lo_pv rfl rfl (sk_js (Tr.refl _) [0, 2, 3, 4] rfl) (pv_fieldAddr (off := 16)  Tryz.underlying197 rfl (tiSl_kmsg_ShareAcknowledgeRequestTopicPartition).size rfl rfl rfl) rfl ?_
      refine lo_pv rfl rfl (sk_js (Tr.refl _) [0, 2, 3, 4] rfl) (pv_ldr (j := 16) hrc Tryz.underlying195 rfl rfl rfl) rfl ?_
      refine lo_pv rfl rfl (sk_js (Tr.refl _) [0, 2, 3, 4] rfl) (pv_move rfl) rfl ?_
      refine lo_pv rfl rfl (sk_js (Tr.refl _) [0, 2, 3, 4] rfl) (pv_ixN Tryz.underlying195 (tipub_kmsg_ShareAcknowledgeRequestTopicPartition).size rfl rfl hi_1) rfl ?_
      refine lo_pv rfl rfl (sk_js (Tr.refl _) [0, 2, 3, 4] rfl) (pv_len_slice Tryz.underlying34 rfl) rfl ?_
      refine lo_nil (at_two ?_ ?_)
      · skip
        refine lo_eff rfl rfl ?_
        refine ln_callA en_232 rfl (fun u hu => tell_ShareAcknowledgeRequestTopicPartition u gE_1 (oE_1 + i_1 * 3) (els (y.at_ 1))[i_1] cE_1 (hrce_1.mv hu).2 (RMp.mv hme_1 hu) htge_1) rfl (fun u3 v3 ht3 hR3 => ?_)
        have hrc := hrc.mv ht3
        have hrt := hrt.mv ht3
        have hMK := hMK.mv ht3
        have hRK := hRK.mv ht3
        have huu_0 := huu_0.mv ht3
        have hLs_1 := hLs_1.mv ht3
        have hcI0 := hcI0.mv ht3
        have hIr_1 := hIr_1.mv ht3
        have hrce_1 := hrce_1.mv ht3
        have hme_1 := hme_1.mv ht3
        obtain ⟨dsF1, rfl, hdF1⟩ := hR3
        refine lo_back (sk_js ht3 [0, 2, 3, 4] rfl) ?_
        refine lo_eff rfl rfl ?_
        refine ln_lit (vs := [_]) Tryz.underlying34 tiimpl_Tree rfl (by decide) rfl rfl rfl rfl rfl rfl (fun b5 => ?_)
        refine lo_back (sk_js ht3 [1, 3, 4, 5] rfl) ?_
        refine lo_eff rfl rfl ?_
        refine ln_append (i := 2) rfl Tryz.underlying34 tiimpl_Tree rfl (by decide) rfl rfl (src_obj (j := 0) rfl rfl rfl) (by rw [hil_1]; first | omega | (simp only [maxLen]; omega)) (by rw [hil_1]; first | omega | (simp only [maxLen]; omega)) rfl (k' := ((els (y.at_ 1)).take (i_1 + 1)).length) (xs' := ys_1 ++ [.int .i64 0, .slice none 0 0, .bool false, .slice none 0 0, .slice none 0 0]) hsl_1.symm (by simp [flat, Value.cells]) (fun v4 hv4 => ?_)
        refine lo_back (sk_js ht3 [1, 3, 4, 5] rfl) ?_
        refine lo_eff rfl rfl ?_
        refine ln_pv (pv_ixN (o := 0) (i := 1) Tryz.underlying34 (tiimpl_Tree).size rfl rfl (by decide)) rfl ?_
        refine lo_back (sk_js ht3 [1, 3, 4, 5] rfl) ?_
        refine lo_pv rfl rfl (sk_js ht3 [1, 3, 4, 5] rfl) (pv_fieldAddr (off := 3) (r := 8) Tryz.underlying37 rfl (tiSl_impl_Tree).size rfl rfl rfl) rfl ?_
        refine lo_eff rfl rfl ?_
        refine ln_store1 (i := 4) rfl rfl rfl hv4.2 (tiSl_impl_Tree).size rfl ?_
        refine lo_last (by kernel_rfl) ?_
        refine lo_cd ?_
        refine cd_region ?_
        refine ln_rowshp (i := 2) rfl (fun ad2_1 cp2_1 hv2_1 hle2_1 hpos2_1 => ?_)
        subst hv2_1
        obtain ⟨g2_1, rfl⟩ := hpos2_1 (by omega)
        refine ln_pv (pv_ixN Tryz.underlying34 tiimpl_Tree.size rfl rfl (by omega)) rfl ?_
        refine ln_storeR (i := 2) (vs := dsF1) (xs' := ys_1 ++ dsF1) rfl rfl rfl rfl (by rw [show List.length _ = 5 from hdF1.len]; exact tiimpl_Tree.size) (by have h5 : List.length (dsF1) = 5 := hdF1.len; omega) hdF1.cells (wr_end (show 5 = List.length _ from Eq.symm hdF1.len) (by have h6 := (RTs.len5 hIr_1); simp only [List.length_map] at h6; omega)) ?_
        refine ln_nil ?_
        refine at_cd ?_
        refine cd_region ?_
        refine ln_pv (pv_add' rfl rfl (wrap_succ (by omega))) rfl ?_
        refine ln_pv (pv_move rfl) rfl ?_
        refine ln_nil ?_
        refine at_rnd (i_1 + 1, ys_1 ++ dsF1, (.slice (some ⟨g2_1, 0, none⟩) ((els (y.at_ 1)).take (i_1 + 1)).length cp2_1)) (hl1.trans ht3) ?_ ?_ ⟨rfl, rfl, rfl, rfl, rfl,  trivial⟩ (.cons _ (.cons _ (.cons_cons _ (.cons_cons _ (.cons_cons _ (.cons_cons _ .slnil))))))
        · intro s9 hs9
          exact ⟨by dsimp only; omega, RTs_snoc hi_1 (RTs.mv hIr_1 hs9) (RT.mv hdF1 hs9)⟩
        · dsimp only; omega
      · skip
        refine lo_eff rfl rfl ?_
        refine ln_lit (vs := [_]) Tryz.underlying34 tiimpl_Tree rfl (by decide) rfl rfl rfl rfl rfl rfl (fun b6 => ?_)
        refine lo_back (sk_js (Tr.refl _) [1, 3, 4, 5] rfl) ?_
        refine lo_eff rfl rfl ?_
        refine ln_callA en_232 rfl (fun u hu => tell_ShareAcknowledgeRequestTopicPartition u gE_1 (oE_1 + i_1 * 3) (els (y.at_ 1))[i_1] cE_1 (hrce_1.mv hu).2 (RMp.mv hme_1 hu) htge_1) rfl (fun u6 v6 ht6 hR6 => ?_)
        have hrc := hrc.mv ht6
        have hrt := hrt.mv ht6
        have hMK := hMK.mv ht6
        have hRK := hRK.mv ht6
        have huu_0 := huu_0.mv ht6
        have hLs_1 := hLs_1.mv ht6
        have hcI0 := hcI0.mv ht6
        have hIr_1 := hIr_1.mv ht6
        have hrce_1 := hrce_1.mv ht6
        have hme_1 := hme_1.mv ht6
        obtain ⟨dsF1, rfl, hdF1⟩ := hR6
        refine lo_back (sk_js ht6 [1, 3, 4, 5] rfl) ?_
        refine lo_eff rfl rfl ?_
        refine ln_append (i := 2) rfl Tryz.underlying34 tiimpl_Tree rfl (by decide) rfl rfl (src_obj (j := 0) rfl rfl rfl) (by rw [hil_1]; first | omega | (simp only [maxLen]; omega)) (by rw [hil_1]; first | omega | (simp only [maxLen]; omega)) rfl (k' := ((els (y.at_ 1)).take (i_1 + 1)).length) (xs' := ys_1 ++ [.int .i64 0, .slice none 0 0, .bool false, .slice none 0 0, .slice none 0 0]) hsl_1.symm (by simp [flat, Value.cells]) (fun v7 hv7 => ?_)
        refine lo_back (sk_js ht6 [1, 3, 4, 5] rfl) ?_
        refine lo_eff rfl rfl ?_
        refine ln_pv (pv_ixN (o := 0) (i := 1) Tryz.underlying34 (tiimpl_Tree).size rfl rfl (by decide)) rfl ?_
        refine lo_back (sk_js ht6 [1, 3, 4, 5] rfl) ?_
        refine lo_pv rfl rfl (sk_js ht6 [1, 3, 4, 5] rfl) (pv_fieldAddr (off := 3) (r := 8) Tryz.underlying37 rfl (tiSl_impl_Tree).size rfl rfl rfl) rfl ?_
        refine lo_eff rfl rfl ?_
        refine ln_store1 (i := 4) rfl rfl rfl hv7.2 (tiSl_impl_Tree).size rfl ?_
        refine lo_last (by kernel_rfl) ?_
        refine lo_cd ?_
        refine cd_region ?_
        refine ln_rowshp (i := 2) rfl (fun ad2_1 cp2_1 hv2_1 hle2_1 hpos2_1 => ?_)
        subst hv2_1
        obtain ⟨g2_1, rfl⟩ := hpos2_1 (by omega)
        refine ln_pv (pv_ixN Tryz.underlying34 tiimpl_Tree.size rfl rfl (by omega)) rfl ?_
        refine ln_storeR (i := 2) (vs := dsF1) (xs' := ys_1 ++ dsF1) rfl rfl rfl rfl (by rw [show List.length _ = 5 from hdF1.len]; exact tiimpl_Tree.size) (by have h5 : List.length (dsF1) = 5 := hdF1.len; omega) hdF1.cells (wr_end (show 5 = List.length _ from Eq.symm hdF1.len) (by have h6 := (RTs.len5 hIr_1); simp only [List.length_map] at h6; omega)) ?_
        refine ln_nil ?_
        refine at_cd ?_
        refine cd_region ?_
        refine ln_pv (pv_add' rfl rfl (wrap_succ (by omega))) rfl ?_
        refine ln_pv (pv_move rfl) rfl ?_
        refine ln_nil ?_
        refine at_rnd (i_1 + 1, ys_1 ++ dsF1, (.slice (some ⟨g2_1, 0, none⟩) ((els (y.at_ 1)).take (i_1 + 1)).length cp2_1)) (hl1.trans ht6) ?_ ?_ ⟨rfl, rfl, rfl, rfl, rfl,  trivial⟩ (.cons _ (.cons _ (.cons_cons _ (.cons_cons _ (.cons_cons _ (.cons_cons _ .slnil))))))
        · intro s9 hs9
          exact ⟨by dsimp only; omega, RTs_snoc hi_1 (RTs.mv hIr_1 hs9) (RT.mv hdF1 hs9)⟩
        · dsimp only; omega
  · -- no
    refine cd_exit rfl ?_
    refine at_cd ?_
    have hq_1 : i_1 = (els (y.at_ 1)).length := by omega
    subst hq_1
    rw [List.take_length] at hIr_1
    refine cd_row (i := 0) (m' := ((els (y.at_ 1)).map (tlT F_sShareAcknowledgeRequestTopicPartition)).length) (xs' := ys_1) rfl (by simp) rfl ?_
    refine cd_sr ?_
    refine ln_pv (pv_move rfl) rfl ?_
    refine ln_pv (pv_nilCheck rfl) rfl ?_
    refine ln_pv (pv_fieldAddr (off := 17)  Tryz.underlying197 rfl (tipub_kmsg_Tags).size rfl rfl rfl) rfl ?_
    refine ln_pv (pv_makeFunc (vf := #[]) (vc := #[.pointer (some ⟨b2, 0, none⟩)]) (by rw [List.map_toArray, List.map_toArray]; rfl) (by rw [List.map_toArray, List.map_toArray]; rfl)) rfl ?_
    refine ln_nilrow 69 2 ?_
    have hst := tclo_ShareAcknowledgeRequestTopic b2 (.int .i64 0) (.slice none 0 0) (.bool false) (.slice (some ⟨bL, 0, none⟩) 2 2) y.u hkeys hlens (Nat.le_of_lt hlen)
    have hEa := fun (u : Vw) hr hm hk h0 hok hav hnd => tags_EachG (fun z => TA b2 (.int .i64 0) (.slice none 0 0) (.bool false) (.slice (some ⟨bL, 0, none⟩) 2 2) z) TB (TInv y.u) 233 (.pointer (some ⟨b2, 0, none⟩)) en_233 u b (o + 17) mv1 lt y.u (.slice none 0 0, [], 0) hr hm hk hsrt (by omega) h0 hst hok hav hnd
    refine ln_callH (E := [TA b2 (.int .i64 0) (.slice none 0 0) (.bool false) (.slice (some ⟨bL, 0, none⟩) 2 2) (.slice none 0 0, [], 0), TB (.slice none 0 0, [], 0)]) (H0 := [_, _, _]) (List.perm_middle (l₁ := [_, _])) en_125 rfl (fun u hu hok hav hnd => hEa u (RC1.mv hrt hu) (hMK.mv hu) (RK.mv hu hRK) (fun w hw => ⟨rfl, by rw [List.take_zero]; rfl⟩) hok hav hnd) rfl ?_
    rintro u9 v9 _ ht9 ⟨xu9, ⟨⟨vU, csU, kU⟩, rfl, hzU⟩, hxu9⟩
    obtain ⟨hkU, hRU⟩ := (hzU.mv hxu9).get
    dsimp only at hkU hRU
    subst hkU
    rw [List.take_length] at hRU
    have hrc := hrc.mv ht9
    have hrt := hrt.mv ht9
    have hMK := hMK.mv ht9
    have hRK := hRK.mv ht9
    have huu_0 := huu_0.mv ht9
    have hLs_1 := hLs_1.mv ht9
    have hcI0 := hcI0.mv ht9
    have hIr_1 := hIr_1.mv ht9
    refine ln_cd ?_
    refine cd_sr ?_
    refine ln_pv (pv_fieldAddr (off := 4) (r := 4) Tryz.underlying37 rfl (tiSl_impl_Tag).size rfl rfl rfl) rfl ?_
    refine ln_pv (pv_ldo (i := 0) rfl Tryz.underlying35 rfl rfl rfl) rfl ?_
    refine ln_callT (i := 1) en_127 rfl rfl (fun u hu hok hav => impl_sorted u vU y.u csU hsrt (by omega) (RUs.cells hRU).1 (fun i hi => by obtain ⟨c1, tv, c3, he, hc, _, _⟩ := RUs.at_ hi hRU; rw [he, List.append_assoc, List.getElem?_append_right (by omega), hc]; simp) hok hav) rfl ?_
    rintro u10 v10 _ ht10 ⟨_, rfl, _⟩
    have hrc := hrc.mv ht10
    have hrt := hrt.mv ht10
    have hMK := hMK.mv ht10
    have hRK := hRK.mv ht10
    have huu_0 := huu_0.mv ht10
    have hLs_1 := hLs_1.mv ht10
    have hcI0 := hcI0.mv ht10
    have hIr_1 := hIr_1.mv ht10
    have hRU := hRU.mv ht10
    refine ln_cd ?_
    refine cd_rowone (i := 1) rfl (fun hoU => ?_)
    refine cd_sr ?_
    refine ln_pv (pv_ldO (i := 0) rfl Tryz.underlying37 rfl (tiimpl_Tree).size rfl rfl) rfl ?_
    refine ln_storeW (i := 4) rfl rfl rfl rfl (tiimpl_Tree).size rfl (by simp [hoU]) ?_
    refine ln_cd ?_
    refine cd_ret ?_
    refine at_retC (i := 4) rfl rfl rfl Tryz.underlying37 rfl tiimpl_Tree.size rfl (fun w hS => ?_)
    have hRTs : RTs hS.fin [.mk 0 (uuid (y.at_ 0).s) false [] [], .mk 0 [] (y.at_ 1).z ((els (y.at_ 1)).map (tlT F_sShareAcknowledgeRequestTopicPartition)) []] _ := ⟨[_, _, _, _, _], _, rfl, RT_uu (RSv.mv hcI0 hS.trFin), ⟨[_, _, _, _, _], _, rfl, RT_list hnil1_1 rfl (row_rs hS (j := 2) rfl (RTs.cells hIr_1)) (RTs.mv hIr_1 hS.trFin), rfl⟩⟩
    refine ⟨_, rfl, RT.shut ⟨_, _, _, rfl, (show I64 0 from by unfold I64; omega), RS_nil 1, ⟨_, obj_rsS hS (i := 3) (sz := 5) (m := 2) rfl rfl (RTs.cells hRTs), hRTs⟩, ⟨csU, row_rs hS (j := 1) rfl (RUs.cells hRU).2, RUs.mv hS.trFin hRU⟩⟩⟩
theorem tclo_ShareAcknowledgeRequest (b3 : Nat) (c0 c1 c2 c3 : Value) (us : Tags) (hk : ∀ y ∈ us, y.1 < 4294967296) (hl : ∀ y ∈ us, y.2.length ≤ 4398046511104) (hlen : us.length ≤ 1099511627776) : ∀ j (hj : j < us.length) (u : Vw) (z : Value × List Value × Nat) (tv : Value), Iv (TInv us) j u z → RSv u tv (us[j]'hj).2 → HF [TA b3 c0 c1 c2 c3 z, TB z] u.w → (∀ q ∈ blks [TA b3 c0 c1 c2 c3 z, TB z], u.av q) → (blks [TA b3 c0 c1 c2 c3 z, TB z]).Nodup → CH Tryz.prog 178 [.int .u32 ((us[j]'hj).1 : Int), tv, .pointer (some ⟨b3, 0, none⟩)] u [TA b3 c0 c1 c2 c3 z, TB z] fun u r E' => ∃ z', E' = [TA b3 c0 c1 c2 c3 z', TB z'] ∧ Iv (TInv us) (j + 1) u z' := by
  rintro j hj u ⟨vU, cs, k⟩ tv hz htv hok hav hnd
  obtain ⟨hk0, hR⟩ := hz.get
  dsimp only at hk0 hR
  subst hk0
  have hbl := hl _ (List.getElem_mem hj)
  obtain ⟨adV, cV, rfl, hleV⟩ := htv.shape
  refine ch_enter Tryz.func178 rfl Tryz.ntmps178 rfl hok hav hnd ?_
  refine cd_draw' [0] [0, 1, 2, 3, 5, 8] [0, 1, 2, 3, 4, 5, 6, 7, 8, 9] mixed (by kernel_rfl) ?_
  refine lo_pv rfl rfl (sk_js (Tr.refl _) [0] rfl) (pv_fieldAddr (off := 4) (r := 4) Tryz.underlying37 rfl (tiSl_impl_Tag).size rfl rfl rfl) rfl ?_
  refine lo_pv rfl rfl (sk_js (Tr.refl _) [0] rfl) (pv_ldo (i := 0) rfl Tryz.underlying35 rfl rfl rfl) rfl ?_
  refine lo_pv rfl rfl (sk_js (Tr.refl _) [0] rfl) (pv_move rfl) rfl ?_
  refine lo_pv rfl rfl (sk_js (Tr.refl _) [0] rfl) (pv_move rfl) rfl ?_
  refine lo_eff rfl rfl ?_
  refine ln_nilrow 5 1 ?_
  refine ln_append (i := 0) rfl Tryz.underlying22 tiuint8 rfl (by decide) rfl rfl (RS.src htv) (by simp only [maxLen]; omega) (by omega) rfl (k' := (us[k]'hj).2.length) (xs' := u8s (us[k]'hj).2) (by omega) (by simp) (fun vc hvc => ?_)
  refine ln_free1 (fun q h => by simpa using h) (fun s1 ht1 hK1 => ?_)
  have hcp : RSv s1 vc (us[k]'hj).2 := Known.rs hK1 (u8s_one _)
  clear hK1
  have htv := htv.mv ht1
  have hR := RUs.mv ht1 hR
  refine lo_back (sk_js ht1 [0] rfl) ?_
  refine lo_pv rfl rfl (sk_js ht1 [0] rfl) (pv_struct [(0, 1), (1, 1)] (l := [_, _]) rfl Tryz.underlying69 tiimpl_Tag (by kernel_rfl) rfl (by simp [okL, Nat.ble_eq, Value.cells, hvc.2])) rfl ?_
  refine lo_eff rfl rfl ?_
  refine ln_lit (vs := [_]) Tryz.underlying35 tiimpl_Tag rfl (by decide) rfl rfl rfl rfl rfl rfl (fun b1 => ?_)
  refine lo_back (sk_js ht1 [1] rfl) ?_
  refine lo_eff rfl rfl ?_
  refine ln_append (i := 2) rfl Tryz.underlying35 tiimpl_Tag rfl (by decide) rfl rfl (src_obj (j := 0) rfl rfl (by simp [flat, Value.cells, hvc.2])) (by first | omega | (simp only [maxLen]; omega)) (by first | omega | (simp only [maxLen]; omega)) rfl (k' := (k + 1)) (xs' := cs ++ [.int .u32 ((us[k]'hj).1 : Int), vc]) rfl (by simp [flat, Value.cells]) (fun v1 hv1 => ?_)
  refine lo_back (sk_js ht1 [1] rfl) ?_
  refine lo_pv rfl rfl (sk_js ht1 [1] rfl) (pv_fieldAddr (off := 4) (r := 4) Tryz.underlying37 rfl (tiSl_impl_Tag).size rfl rfl rfl) rfl ?_
  refine lo_eff rfl rfl ?_
  refine ln_store1 (i := 1) rfl rfl rfl hv1.2 (tiSl_impl_Tag).size rfl ?_
  refine lo_last (by kernel_rfl) ?_
  refine lo_nil ?_
  refine at_retH0 [TA b3 c0 c1 c2 c3 (v1, cs ++ [.int .u32 ((us[k]'hj).1 : Int), vc], k + 1), TB (v1, cs ++ [.int .u32 ((us[k]'hj).1 : Int), vc], k + 1)] (.cons _ (.cons_cons _ (.cons_cons _ .slnil))) rfl (fun w hS => ⟨(v1, cs ++ [.int .u32 ((us[k]'hj).1 : Int), vc], k + 1), rfl, fun w2 hw2 => ⟨rfl, ?_⟩⟩)
  rw [take_snoc' hj]
  have hq := (hS.trFinH _ _).trans hw2
  exact RUs.append (RUs.mv hq hR) (RUs.one_ (hk _ (List.getElem_mem hj)) (RSv.mv hcp hq))
theorem tlT_ShareAcknowledgeRequest (y : Tre) : tlT F_ShareAcknowledgeRequest y = .mk 0 [] false [.mk 0 (if (y.at_ 0).z then [] else (y.at_ 0).s) (y.at_ 0).z [] [], .mk 0 (if (y.at_ 1).z then [] else (y.at_ 1).s) (y.at_ 1).z [] [], .mk (IntKind.i32.wrap (y.at_ 2).n) [] false [] [], .mk (if decide ((y.at_ 3).n % 2 = 1) then 1 else 0) [] false [] [], .mk 0 [] (y.at_ 4).z ((els (y.at_ 4)).map (tlT F_sShareAcknowledgeRequestTopic)) []] y.u := rfl
set_option maxHeartbeats 2000000 in
theorem tell_ShareAcknowledgeRequest (t : Vw) (b : Nat) (v : Int) (y : Tre) (cells : List Value) (hrc : RC t b 0 (.int .i16 v :: cells)) (hM : RMp t F_ShareAcknowledgeRequest y cells) (htg : tgT F_ShareAcknowledgeRequest y) : CA Tryz.prog 120 [.pointer (some ⟨b, 0, none⟩)] t fun u r => ∃ ds, r = .agg ds.toArray ∧ RT u (tlT F_ShareAcknowledgeRequest y) ds := by
  rw [tlT_ShareAcknowledgeRequest]
  obtain ⟨⟨hsrt, hkeys, hlens, hlen⟩, htl⟩ := htg
  simp only [F_ShareAcknowledgeRequest, tgL] at htl
  obtain ⟨qg0, qg1, qg2, qg3, qg4, _⟩ := htl
  obtain ⟨fc1, mv1, hce1, hfl1, hTg1⟩ := hM
  simp only [F_ShareAcknowledgeRequest, RMl] at hfl1
  obtain ⟨x1_0, z1_0, e1_0, g1_0, x1_1, z1_1, e1_1, g1_1, x1_2, z1_2, e1_2, g1_2, x1_3, z1_3, e1_3, g1_3, x1_4, z1_4, e1_4, g1_4, hend1⟩ := hfl1
  obtain ⟨d1_0, rfl, Gg1_0⟩ := (RMf_txt (by decide)).1 g1_0
  obtain ⟨d1_1, rfl, Gg1_1⟩ := (RMf_txt (by decide)).1 g1_1
  obtain rfl := RMf_i32.1 g1_2
  obtain rfl := RMf_b.1 g1_3
  obtain ⟨_, rfl, Gg1_4⟩ := RMf_list.1 g1_4
  obtain ⟨ad1_4, cap1_4, rfl, hnil1_4, Hg1_4⟩ := Gg1_4.els
  subst hend1
  subst e1_4
  subst e1_3
  subst e1_2
  subst e1_1
  subst e1_0
  rw [hce1] at hrc
  simp only [List.cons_append, List.nil_append, List.append_assoc] at hrc
  have hf0 := Gg1_0
  have hf1 := Gg1_1
  have hLs_4 := LsF.of Hg1_4
  have hll_4 : (els (y.at_ 4)).length ≤ 32767 := (tgF_list.1 qg4).1
  obtain ⟨lt, hMK, hRK⟩ := hTg1
  have hrt : RC1 t b (0 + 6) mv1 := hrc.sub 6 (c1 := [_, _, _, _, _, _]) (c2 := [mv1]) (c3 := []) rfl rfl
  have hrc : RCx t b 0 _ _ := hrc
  refine ca_enter Tryz.func120 rfl Tryz.ntmps120 rfl ?_
  refine cd_sr ?_
  refine ln_alloc tiimpl_Tree rfl rfl (fun b1 => ?_)
  refine ln_cd ?_
  refine cd_sr ?_
  refine ln_makeN (m := 5) (l := [.int .i64 0, .slice none 0 0, .bool false, .slice none 0 0, .slice none 0 0, .int .i64 0, .slice none 0 0, .bool false, .slice none 0 0, .slice none 0 0, .int .i64 0, .slice none 0 0, .bool false, .slice none 0 0, .slice none 0 0, .int .i64 0, .slice none 0 0, .bool false, .slice none 0 0, .slice none 0 0, .int .i64 0, .slice none 0 0, .bool false, .slice none 0 0, .slice none 0 0]) Tryz.underlying34 tiimpl_Tree rfl rfl (by kernel_rfl) (by decide) (by decide) rfl (fun bL => ?_)
  refine ln_pv (pv_struct [(0, 1), (1, 1), (2, 1), (3, 1), (4, 1)] (l := [_, _, _, _, _]) rfl Tryz.underlying37 tiimpl_Tree (by kernel_rfl) rfl rfl) rfl ?_
  refine ln_alloc tiimpl_Tree rfl rfl (fun b2 => ?_)
  refine ln_storeW (i := 0) rfl rfl rfl rfl (tiimpl_Tree).size rfl (by simp []) ?_
  refine ln_cd ?_
  refine cd_dr' [0, 1, 2] [0, 1, 2, 3, 4, 5, 7] [0, 1, 2, 3, 4, 5, 6, 7, 8] mixed (by kernel_rfl) ?_
  refine lo_pv rfl rfl (sk_js (Tr.refl _) [0, 1, 2] rfl) (pv_fieldAddr (off := 3) (r := 3) Tryz.underlying37 rfl (tiSl_impl_Tree).size rfl rfl rfl) rfl ?_
  refine lo_pv rfl rfl (sk_js (Tr.refl _) [0, 1, 2] rfl) (pv_ldo (i := 0) rfl Tryz.underlying34 rfl rfl rfl) rfl ?_
  refine lo_pv rfl rfl (sk_js (Tr.refl _) [0, 1, 2] rfl) (pv_move rfl) rfl ?_
  refine lo_pv rfl rfl (sk_js (Tr.refl _) [0, 1, 2] rfl) (pv_nilCheck rfl) rfl ?_
  refine lo_pv rfl rfl (sk_js (Tr.refl _) [0, 1, 2] rfl) (pv_fieldAddr (off := 1)  Tryz.underlying192 rfl (tiPt_string).size rfl rfl rfl) rfl ?_
  refine lo_pv rfl rfl (sk_js (Tr.refl _) [0, 1, 2] rfl) (pv_ldr (j := 1) hrc Tryz.underlying107 rfl rfl rfl) rfl ?_
  refine lo_eff rfl rfl ?_
  refine ln_callA en_152 rfl (fun u hu => text_tree u _ _ (Txt.mv hf0 hu)) rfl (fun u1 v1 ht1 hR1 => ?_)
  have hrc := hrc.mv ht1
  have hrt := hrt.mv ht1
  have hMK := hMK.mv ht1
  have hRK := hRK.mv ht1
  have hf0 := hf0.mv ht1
  have hf1 := hf1.mv ht1
  have hLs_4 := hLs_4.mv ht1
  obtain ⟨ds, rfl, hd0⟩ := hR1
  obtain ⟨qS0, qL0, qU0, rfl, _, hqS0, ⟨_, hqL0, _⟩, ⟨_, hqU0, _⟩⟩ := hd0.open
  refine lo_back (sk_js ht1 [0, 1, 2] rfl) ?_
  refine lo_pv rfl rfl (sk_js ht1 [0, 1, 2] rfl) (pv_ixN (o := 0) (i := 0) Tryz.underlying34 (tiimpl_Tree).size rfl rfl (by decide)) rfl ?_
  refine lo_eff rfl rfl ?_
  refine ln_store (i := 1) (vs := [_, _, _, _, _]) rfl rfl rfl rfl (tiimpl_Tree).size rfl (by simp [(RS.one hqL0), (RS.one hqS0), (RS.one hqU0)]) rfl ?_
  refine lo_last (by kernel_rfl) ?_
  refine lo_cd ?_
  refine cd_dr' [0, 1, 2] [0, 1, 2, 3, 4, 5, 7] [0, 1, 2, 3, 4, 5, 6, 7, 8] mixed (by kernel_rfl) ?_
  refine lo_pv rfl rfl (sk_js (Tr.refl _) [0, 1, 2] rfl) (pv_fieldAddr (off := 3) (r := 3) Tryz.underlying37 rfl (tiSl_impl_Tree).size rfl rfl rfl) rfl ?_
  refine lo_pv rfl rfl (sk_js (Tr.refl _) [0, 1, 2] rfl) (pv_ldo (i := 0) rfl Tryz.underlying34 rfl rfl rfl) rfl ?_
  refine lo_pv rfl rfl (sk_js (Tr.refl _) [0, 1, 2] rfl) (pv_move rfl) rfl ?_
  refine lo_pv rfl rfl (sk_js (Tr.refl _) [0, 1, 2] rfl) (pv_nilCheck rfl) rfl ?_
  refine lo_pv rfl rfl (sk_js (Tr.refl _) [0, 1, 2] rfl) (pv_fieldAddr (off := 2)  Tryz.underlying192 rfl (tiPt_string).size rfl rfl rfl) rfl ?_
  refine lo_pv rfl rfl (sk_js (Tr.refl _) [0, 1, 2] rfl) (pv_ldr (j := 2) hrc Tryz.underlying107 rfl rfl rfl) rfl ?_
  refine lo_eff rfl rfl ?_
  refine ln_callA en_152 rfl (fun u hu => text_tree u _ _ (Txt.mv hf1 hu)) rfl (fun u2 v2 ht2 hR2 => ?_)
  have hrc := hrc.mv ht2
  have hrt := hrt.mv ht2
  have hMK := hMK.mv ht2
  have hRK := hRK.mv ht2
  have hf0 := hf0.mv ht2
  have hf1 := hf1.mv ht2
  have hLs_4 := hLs_4.mv ht2
  have hd0 := hd0.mv ht2
  obtain ⟨ds, rfl, hd1⟩ := hR2
  obtain ⟨qS1, qL1, qU1, rfl, _, hqS1, ⟨_, hqL1, _⟩, ⟨_, hqU1, _⟩⟩ := hd1.open
  refine lo_back (sk_js ht2 [0, 1, 2] rfl) ?_
  refine lo_pv rfl rfl (sk_js ht2 [0, 1, 2] rfl) (pv_ixN (o := 0) (i := 1) Tryz.underlying34 (tiimpl_Tree).size rfl rfl (by decide)) rfl ?_
  refine lo_eff rfl rfl ?_
  refine ln_store (i := 1) (vs := [_, _, _, _, _]) rfl rfl rfl rfl (tiimpl_Tree).size rfl (by simp [(RS.one hqL1), (RS.one hqS1), (RS.one hqU1)]) rfl ?_
  refine lo_last (by kernel_rfl) ?_
  refine lo_cd ?_
  refine cd_dr' [0, 1, 2] [0, 1, 2, 3, 4, 5, 6, 7, 8] [0, 1, 2, 3, 4, 5, 6, 7, 8, 9] mixed (by kernel_rfl) ?_
  refine lo_pv rfl rfl (sk_js (Tr.refl _) [0, 1, 2] rfl) (pv_fieldAddr (off := 3) (r := 3) Tryz.underlying37 rfl (tiSl_impl_Tree).size rfl rfl rfl) rfl ?_
  refine lo_pv rfl rfl (sk_js (Tr.refl _) [0, 1, 2] rfl) (pv_ldo (i := 0) rfl Tryz.underlying34 rfl rfl rfl) rfl ?_
  refine lo_pv rfl rfl (sk_js (Tr.refl _) [0, 1, 2] rfl) (pv_move rfl) rfl ?_
  refine lo_pv rfl rfl (sk_js (Tr.refl _) [0, 1, 2] rfl) (pv_nilCheck rfl) rfl ?_
  refine lo_pv rfl rfl (sk_js (Tr.refl _) [0, 1, 2] rfl) (pv_fieldAddr (off := 3)  Tryz.underlying192 rfl (tiint32).size rfl rfl rfl) rfl ?_
  refine lo_pv rfl rfl (sk_js (Tr.refl _) [0, 1, 2] rfl) (pv_ldr (j := 3) hrc Tryz.underlying21 rfl rfl rfl) rfl ?_
  refine lo_pv rfl rfl (sk_js (Tr.refl _) [0, 1, 2] rfl) (pv_conv' Tryz.underlying21 Tryz.underlying2 rfl (w64_i32 _)) rfl ?_
  refine lo_pv rfl rfl (sk_js (Tr.refl _) [0, 1, 2] rfl) (pv_struct [(0, 1), (1, 1), (2, 1), (3, 1), (4, 1)] (l := [_, _, _, _, _]) rfl Tryz.underlying37 tiimpl_Tree (by kernel_rfl) rfl rfl) rfl ?_
  refine lo_pv rfl rfl (sk_js (Tr.refl _) [0, 1, 2] rfl) (pv_ixN (o := 0) (i := 2) Tryz.underlying34 (tiimpl_Tree).size rfl rfl (by decide)) rfl ?_
  refine lo_eff rfl rfl ?_
  refine ln_store (i := 1) (vs := [_, _, _, _, _]) rfl rfl rfl rfl (tiimpl_Tree).size rfl rfl rfl ?_
  refine lo_last (by kernel_rfl) ?_
  refine lo_cd ?_
  refine cd_dr' [0, 1, 2] [0, 1, 2, 3, 4, 5, 7] [0, 1, 2, 3, 4, 5, 6, 7, 8] mixed (by kernel_rfl) ?_
  refine lo_pv rfl rfl (sk_js (Tr.refl _) [0, 1, 2] rfl) (pv_fieldAddr (off := 3) (r := 3) Tryz.underlying37 rfl (tiSl_impl_Tree).size rfl rfl rfl) rfl ?_
  refine lo_pv rfl rfl (sk_js (Tr.refl _) [0, 1, 2] rfl) (pv_ldo (i := 0) rfl Tryz.underlying34 rfl rfl rfl) rfl ?_
  refine lo_pv rfl rfl (sk_js (Tr.refl _) [0, 1, 2] rfl) (pv_move rfl) rfl ?_
  refine lo_pv rfl rfl (sk_js (Tr.refl _) [0, 1, 2] rfl) (pv_nilCheck rfl) rfl ?_
  refine lo_pv rfl rfl (sk_js (Tr.refl _) [0, 1, 2] rfl) (pv_fieldAddr (off := 4)  Tryz.underlying192 rfl (tibool).size rfl rfl rfl) rfl ?_
  refine lo_pv rfl rfl (sk_js (Tr.refl _) [0, 1, 2] rfl) (pv_ldr (j := 4) hrc Tryz.underlying4 rfl rfl rfl) rfl ?_
  refine lo_eff rfl rfl ?_
  refine ln_callA en_162 rfl (fun u hu => bool_tree u _) rfl (fun u3 v3 ht3 hR3 => ?_)
  have hrc := hrc.mv ht3
  have hrt := hrt.mv ht3
  have hMK := hMK.mv ht3
  have hRK := hRK.mv ht3
  have hf0 := hf0.mv ht3
  have hf1 := hf1.mv ht3
  have hLs_4 := hLs_4.mv ht3
  have hd0 := hd0.mv ht3
  have hd1 := hd1.mv ht3
  subst hR3
  refine lo_back (sk_js ht3 [0, 1, 2] rfl) ?_
  refine lo_pv rfl rfl (sk_js ht3 [0, 1, 2] rfl) (pv_ixN (o := 0) (i := 3) Tryz.underlying34 (tiimpl_Tree).size rfl rfl (by decide)) rfl ?_
  refine lo_eff rfl rfl ?_
  refine ln_store (i := 1) (vs := [_, _, _, _, _]) rfl rfl rfl rfl (tiimpl_Tree).size rfl rfl rfl ?_
  refine lo_last (by kernel_rfl) ?_
  refine lo_cd ?_
  refine cd_dr' [0, 1, 2] [0, 1, 2, 3, 4, 5, 6, 8] [0, 1, 2, 3, 4, 5, 6, 7, 8, 9] mixed (by kernel_rfl) ?_
  refine lo_pv rfl rfl (sk_js (Tr.refl _) [0, 1, 2] rfl) (pv_fieldAddr (off := 3) (r := 3) Tryz.underlying37 rfl (tiSl_impl_Tree).size rfl rfl rfl) rfl ?_
  refine lo_pv rfl rfl (sk_js (Tr.refl _) [0, 1, 2] rfl) (pv_ldo (i := 0) rfl Tryz.underlying34 rfl rfl rfl) rfl ?_
  refine lo_pv rfl rfl (sk_js (Tr.refl _) [0, 1, 2] rfl) (pv_move rfl) rfl ?_
  refine lo_pv rfl rfl (sk_js (Tr.refl _) [0, 1, 2] rfl) (pv_nilCheck rfl) rfl ?_
  refine lo_pv rfl rfl (sk_js (Tr.refl _) [0, 1, 2] rfl) (pv_fieldAddr (off := 5)  Tryz.underlying192 rfl (tiSl_kmsg_ShareAcknowledgeRequestTopic).size rfl rfl rfl) rfl ?_
  refine lo_pv rfl rfl (sk_js (Tr.refl _) [0, 1, 2] rfl) (pv_ldr (j := 5) hrc Tryz.underlying190 rfl rfl rfl) rfl ?_
  refine lo_pv rfl rfl (sk_js (Tr.refl _) [0, 1, 2] rfl) (pv_eqS Tryz.underlying190 rfl rfl) rfl ?_
  refine lo_eff rfl rfl ?_
  refine ln_pv (pv_ixN (o := 0) (i := 4) Tryz.underlying34 (tiimpl_Tree).size rfl rfl (by decide)) rfl ?_
  refine lo_back (sk_js (Tr.refl _) [0, 1, 2] rfl) ?_
  refine lo_pv rfl rfl (sk_js (Tr.refl _) [0, 1, 2] rfl) (pv_fieldAddr (off := 2) (r := 22) Tryz.underlying37 rfl (tibool).size rfl rfl rfl) rfl ?_
  refine lo_eff rfl rfl ?_
  refine ln_store1 (i := 1) rfl rfl rfl rfl (tibool).size rfl ?_
  refine lo_last (by kernel_rfl) ?_
  refine lo_cd ?_
  refine cd_seq ?_
  refine cd_nilrow 37 5 ?_
  refine cd_sr ?_
  refine ln_pv (pv_move rfl) rfl ?_
  refine ln_pv (pv_nilCheck rfl) rfl ?_
  refine ln_pv (pv_fieldAddr (off := 5)  Tryz.underlying192 rfl (tiSl_kmsg_ShareAcknowledgeRequestTopic).size rfl rfl rfl) rfl ?_
  refine ln_pv (pv_ldr (j := 5) hrc Tryz.underlying190 rfl rfl rfl) rfl ?_
  refine ln_pv (pv_len_slice Tryz.underlying190 rfl) rfl ?_
  refine ln_pv (pv_move rfl) rfl ?_
  refine ln_cd ?_
  refine cd_block ?_
  refine cd_loop (⟨fun (z : Nat × List Value × Value) => [(0, .pointer (some ⟨b, 0, none⟩)), (2, .pointer (some ⟨b1, 0, none⟩)), (3, .pointer (some ⟨b2, 0, none⟩)), (53, .int .i64 ((els (y.at_ 4)).length : Int)), (54, .int .i64 ((z.1 : Nat) : Int))], fun (z : Nat × List Value × Value) => [.row z.2.2 37 5 ((els (y.at_ 4)).take z.1).length z.2.1, .obj b2 (.cells [.int .i64 0, .slice none 0 0, .bool false, .slice (some ⟨bL, 0, none⟩) 5 5, .slice none 0 0].toArray 37), .obj bL (.cells [.int .i64 (Tre.mk 0 (if (y.at_ 0).z then [] else (y.at_ 0).s) (y.at_ 0).z [] []).n, qS0, .bool (Tre.mk 0 (if (y.at_ 0).z then [] else (y.at_ 0).s) (y.at_ 0).z [] []).z, qL0, qU0, .int .i64 (Tre.mk 0 (if (y.at_ 1).z then [] else (y.at_ 1).s) (y.at_ 1).z [] []).n, qS1, .bool (Tre.mk 0 (if (y.at_ 1).z then [] else (y.at_ 1).s) (y.at_ 1).z [] []).z, qL1, qU1, .int .i64 (IntKind.i32.wrap (y.at_ 2).n), .slice none 0 0, .bool false, .slice none 0 0, .slice none 0 0, .int .i64 (if decide ((y.at_ 3).n % 2 = 1) then 1 else 0), .slice none 0 0, .bool false, .slice none 0 0, .slice none 0 0, .int .i64 0, .slice none 0 0, .bool ad1_4.isNone, z.2.2, .slice none 0 0].toArray 37), .obj b1 (.cells [.int .i64 0, .slice none 0 0, .bool false, .slice none 0 0, .slice none 0 0].toArray 37)], fun (z : Nat × List Value × Value) s => z.1 ≤ (els (y.at_ 4)).length ∧ RTs s (((els (y.at_ 4)).take z.1).map (tlT F_sShareAcknowledgeRequestTopic)) z.2.1, fun (z : Nat × List Value × Value) => (els (y.at_ 4)).length - z.1⟩ : Lp (Nat × List Value × Value)) (0, [], .slice none 0 0) ?_ ?_ ?_ ?_
  · intro s0 hs0
    exact ⟨Nat.zero_le _, rfl⟩
  · exact ⟨rfl, rfl, rfl, rfl, rfl,  trivial⟩
  · exact (.cons_cons _ (.cons_cons _ (.cons_cons _ (.cons_cons _ .slnil))))
  intro z s1 hl1 hI
  obtain ⟨i_4, ys_4, vv_4⟩ := z
  dsimp only at hI ⊢
  have hrc := hrc.mv hl1
  have hrt := hrt.mv hl1
  have hMK := hMK.mv hl1
  have hRK := hRK.mv hl1
  have hf0 := hf0.mv hl1
  have hf1 := hf1.mv hl1
  have hLs_4 := hLs_4.mv hl1
  have hd0 := hd0.mv hl1
  have hd1 := hd1.mv hl1
  obtain ⟨hI_4, hIr_4⟩ := hI
  refine cd_sr ?_
  refine ln_pv (pv_lss rfl rfl) rfl ?_
  refine ln_cd ?_
  refine cd_seq ?_
  refine cd_if rfl (fun hc1 => ?_) (fun hc1 => ?_)
  · -- yes
    refine cd_skip ?_
    refine at_cd ?_
    refine cd_seq ?_
    refine cd_block ?_
    have hi_4 : i_4 < (els (y.at_ 4)).length := by omega
    have hsl_4 : ((els (y.at_ 4)).take (i_4 + 1)).length = ((els (y.at_ 4)).take i_4).length + 1 := by simp only [List.length_take]; omega
    have hil_4 : ((els (y.at_ 4)).take i_4).length = i_4 := by rw [List.length_take]; omega
    obtain ⟨gE_4, oE_4, cE_4, hadE_4, hrce_4, hme_4⟩ := hLs_4.at_ hi_4 (show esl _ _ = 18 by kernel_rfl)
    subst hadE_4
    have hme_4 := RE_part hme_4
    have htge_4 : tgT F_sShareAcknowledgeRequestTopic (els (y.at_ 4))[i_4] := by have h := (tgF_list.1 qg4).2 _ (List.getElem_mem hi_4); rw [if_pos rfl] at h; exact h
    refine cd_sr ?_
    refine ln_pv (pv_move rfl) rfl ?_
    refine ln_pv (pv_assign rfl) rfl ?_
    refine ln_cd ?_
    refine cd_dr3 [1, 2, 3] [] [0] 1 2 [2, 3] [1, 3] mixed (by kernel_rfl) ?_
    refine lo_eff rfl rfl ?_
    refine ln_alloc tibool rfl rfl (fun b3 => ?_)
    refine lo_last (by kernel_rfl) ?_
    refine lo_nil (at_two ?_ ?_)
    · skip
      refine lo_eff rfl rfl ?_
      refine ln_store1 (i := 0) rfl rfl rfl rfl (tibool).size rfl ?_
      refine lo_last (by kernel_rfl) ?_
      refine lo_eff rfl rfl ?_
      refine ln_store1 (i := 0) rfl rfl rfl rfl (tibool).size rfl ?_
      refine lo_last (by kernel_rfl) ?_
      refine lo_eff rfl rfl ?_
      refine ln_pv (pv_ldo (i := 0) rfl Tryz.underlying4 rfl rfl rfl) rfl ?_
      refine lo_last (by kernel_rfl) ?_
      refine lo_cd ?_
      refine cd_ff rfl ?_
      refine cd_draw' [0, 2, 3, 4] [0, 1, 2, 3, 4, 5, 6, 7, 8, 9, 10, 11, 12, 17] [0, 1, 2, 3, 4, 5, 6, 7, 8, 9, 10, 11, 12, 13, 14, 15, 16, 17, 18] mixed (by kernel_rfl) ?_
      refine lo_pv rfl rfl (sk_js (Tr.refl _) [0, 2, 3, 4] rfl) (pv_fieldAddr (off := 3) (r := 3) Tryz.underlying37 rfl (tiSl_impl_Tree).size rfl rfl rfl) rfl ?_
      refine lo_pv rfl rfl (sk_js (Tr.refl _) [0, 2, 3, 4] rfl) (pv_ldo (i := 1) rfl Tryz.underlying34 rfl rfl rfl) rfl ?_
      refine lo_pv rfl rfl (sk_js (Tr.refl _) [0, 2, 3, 4] rfl) (pv_fieldAddr (off := 3) (r := 3) Tryz.underlying37 rfl (tiSl_impl_Tree).size rfl rfl rfl) rfl ?_
      refine lo_pv rfl rfl (sk_js (Tr.refl _) [0, 2, 3, 4] rfl) (pv_ldo (i := 1) rfl Tryz.underlying34 rfl rfl rfl) rfl ?_
      refine lo_pv rfl rfl (sk_js (Tr.refl _) [0, 2, 3, 4] rfl) (pv_ixN (o := 0) (i := 4) Tryz.underlying34 (tiimpl_Tree).size rfl rfl (by decide)) rfl ?_
      refine lo_pv rfl rfl (sk_js (Tr.refl _) [0, 2, 3, 4] rfl) (pv_fieldAddr (off := 3) (r := 23) Tryz.underlying37 rfl (tiSl_impl_Tree).size rfl rfl rfl) rfl ?_
      refine lo_pv rfl rfl (sk_js (Tr.refl _) [0, 2, 3, 4] rfl) (pv_ldo (i := 2) rfl Tryz.underlying34 rfl rfl rfl) rfl ?_
      refine lo_pv rfl rfl (sk_js (Tr.refl _) [0, 2, 3, 4] rfl) (pv_move rfl) rfl ?_
      refine lo_pv rfl rfl (sk_js (Tr.refl _) [0, 2, 3, 4] rfl) (pv_nilCheck rfl) rfl ?_
      refine lo_pv rfl rfl (sk_js (Tr.refl _) [0, 2, 3, 4] rfl) (pv_fieldAddr (off := 5)  Tryz.underlying192 rfl (tiSl_kmsg_ShareAcknowledgeRequestTopic).size rfl rfl rfl) rfl ?_
      refine lo_pv rfl rfl (sk_js (Tr.refl _) [0, 2, 3, 4] rfl) (pv_ldr (j := 5) hrc Tryz.underlying190 rfl rfl rfl) rfl ?_
      refine lo_pv rfl rfl (sk_js (Tr.refl _) [0, 2, 3, 4] rfl) (pv_move rfl) rfl ?_
      refine lo_pv rfl rfl (sk_js (Tr.refl _) [0, 2, 3, 4] rfl) (pv_ixN Tryz.underlying190 (tipub_kmsg_ShareAcknowledgeRequestTopic).size rfl rfl hi_4) rfl ?_
      refine lo_eff rfl rfl ?_
      refine ln_callA en_177 rfl (fun u hu => tell_ShareAcknowledgeRequestTopic u gE_4 (oE_4 + i_4 * 18) (els (y.at_ 4))[i_4] cE_4 (hrce_4.mv hu).2 (RMp.mv hme_4 hu) htge_4) rfl (fun u4 v4 ht4 hR4 => ?_)
      have hrc := hrc.mv ht4
      have hrt := hrt.mv ht4
      have hMK := hMK.mv ht4
      have hRK := hRK.mv ht4
      have hf0 := hf0.mv ht4
      have hf1 := hf1.mv ht4
      have hLs_4 := hLs_4.mv ht4
      have hd0 := hd0.mv ht4
      have hd1 := hd1.mv ht4
      have hIr_4 := hIr_4.mv ht4
      have hrce_4 := hrce_4.mv ht4
      have hme_4 := hme_4.mv ht4
      obtain ⟨dsF4, rfl, hdF4⟩ := hR4
      refine lo_back (sk_js ht4 [0, 2, 3, 4] rfl) ?_
      refine lo_eff rfl rfl ?_
      refine ln_lit (vs := [_]) Tryz.underlying34 tiimpl_Tree rfl (by decide) rfl rfl rfl (by simp [partsOk, Value.cells, hdF4.len]; try exact .inl rfl) rfl rfl (fun b4 => ?_)
      refine lo_back (sk_js ht4 [1, 3, 4, 5] rfl) ?_
      refine lo_eff rfl rfl ?_
      refine ln_append (i := 2) rfl Tryz.underlying34 tiimpl_Tree rfl (by decide) rfl rfl (src_obj (j := 0) rfl (by simp [flat, Value.cells, hdF4.len]) (List.all_eq_true.2 (by simpa [flat, Value.cells] using hdF4.cells))) (by rw [hil_4]; first | omega | (simp only [maxLen]; omega)) (by rw [hil_4]; first | omega | (simp only [maxLen]; omega)) rfl (k' := ((els (y.at_ 4)).take (i_4 + 1)).length) (xs' := ys_4 ++ dsF4) hsl_4.symm (by simp [flat, Value.cells]) (fun v5 hv5 => ?_)
      refine lo_back (sk_js ht4 [1, 3, 4, 5] rfl) ?_
      refine lo_eff rfl rfl ?_
      refine ln_pv (pv_ixN (o := 0) (i := 4) Tryz.underlying34 (tiimpl_Tree).size rfl rfl (by decide)) rfl ?_
      refine lo_back (sk_js ht4 [1, 3, 4, 5] rfl) ?_
      refine lo_pv rfl rfl (sk_js ht4 [1, 3, 4, 5] rfl) (pv_fieldAddr (off := 3) (r := 23) Tryz.underlying37 rfl (tiSl_impl_Tree).size rfl rfl rfl) rfl ?_
      refine lo_eff rfl rfl ?_
      refine ln_store1 (i := 4) rfl rfl rfl hv5.2 (tiSl_impl_Tree).size rfl ?_
      refine lo_last (by kernel_rfl) ?_
      refine lo_nil ?_
      refine at_cd ?_
      refine cd_region ?_
      refine ln_pv (pv_add' rfl rfl (wrap_succ (by omega))) rfl ?_
      refine ln_pv (pv_move rfl) rfl ?_
      refine ln_nil ?_
      refine at_rnd (i_4 + 1, ys_4 ++ dsF4, v5) (hl1.trans ht4) ?_ ?_ ⟨rfl, rfl, rfl, rfl, rfl,  trivial⟩ (.cons _ (.cons _ (.cons_cons _ (.cons_cons _ (.cons_cons _ (.cons_cons _ .slnil))))))
      · intro s9 hs9
        exact ⟨by dsimp only; omega, RTs_snoc hi_4 (RTs.mv hIr_4 hs9) (RT.mv hdF4 hs9)⟩
      · dsimp only; omega
    · skip
      refine lo_eff rfl rfl ?_
      refine ln_store1 (i := 0) rfl rfl rfl rfl (tibool).size rfl ?_
      refine lo_last (by kernel_rfl) ?_
      refine lo_eff rfl rfl ?_
      refine ln_store1 (i := 0) rfl rfl rfl rfl (tibool).size rfl ?_
      refine lo_last (by kernel_rfl) ?_
      refine lo_eff rfl rfl ?_
      refine ln_pv (pv_ldo (i := 0) rfl Tryz.underlying4 rfl rfl rfl) rfl ?_
      refine lo_last (by kernel_rfl) ?_
      refine lo_cd ?_
      refine cd_tt rfl ?_
      refine cd_rowshape (i := 1) rfl (fun adR_4 cpR_4 hvR_4 hleR_4 hposR_4 => ?_)
      subst hvR_4
      refine cd_dr2 [0, 2, 3, 4] [0, 1, 2, 3, 4, 5, 6, 7, 8, 9, 10, 12, 16] [0, 1, 2, 3, 4, 5, 6, 7, 8, 9, 10, 12] 11 13 [13, 14, 15, 16, 17] [11, 14, 15, 16, 17] mixed (by kernel_rfl) ?_
      refine lo_pv rfl rfl (sk_js (Tr.refl _) [0, 2, 3, 4] rfl) (pv_fieldAddr (off := 3) (r := 3) Tryz.underlying37 rfl (tiSl_impl_Tree).size rfl rfl rfl) rfl ?_
      refine lo_pv rfl rfl (sk_js (Tr.refl _) [0, 2, 3, 4] rfl) (pv_ldo (i := 1) rfl Tryz.underlying34 rfl rfl rfl) rfl ?_
      refine lo_pv rfl rfl (sk_js (Tr.refl _) [0, 2, 3, 4] rfl) (pv_ixN (o := 0) (i := 4) Tryz.underlying34 (tiimpl_Tree).size rfl rfl (by decide)) rfl ?_
      refine lo_pv rfl rfl (sk_js (Tr.refl _) [0, 2, 3, 4] rfl) (pv_fieldAddr (off := 3) (r := 23) Tryz.underlying37 rfl (tiSl_impl_Tree).size rfl rfl rfl) rfl ?_
      refine lo_pv rfl rfl (sk_js (Tr.refl _) [0, 2, 3, 4] rfl) (pv_ldo (i := 2) rfl Tryz.underlying34 rfl rfl rfl) rfl ?_
      refine lo_pv rfl rfl (sk_js (Tr.refl _) [0, 2, 3, 4] rfl) (pv_move rfl) rfl ?_
      refine lo_pv rfl rfl (sk_js (Tr.refl _) [0, 2, 3, 4] rfl) (pv_nilCheck rfl) rfl ?_
      refine lo_pv rfl rfl (sk_js (Tr.refl _) [0, 2, 3, 4] rfl) (pv_fieldAddr (off := 5)  Tryz.underlying192 rfl (tiSl_kmsg_ShareAcknowledgeRequestTopic).size rfl rfl rfl) rfl ?_
      refine lo_pv rfl rfl (sk_js (Tr.refl _) [0, 2, 3, 4] rfl) (pv_ldr (j := 5) hrc Tryz.underlying190 rfl rfl rfl) rfl ?_
      refine lo_pv rfl rfl (sk_js (Tr.refl _) [0, 2, 3, 4] rfl) (pv_move rfl) rfl ?_
      refine lo_pv rfl rfl (sk_js (Tr.refl _) [0, 2, 3, 4] rfl) (pv_ixN Tryz.underlying190 (tipub_kmsg_ShareAcknowledgeRequestTopic).size rfl rfl hi_4) rfl ?_
      refine lo_pv rfl rfl (sk_js (Tr.refl _) [0, 2, 3, 4] rfl) (pv_len_slice Tryz.underlying34 rfl) rfl ?_
      refine lo_nil (at_two ?_ ?_)
      · skip
        refine lo_eff rfl rfl ?_
        refine ln_callA en_177 rfl (fun u hu => tell_ShareAcknowledgeRequestTopic u gE_4 (oE_4 + i_4 * 18) (els (y.at_ 4))[i_4] cE_4 (hrce_4.mv hu).2 (RMp.mv hme_4 hu) htge_4) rfl (fun u6 v6 ht6 hR6 => ?_)
        have hrc := hrc.mv ht6
        have hrt := hrt.mv ht6
        have hMK := hMK.mv ht6
        have hRK := hRK.mv ht6
        have hf0 := hf0.mv ht6
        have hf1 := hf1.mv ht6
        have hLs_4 := hLs_4.mv ht6
        have hd0 := hd0.mv ht6
        have hd1 := hd1.mv ht6
        have hIr_4 := hIr_4.mv ht6
        have hrce_4 := hrce_4.mv ht6
        have hme_4 := hme_4.mv ht6
        obtain ⟨dsF4, rfl, hdF4⟩ := hR6
        refine lo_back (sk_js ht6 [0, 2, 3, 4] rfl) ?_
        refine lo_eff rfl rfl ?_
        refine ln_lit (vs := [_]) Tryz.underlying34 tiimpl_Tree rfl (by decide) rfl rfl rfl rfl rfl rfl (fun b5 => ?_)
        refine lo_back (sk_js ht6 [1, 3, 4, 5] rfl) ?_
        refine lo_eff rfl rfl ?_
        refine ln_append (i := 2) rfl Tryz.underlying34 tiimpl_Tree rfl (by decide) rfl rfl (src_obj (j := 0) rfl rfl rfl) (by rw [hil_4]; first | omega | (simp only [maxLen]; omega)) (by rw [hil_4]; first | omega | (simp only [maxLen]; omega)) rfl (k' := ((els (y.at_ 4)).take (i_4 + 1)).length) (xs' := ys_4 ++ [.int .i64 0, .slice none 0 0, .bool false, .slice none 0 0, .slice none 0 0]) hsl_4.symm (by simp [flat, Value.cells]) (fun v7 hv7 => ?_)
        refine lo_back (sk_js ht6 [1, 3, 4, 5] rfl) ?_
        refine lo_eff rfl rfl ?_
        refine ln_pv (pv_ixN (o := 0) (i := 4) Tryz.underlying34 (tiimpl_Tree).size rfl rfl (by decide)) rfl ?_
        refine lo_back (sk_js ht6 [1, 3, 4, 5] rfl) ?_
        refine lo_pv rfl rfl (sk_js ht6 [1, 3, 4, 5] rfl) (pv_fieldAddr (off := 3) (r := 23) Tryz.underlying37 rfl (tiSl_impl_Tree).size rfl rfl rfl) rfl ?_
        refine lo_eff rfl rfl ?_
        refine ln_store1 (i := 4) rfl rfl rfl hv7.2 (tiSl_impl_Tree).size rfl ?_
        refine lo_last (by kernel_rfl) ?_
        refine lo_cd ?_
        refine cd_region ?_
        refine ln_rowshp (i := 2) rfl (fun ad2_4 cp2_4 hv2_4 hle2_4 hpos2_4 => ?_)
        subst hv2_4
        obtain ⟨g2_4, rfl⟩ := hpos2_4 (by omega)
        refine ln_pv (pv_ixN Tryz.underlying34 tiimpl_Tree.size rfl rfl (by omega)) rfl ?_
        refine ln_storeR (i := 2) (vs := dsF4) (xs' := ys_4 ++ dsF4) rfl rfl rfl rfl (by rw [show List.length _ = 5 from hdF4.len]; exact tiimpl_Tree.size) (by have h5 : List.length (dsF4) = 5 := hdF4.len; omega) hdF4.cells (wr_end (show 5 = List.length _ from Eq.symm hdF4.len) (by have h6 := (RTs.len5 hIr_4); simp only [List.length_map] at h6; omega)) ?_
        refine ln_nil ?_
        refine at_cd ?_
        refine cd_region ?_
        refine ln_pv (pv_add' rfl rfl (wrap_succ (by omega))) rfl ?_
        refine ln_pv (pv_move rfl) rfl ?_
        refine ln_nil ?_
        refine at_rnd (i_4 + 1, ys_4 ++ dsF4, (.slice (some ⟨g2_4, 0, none⟩) ((els (y.at_ 4)).take (i_4 + 1)).length cp2_4)) (hl1.trans ht6) ?_ ?_ ⟨rfl, rfl, rfl, rfl, rfl,  trivial⟩ (.cons _ (.cons _ (.cons_cons _ (.cons_cons _ (.cons_cons _ (.cons_cons _ .slnil))))))
        · intro s9 hs9
          exact ⟨by dsimp only; omega, RTs_snoc hi_4 (RTs.mv hIr_4 hs9) (RT.mv hdF4 hs9)⟩
        · dsimp only; omega
      · skip
        refine lo_eff rfl rfl ?_
        refine ln_lit (vs := [_]) Tryz.underlying34 tiimpl_Tree rfl (by decide) rfl rfl rfl rfl rfl rfl (fun b6 => ?_)
        refine lo_back (sk_js (Tr.refl _) [1, 3, 4, 5] rfl) ?_
        refine lo_eff rfl rfl ?_
        refine ln_callA en_177 rfl (fun u hu => tell_ShareAcknowledgeRequestTopic u gE_4 (oE_4 + i_4 * 18) (els (y.at_ 4))[i_4] cE_4 (hrce_4.mv hu).2 (RMp.mv hme_4 hu) htge_4) rfl (fun u9 v9 ht9 hR9 => ?_)
        have hrc := hrc.mv ht9
        have hrt := hrt.mv ht9
        have hMK := hMK.mv ht9
        have hRK := hRK.mv ht9
        have hf0 := hf0.mv ht9
        have hf1 := hf1.mv ht9
        have hLs_4 := hLs_4.mv ht9
        have hd0 := hd0.mv ht9
        have hd1 := hd1.mv ht9
        have hIr_4 := hIr_4.mv ht9
        have hrce_4 := hrce_4.mv ht9
        have hme_4 := hme_4.mv ht9
        obtain ⟨dsF4, rfl, hdF4⟩ := hR9
        refine lo_back (sk_js ht9 [1, 3, 4, 5] rfl) ?_
        refine lo_eff rfl rfl ?_
        refine ln_append (i := 2) rfl Tryz.underlying34 tiimpl_Tree rfl (by decide) rfl rfl (src_obj (j := 0) rfl rfl rfl) (by rw [hil_4]; first | omega | (simp only [maxLen]; omega)) (by rw [hil_4]; first | omega | (simp only [maxLen]; omega)) rfl (k' := ((els (y.at_ 4)).take (i_4 + 1)).length) (xs' := ys_4 ++ [.int .i64 0, .slice none 0 0, .bool false, .slice none 0 0, .slice none 0 0]) hsl_4.symm (by simp [flat, Value.cells]) (fun v10 hv10 => ?_)
        refine lo_back (sk_js ht9 [1, 3, 4, 5] rfl) ?_
        refine lo_eff rfl rfl ?_
        refine ln_pv (pv_ixN (o := 0) (i := 4) Tryz.underlying34 (tiimpl_Tree).size rfl rfl (by decide)) rfl ?_
        refine lo_back (sk_js ht9 [1, 3, 4, 5] rfl) ?_
        refine lo_pv rfl rfl (sk_js ht9 [1, 3, 4, 5] rfl) (pv_fieldAddr (off := 3) (r := 23) Tryz.underlying37 rfl (tiSl_impl_Tree).size rfl rfl rfl) rfl ?_
        refine lo_eff rfl rfl ?_
        refine ln_store1 (i := 4) rfl rfl rfl hv10.2 (tiSl_impl_Tree).size rfl ?_
        refine lo_last (by kernel_rfl) ?_
        refine lo_cd ?_
        refine cd_region ?_
        refine ln_rowshp (i := 2) rfl (fun ad2_4 cp2_4 hv2_4 hle2_4 hpos2_4 => ?_)
        subst hv2_4
        obtain ⟨g2_4, rfl⟩ := hpos2_4 (by omega)
        refine ln_pv (pv_ixN Tryz.underlying34 tiimpl_Tree.size rfl rfl (by omega)) rfl ?_
        refine ln_storeR (i := 2) (vs := dsF4) (xs' := ys_4 ++ dsF4) rfl rfl rfl rfl (by rw [show List.length _ = 5 from hdF4.len]; exact tiimpl_Tree.size) (by have h5 : List.length (dsF4) = 5 := hdF4.len; omega) hdF4.cells (wr_end (show 5 = List.length _ from Eq.symm hdF4.len) (by have h6 := (RTs.len5 hIr_4); simp only [List.length_map] at h6; omega)) ?_
        refine ln_nil ?_
        refine at_cd ?_
        refine cd_region ?_
        refine ln_pv (pv_add' rfl rfl (wrap_succ (by omega))) rfl ?_
        refine ln_pv (pv_move rfl) rfl ?_
        refine ln_nil ?_
        refine at_rnd (i_4 + 1, ys_4 ++ dsF4, (.slice (some ⟨g2_4, 0, none⟩) ((els (y.at_ 4)).take (i_4 + 1)).length cp2_4)) (hl1.trans ht9) ?_ ?_ ⟨rfl, rfl, rfl, rfl, rfl,  trivial⟩ (.cons _ (.cons _ (.cons_cons _ (.cons_cons _ (.cons_cons _ (.cons_cons _ .slnil))))))
        · intro s9 hs9
          exact ⟨by dsimp only; omega, RTs_snoc hi_4 (RTs.mv hIr_4 hs9) (RT.mv hdF4 hs9)⟩
        · dsimp only; omega
  · -- no
    refine cd_exit rfl ?_
    refine at_cd ?_
    have hq_4 : i_4 = (els (y.at_ 4)).length := by omega
    subst hq_4
    rw [List.take_length] at hIr_4
    refine cd_row (i := 0) (m' := ((els (y.at_ 4)).map (tlT F_sShareAcknowledgeRequestTopic)).length) (xs' := ys_4) rfl (by simp) rfl ?_
    refine cd_sr ?_
    refine ln_pv (pv_move rfl) rfl ?_
    refine ln_pv (pv_nilCheck rfl) rfl ?_
    refine ln_pv (pv_fieldAddr (off := 6)  Tryz.underlying192 rfl (tipub_kmsg_Tags).size rfl rfl rfl) rfl ?_
    refine ln_pv (pv_makeFunc (vf := #[]) (vc := #[.pointer (some ⟨b2, 0, none⟩)]) (by rw [List.map_toArray, List.map_toArray]; rfl) (by rw [List.map_toArray, List.map_toArray]; rfl)) rfl ?_
    refine ln_nilrow 69 2 ?_
    have hst := tclo_ShareAcknowledgeRequest b2 (.int .i64 0) (.slice none 0 0) (.bool false) (.slice (some ⟨bL, 0, none⟩) 5 5) y.u hkeys hlens (Nat.le_of_lt hlen)
    have hEa := fun (u : Vw) hr hm hk h0 hok hav hnd => tags_EachG (fun z => TA b2 (.int .i64 0) (.slice none 0 0) (.bool false) (.slice (some ⟨bL, 0, none⟩) 5 5) z) TB (TInv y.u) 178 (.pointer (some ⟨b2, 0, none⟩)) en_178 u b (0 + 6) mv1 lt y.u (.slice none 0 0, [], 0) hr hm hk hsrt (by omega) h0 hst hok hav hnd
    refine ln_callH (E := [TA b2 (.int .i64 0) (.slice none 0 0) (.bool false) (.slice (some ⟨bL, 0, none⟩) 5 5) (.slice none 0 0, [], 0), TB (.slice none 0 0, [], 0)]) (H0 := [_, _, _]) (List.perm_middle (l₁ := [_, _])) en_125 rfl (fun u hu hok hav hnd => hEa u (RC1.mv hrt hu) (hMK.mv hu) (RK.mv hu hRK) (fun w hw => ⟨rfl, by rw [List.take_zero]; rfl⟩) hok hav hnd) rfl ?_
    rintro u12 v12 _ ht12 ⟨xu12, ⟨⟨vU, csU, kU⟩, rfl, hzU⟩, hxu12⟩
    obtain ⟨hkU, hRU⟩ := (hzU.mv hxu12).get
    dsimp only at hkU hRU
    subst hkU
    rw [List.take_length] at hRU
    have hrc := hrc.mv ht12
    have hrt := hrt.mv ht12
    have hMK := hMK.mv ht12
    have hRK := hRK.mv ht12
    have hf0 := hf0.mv ht12
    have hf1 := hf1.mv ht12
    have hLs_4 := hLs_4.mv ht12
    have hd0 := hd0.mv ht12
    have hd1 := hd1.mv ht12
    have hIr_4 := hIr_4.mv ht12
    refine ln_cd ?_
    refine cd_sr ?_
    refine ln_pv (pv_fieldAddr (off := 4) (r := 4) Tryz.underlying37 rfl (tiSl_impl_Tag).size rfl rfl rfl) rfl ?_
    refine ln_pv (pv_ldo (i := 0) rfl Tryz.underlying35 rfl rfl rfl) rfl ?_
    refine ln_callT (i := 1) en_127 rfl rfl (fun u hu hok hav => impl_sorted u vU y.u csU hsrt (by omega) (RUs.cells hRU).1 (fun i hi => by obtain ⟨c1, tv, c3, he, hc, _, _⟩ := RUs.at_ hi hRU; rw [he, List.append_assoc, List.getElem?_append_right (by omega), hc]; simp) hok hav) rfl ?_
    rintro u13 v13 _ ht13 ⟨_, rfl, _⟩
    have hrc := hrc.mv ht13
    have hrt := hrt.mv ht13
    have hMK := hMK.mv ht13
    have hRK := hRK.mv ht13
    have hf0 := hf0.mv ht13
    have hf1 := hf1.mv ht13
    have hLs_4 := hLs_4.mv ht13
    have hd0 := hd0.mv ht13
    have hd1 := hd1.mv ht13
    have hIr_4 := hIr_4.mv ht13
    have hRU := hRU.mv ht13
    refine ln_cd ?_
    refine cd_rowone (i := 1) rfl (fun hoU => ?_)
    refine cd_sr ?_
    refine ln_pv (pv_ldO (i := 0) rfl Tryz.underlying37 rfl (tiimpl_Tree).size rfl rfl) rfl ?_
    refine ln_storeW (i := 4) rfl rfl rfl rfl (tiimpl_Tree).size rfl (by simp [hoU]) ?_
    refine ln_cd ?_
    refine cd_ret ?_
    refine at_retC (i := 4) rfl rfl rfl Tryz.underlying37 rfl tiimpl_Tree.size rfl (fun w hS => ?_)
    have hRTs : RTs hS.fin [.mk 0 (if (y.at_ 0).z then [] else (y.at_ 0).s) (y.at_ 0).z [] [], .mk 0 (if (y.at_ 1).z then [] else (y.at_ 1).s) (y.at_ 1).z [] [], .mk (IntKind.i32.wrap (y.at_ 2).n) [] false [] [], .mk (if decide ((y.at_ 3).n % 2 = 1) then 1 else 0) [] false [] [], .mk 0 [] (y.at_ 4).z ((els (y.at_ 4)).map (tlT F_sShareAcknowledgeRequestTopic)) []] _ := ⟨[_, _, _, _, _], _, rfl, RT.mv hd0 hS.trFin, ⟨[_, _, _, _, _], _, rfl, RT.mv hd1 hS.trFin, ⟨[.int .i64 (IntKind.i32.wrap (y.at_ 2).n), .slice none 0 0, .bool false, .slice none 0 0, .slice none 0 0], _, rfl, RT_num (I64_i32 _), ⟨[.int .i64 (if decide ((y.at_ 3).n % 2 = 1) then 1 else 0), .slice none 0 0, .bool false, .slice none 0 0, .slice none 0 0], _, rfl, RT_num (by split <;> (simp [I64])), ⟨[_, _, _, _, _], _, rfl, RT_list hnil1_4 rfl (row_rs hS (j := 2) rfl (RTs.cells hIr_4)) (RTs.mv hIr_4 hS.trFin), rfl⟩⟩⟩⟩⟩
    refine ⟨_, rfl, RT.shut ⟨_, _, _, rfl, (show I64 0 from by unfold I64; omega), RS_nil 1, ⟨_, obj_rsS hS (i := 3) (sz := 5) (m := 5) rfl rfl (RTs.cells hRTs), hRTs⟩, ⟨csU, row_rs hS (j := 1) rfl (RUs.cells hRU).2, RUs.mv hS.trFin hRU⟩⟩⟩
end K
end Go.Proofs.YtekafeogilbjmaaGreatDoor
