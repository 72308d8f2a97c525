import Derived.Test.YtjjfpdofkdolnaaDoorTm
import Derived.Test.YtjjfpdofkdolnaaDoorMds
set_option linter.unusedVariables false
set_option linter.unusedSimpArgs false
namespace Go.Proofs.YtjjfpdofkdolnaaDoor
namespace K
open Go Go.Lib
theorem tclo_CreatePartitionsRequestTopicAssignment (b3 : Nat) (c0 c1 c2 c3 : Value) (us : Tags) (hk : ∀ y ∈ us, y.1 < 4294967296) (hl : ∀ y ∈ us, y.2.length ≤ 4398046511104) (hlen : us.length ≤ 1099511627776) : ∀ j (hj : j < us.length) (u : Vw) (z : Value × List Value × Nat) (tv : Value), Iv (TInv us) j u z → RSv u tv (us[j]'hj).2 → HF [TA b3 c0 c1 c2 c3 z, TB z] u.w → (∀ q ∈ blks [TA b3 c0 c1 c2 c3 z, TB z], u.av q) → (blks [TA b3 c0 c1 c2 c3 z, TB z]).Nodup → CH Tryd.prog 168 [.int .u32 ((us[j]'hj).1 : Int), tv, .pointer (some ⟨b3, 0, none⟩)] u [TA b3 c0 c1 c2 c3 z, TB z] fun u r E' => ∃ z', E' = [TA b3 c0 c1 c2 c3 z', TB z'] ∧ Iv (TInv us) (j + 1) u z' := by
  rintro j hj u ⟨vU, cs, k⟩ tv hz htv hok hav hnd
  obtain ⟨hk0, hR⟩ := hz.get
  dsimp only at hk0 hR
  subst hk0
  have hbl := hl _ (List.getElem_mem hj)
  obtain ⟨adV, cV, rfl, hleV⟩ := htv.shape
  refine ch_enter Tryd.func168 rfl Tryd.ntmps168 rfl hok hav hnd ?_
  refine cd_draw' [0] [0, 1, 2, 3, 5, 8] [0, 1, 2, 3, 4, 5, 6, 7, 8, 9] mixed (by kernel_rfl) ?_
  refine lo_pv rfl rfl (sk_js (Tr.refl _) [0] rfl) (pv_fieldAddr (off := 4) (r := 4) Tryd.underlying27 rfl (tiSl_impl_Tag).size rfl rfl rfl) rfl ?_
  refine lo_pv rfl rfl (sk_js (Tr.refl _) [0] rfl) (pv_ldo (i := 0) rfl Tryd.underlying25 rfl rfl rfl) rfl ?_
  refine lo_pv rfl rfl (sk_js (Tr.refl _) [0] rfl) (pv_move rfl) rfl ?_
  refine lo_pv rfl rfl (sk_js (Tr.refl _) [0] rfl) (pv_move rfl) rfl ?_
  refine lo_eff rfl rfl ?_
  refine ln_nilrow 5 1 ?_
  refine ln_append (i := 0) rfl Tryd.underlying22 tiuint8 rfl (by decide) rfl rfl (RS.src htv) (by simp only [maxLen]; omega) (by omega) rfl (k' := (us[k]'hj).2.length) (xs' := u8s (us[k]'hj).2) (by omega) (by simp) (fun vc hvc => ?_)
  refine ln_free1 (fun q h => by simpa using h) (fun s1 ht1 hK1 => ?_)
  have hcp : RSv s1 vc (us[k]'hj).2 := Known.rs hK1 (u8s_one _)
  clear hK1
  have htv := htv.mv ht1
  have hR := RUs.mv ht1 hR
  refine lo_back (sk_js ht1 [0] rfl) ?_
  refine lo_pv rfl rfl (sk_js ht1 [0] rfl) (pv_struct [(0, 1), (1, 1)] (l := [_, _]) rfl Tryd.underlying58 tiimpl_Tag (by kernel_rfl) rfl (by simp [okL, Nat.ble_eq, Value.cells, hvc.2])) rfl ?_
  refine lo_eff rfl rfl ?_
  refine ln_lit (vs := [_]) Tryd.underlying25 tiimpl_Tag rfl (by decide) rfl rfl rfl rfl rfl rfl (fun b1 => ?_)
  refine lo_back (sk_js ht1 [1] rfl) ?_
  refine lo_eff rfl rfl ?_
  refine ln_append (i := 2) rfl Tryd.underlying25 tiimpl_Tag rfl (by decide) rfl rfl (src_obj (j := 0) rfl rfl (by simp [flat, Value.cells, hvc.2])) (by first | omega | (simp only [maxLen]; omega)) (by first | omega | (simp only [maxLen]; omega)) rfl (k' := (k + 1)) (xs' := cs ++ [.int .u32 ((us[k]'hj).1 : Int), vc]) rfl (by simp [flat, Value.cells]) (fun v1 hv1 => ?_)
  refine lo_back (sk_js ht1 [1] rfl) ?_
  refine lo_pv rfl rfl (sk_js ht1 [1] rfl) (pv_fieldAddr (off := 4) (r := 4) Tryd.underlying27 rfl (tiSl_impl_Tag).size rfl rfl rfl) rfl ?_
  refine lo_eff rfl rfl ?_
  refine ln_store1 (i := 1) rfl rfl rfl hv1.2 (tiSl_impl_Tag).size rfl ?_
  refine lo_last (by kernel_rfl) ?_
  refine lo_nil ?_
  refine at_retH0 [TA b3 c0 c1 c2 c3 (v1, cs ++ [.int .u32 ((us[k]'hj).1 : Int), vc], k + 1), TB (v1, cs ++ [.int .u32 ((us[k]'hj).1 : Int), vc], k + 1)] (.cons _ (.cons_cons _ (.cons_cons _ .slnil))) rfl (fun w hS => ⟨(v1, cs ++ [.int .u32 ((us[k]'hj).1 : Int), vc], k + 1), rfl, fun w2 hw2 => ⟨rfl, ?_⟩⟩)
  rw [take_snoc' hj]
  have hq := (hS.trFinH _ _).trans hw2
  exact RUs.append (RUs.mv hq hR) (RUs.one_ (hk _ (List.getElem_mem hj)) (RSv.mv hcp hq))
theorem tlT_CreatePartitionsRequestTopicAssignment (y : Tre) : tlT F_sCreatePartitionsRequestTopicAssignment y = .mk 0 [] false [.mk 0 [] (y.at_ 0).z ((els (y.at_ 0)).map (tlS 3 (-1))) []] y.u := rfl
set_option maxHeartbeats 2000000 in
theorem tell_CreatePartitionsRequestTopicAssignment (t : Vw) (b o : Nat) (y : Tre) (cells : List Value) (hrc : RC t b o cells) (hM : RMp t F_sCreatePartitionsRequestTopicAssignment y cells) (htg : tgT F_sCreatePartitionsRequestTopicAssignment y) : CA Tryd.prog 137 [.pointer (some ⟨b, o, none⟩)] t fun u r => ∃ ds, r = .agg ds.toArray ∧ RT u (tlT F_sCreatePartitionsRequestTopicAssignment y) ds := by
  rw [tlT_CreatePartitionsRequestTopicAssignment]
  obtain ⟨⟨hsrt, hkeys, hlens, hlen⟩, htl⟩ := htg
  simp only [F_sCreatePartitionsRequestTopicAssignment, tgL] at htl
  obtain ⟨qg0, _⟩ := htl
  obtain ⟨fc1, mv1, hce1, hfl1, hTg1⟩ := hM
  simp only [F_sCreatePartitionsRequestTopicAssignment, RMl] at hfl1
  obtain ⟨x1_0, z1_0, e1_0, g1_0, hend1⟩ := hfl1
  obtain ⟨_, rfl, Gg1_0⟩ := RMf_list.1 g1_0
  obtain ⟨ad1_0, cap1_0, rfl, hnil1_0, Hg1_0⟩ := Gg1_0.els
  subst hend1
  subst e1_0
  rw [hce1] at hrc
  simp only [List.cons_append, List.nil_append, List.append_assoc] at hrc
  have hLs_0 := LsF.of Hg1_0
  have hll_0 : (els (y.at_ 0)).length ≤ 32767 := (tgF_list.1 qg0).1
  obtain ⟨lt, hMK, hRK⟩ := hTg1
  have hrt : RC1 t b (o + 1) mv1 := hrc.sub 1 (c1 := [_]) (c2 := [mv1]) (c3 := []) rfl rfl
  have hrc : RCx t b o _ _ := hrc
  refine ca_enter Tryd.func137 rfl Tryd.ntmps137 rfl ?_
  refine cd_sr ?_
  refine ln_alloc tiimpl_Tree rfl rfl (fun b1 => ?_)
  refine ln_cd ?_
  refine cd_sr ?_
  refine ln_makeN (m := 1) (l := [.int .i64 0, .slice none 0 0, .bool false, .slice none 0 0, .slice none 0 0]) Tryd.underlying24 tiimpl_Tree rfl rfl (by kernel_rfl) (by decide) (by decide) rfl (fun bL => ?_)
  refine ln_pv (pv_struct [(0, 1), (1, 1), (2, 1), (3, 1), (4, 1)] (l := [_, _, _, _, _]) rfl Tryd.underlying27 tiimpl_Tree (by kernel_rfl) rfl rfl) rfl ?_
  refine ln_alloc tiimpl_Tree rfl rfl (fun b2 => ?_)
  refine ln_storeW (i := 0) rfl rfl rfl rfl (tiimpl_Tree).size rfl (by simp []) ?_
  refine ln_cd ?_
  refine cd_dr' [0, 1, 2] [0, 1, 2, 3, 4, 5, 6, 8] [0, 1, 2, 3, 4, 5, 6, 7, 8, 9] mixed (by kernel_rfl) ?_
  refine lo_pv rfl rfl (sk_js (Tr.refl _) [0, 1, 2] rfl) (pv_fieldAddr (off := 3) (r := 3) Tryd.underlying27 rfl (tiSl_impl_Tree).size rfl rfl rfl) rfl ?_
  refine lo_pv rfl rfl (sk_js (Tr.refl _) [0, 1, 2] rfl) (pv_ldo (i := 0) rfl Tryd.underlying24 rfl rfl rfl) rfl ?_
  refine lo_pv rfl rfl (sk_js (Tr.refl _) [0, 1, 2] rfl) (pv_move rfl) rfl ?_
  refine lo_pv rfl rfl (sk_js (Tr.refl _) [0, 1, 2] rfl) (pv_nilCheck rfl) rfl ?_
  refine lo_pv rfl rfl (sk_js (Tr.refl _) [0, 1, 2] rfl) (pv_fieldAddr (off := 0)  Tryd.underlying165 rfl (tiSl_int32).size rfl rfl rfl) rfl ?_
  refine lo_pv rfl rfl (sk_js (Tr.refl _) [0, 1, 2] rfl) (pv_ldr (j := 0) hrc Tryd.underlying102 rfl rfl rfl) rfl ?_
  refine lo_pv rfl rfl (sk_js (Tr.refl _) [0, 1, 2] rfl) (pv_eqS Tryd.underlying102 rfl rfl) rfl ?_
  refine lo_eff rfl rfl ?_
  refine ln_pv (pv_ixN (o := 0) (i := 0) Tryd.underlying24 (tiimpl_Tree).size rfl rfl (by decide)) rfl ?_
  refine lo_back (sk_js (Tr.refl _) [0, 1, 2] rfl) ?_
  refine lo_pv rfl rfl (sk_js (Tr.refl _) [0, 1, 2] rfl) (pv_fieldAddr (off := 2) (r := 2) Tryd.underlying27 rfl (tibool).size rfl rfl rfl) rfl ?_
  refine lo_eff rfl rfl ?_
  refine ln_store1 (i := 1) rfl rfl rfl rfl (tibool).size rfl ?_
  refine lo_last (by kernel_rfl) ?_
  refine lo_cd ?_
  refine cd_seq ?_
  refine cd_nilrow 27 5 ?_
  refine cd_sr ?_
  refine ln_pv (pv_move rfl) rfl ?_
  refine ln_pv (pv_nilCheck rfl) rfl ?_
  refine ln_pv (pv_fieldAddr (off := 0)  Tryd.underlying165 rfl (tiSl_int32).size rfl rfl rfl) rfl ?_
  refine ln_pv (pv_ldr (j := 0) hrc Tryd.underlying102 rfl rfl rfl) rfl ?_
  refine ln_pv (pv_len_slice Tryd.underlying102 rfl) rfl ?_
  refine ln_pv (pv_move rfl) rfl ?_
  refine ln_cd ?_
  refine cd_block ?_
  refine cd_loop (⟨fun (z : Nat × List Value × Value) => [(0, .pointer (some ⟨b, o, none⟩)), (2, .pointer (some ⟨b1, 0, none⟩)), (3, .pointer (some ⟨b2, 0, none⟩)), (20, .int .i64 ((els (y.at_ 0)).length : Int)), (21, .int .i64 ((z.1 : Nat) : Int))], fun (z : Nat × List Value × Value) => [.row z.2.2 27 5 ((els (y.at_ 0)).take z.1).length z.2.1, .obj b2 (.cells [.int .i64 0, .slice none 0 0, .bool false, .slice (some ⟨bL, 0, none⟩) 1 1, .slice none 0 0].toArray 27), .obj bL (.cells [.int .i64 0, .slice none 0 0, .bool ad1_0.isNone, z.2.2, .slice none 0 0].toArray 27), .obj b1 (.cells [.int .i64 0, .slice none 0 0, .bool false, .slice none 0 0, .slice none 0 0].toArray 27)], fun (z : Nat × List Value × Value) s => z.1 ≤ (els (y.at_ 0)).length ∧ RTs s (((els (y.at_ 0)).take z.1).map (tlS 3 (-1))) z.2.1, fun (z : Nat × List Value × Value) => (els (y.at_ 0)).length - z.1⟩ : Lp (Nat × List Value × Value)) (0, [], .slice none 0 0) ?_ ?_ ?_ ?_
  · intro s0 hs0
    exact ⟨Nat.zero_le _, rfl⟩
  · exact ⟨rfl, rfl, rfl, rfl, rfl,  trivial⟩
  · exact (.cons_cons _ (.cons_cons _ (.cons_cons _ (.cons_cons _ .slnil))))
  intro z s1 hl1 hI
  obtain ⟨i_0, ys_0, vv_0⟩ := z
  dsimp only at hI ⊢
  have hrc := hrc.mv hl1
  have hrt := hrt.mv hl1
  have hMK := hMK.mv hl1
  have hRK := hRK.mv hl1
  have hLs_0 := hLs_0.mv hl1
  obtain ⟨hI_0, hIr_0⟩ := hI
  refine cd_sr ?_
  refine ln_pv (pv_lss rfl rfl) rfl ?_
  refine ln_cd ?_
  refine cd_seq ?_
  refine cd_if rfl (fun hc1 => ?_) (fun hc1 => ?_)
  · -- yes
    refine cd_skip ?_
    refine at_cd ?_
    refine cd_seq ?_
    refine cd_block ?_
    have hi_0 : i_0 < (els (y.at_ 0)).length := by omega
    have hsl_0 : ((els (y.at_ 0)).take (i_0 + 1)).length = ((els (y.at_ 0)).take i_0).length + 1 := by simp only [List.length_take]; omega
    have hil_0 : ((els (y.at_ 0)).take i_0).length = i_0 := by rw [List.length_take]; omega
    obtain ⟨gE_0, oE_0, cE_0, hadE_0, hrce_0, hme_0⟩ := hLs_0.at_ hi_0 (show esl _ _ = 1 by kernel_rfl)
    subst hadE_0
    obtain rfl := RE_i32 hme_0
    refine cd_sr ?_
    refine ln_pv (pv_move rfl) rfl ?_
    refine ln_pv (pv_assign rfl) rfl ?_
    refine ln_cd ?_
    refine cd_dr3 [1, 2, 3] [] [0] 1 2 [2, 3] [1, 3] mixed (by kernel_rfl) ?_
    refine lo_eff rfl rfl ?_
    refine ln_alloc tibool rfl rfl (fun b3 => ?_)
    refine lo_last (by kernel_rfl) ?_
    refine lo_nil (at_two ?_ ?_)
    · skip
      refine lo_eff rfl rfl ?_
      refine ln_store1 (i := 0) rfl rfl rfl rfl (tibool).size rfl ?_
      refine lo_last (by kernel_rfl) ?_
      refine lo_eff rfl rfl ?_
      refine ln_store1 (i := 0) rfl rfl rfl rfl (tibool).size rfl ?_
      refine lo_last (by kernel_rfl) ?_
      refine lo_eff rfl rfl ?_
      refine ln_pv (pv_ldo (i := 0) rfl Tryd.underlying4 rfl rfl rfl) rfl ?_
      refine lo_last (by kernel_rfl) ?_
      refine lo_cd ?_
      refine cd_ff rfl ?_
      refine cd_draw' [0, 2, 3, 4] [0, 1, 2, 3, 4, 5, 6, 7, 8, 9, 10, 11, 12, 13, 14, 15, 19] [0, 1, 2, 3, 4, 5, 6, 7, 8, 9, 10, 11, 12, 13, 14, 15, 16, 17, 18, 19, 20] mixed (by kernel_rfl) ?_
      refine lo_pv rfl rfl (sk_js (Tr.refl _) [0, 2, 3, 4] rfl) (pv_fieldAddr (off := 3) (r := 3) Tryd.underlying27 rfl (tiSl_impl_Tree).size rfl rfl rfl) rfl ?_
      refine lo_pv rfl rfl (sk_js (Tr.refl _) [0, 2, 3, 4] rfl) (pv_ldo (i := 1) rfl Tryd.underlying24 rfl rfl rfl) rfl ?_
      refine lo_pv rfl rfl (sk_js (Tr.refl _) [0, 2, 3, 4] rfl) (pv_fieldAddr (off := 3) (r := 3) Tryd.underlying27 rfl (tiSl_impl_Tree).size rfl rfl rfl) rfl ?_
      refine lo_pv rfl rfl (sk_js (Tr.refl _) [0, 2, 3, 4] rfl) (pv_ldo (i := 1) rfl Tryd.underlying24 rfl rfl rfl) rfl ?_
      refine lo_pv rfl rfl (sk_js (Tr.refl _) [0, 2, 3, 4] rfl) (pv_ixN (o := 0) (i := 0) Tryd.underlying24 (tiimpl_Tree).size rfl rfl (by decide)) rfl ?_
      refine lo_pv rfl rfl (sk_js (Tr.refl _) [0, 2, 3, 4] rfl) (pv_fieldAddr (off := 3) (r := 3) Tryd.underlying27 rfl (tiSl_impl_Tree).size rfl rfl rfl) rfl ?_
      refine lo_pv rfl rfl (sk_js (Tr.refl _) [0, 2, 3, 4] rfl) (pv_ldo (i := 2) rfl Tryd.underlying24 rfl rfl rfl) rfl ?_
      refine lo_pv rfl rfl (sk_js (Tr.refl _) [0, 2, 3, 4] rfl) (pv_move rfl) rfl ?_
      refine lo_pv rfl rfl (sk_js (Tr.refl _) [0, 2, 3, 4] rfl) (pv_nilCheck rfl) rfl ?_
      refine lo_pv rfl rfl (sk_js (Tr.refl _) [0, 2, 3, 4] rfl) (pv_fieldAddr (off := 0)  Tryd.underlying165 rfl (tiSl_int32).size rfl rfl rfl) rfl ?_
      refine lo_pv rfl rfl (sk_js (Tr.refl _) [0, 2, 3, 4] rfl) (pv_ldr (j := 0) hrc Tryd.underlying102 rfl rfl rfl) rfl ?_
      refine lo_pv rfl rfl (sk_js (Tr.refl _) [0, 2, 3, 4] rfl) (pv_move rfl) rfl ?_
      refine lo_pv rfl rfl (sk_js (Tr.refl _) [0, 2, 3, 4] rfl) (pv_ixN Tryd.underlying102 (tiint32).size rfl rfl hi_0) rfl ?_
      refine lo_pv rfl rfl (sk_js (Tr.refl _) [0, 2, 3, 4] rfl) (pv_ldr (j := 0) (hrce_0).2 Tryd.underlying21 rfl rfl rfl) rfl ?_
      refine lo_pv rfl rfl (sk_js (Tr.refl _) [0, 2, 3, 4] rfl) (pv_conv' Tryd.underlying21 Tryd.underlying2 rfl (w64_i32 _)) rfl ?_
      refine lo_pv rfl rfl (sk_js (Tr.refl _) [0, 2, 3, 4] rfl) (pv_struct [(0, 1), (1, 1), (2, 1), (3, 1), (4, 1)] (l := [_, _, _, _, _]) rfl Tryd.underlying27 tiimpl_Tree (by kernel_rfl) rfl rfl) rfl ?_
      refine lo_eff rfl rfl ?_
      refine ln_lit (vs := [_]) Tryd.underlying24 tiimpl_Tree rfl (by decide) rfl rfl rfl rfl rfl rfl (fun b4 => ?_)
      refine lo_back (sk_js (Tr.refl _) [1, 3, 4, 5] rfl) ?_
      refine lo_eff rfl rfl ?_
      refine ln_append (i := 2) rfl Tryd.underlying24 tiimpl_Tree rfl (by decide) rfl rfl (src_obj (j := 0) rfl rfl rfl) (by rw [hil_0]; first | omega | (simp only [maxLen]; omega)) (by rw [hil_0]; first | omega | (simp only [maxLen]; omega)) rfl (k' := ((els (y.at_ 0)).take (i_0 + 1)).length) (xs' := ys_0 ++ [.int .i64 (IntKind.i32.wrap ((els (y.at_ 0))[i_0]).n), .slice none 0 0, .bool false, .slice none 0 0, .slice none 0 0]) hsl_0.symm (by simp [flat, Value.cells]) (fun v1 hv1 => ?_)
      refine lo_back (sk_js (Tr.refl _) [1, 3, 4, 5] rfl) ?_
      refine lo_eff rfl rfl ?_
      refine ln_pv (pv_ixN (o := 0) (i := 0) Tryd.underlying24 (tiimpl_Tree).size rfl rfl (by decide)) rfl ?_
      refine lo_back (sk_js (Tr.refl _) [1, 3, 4, 5] rfl) ?_
      refine lo_pv rfl rfl (sk_js (Tr.refl _) [1, 3, 4, 5] rfl) (pv_fieldAddr (off := 3) (r := 3) Tryd.underlying27 rfl (tiSl_impl_Tree).size rfl rfl rfl) rfl ?_
      refine lo_eff rfl rfl ?_
      refine ln_store1 (i := 4) rfl rfl rfl hv1.2 (tiSl_impl_Tree).size rfl ?_
      refine lo_last (by kernel_rfl) ?_
      refine lo_nil ?_
      refine at_cd ?_
      refine cd_region ?_
      refine ln_pv (pv_add' rfl rfl (wrap_succ (by omega))) rfl ?_
      refine ln_pv (pv_move rfl) rfl ?_
      refine ln_nil ?_
      refine at_rnd (i_0 + 1, ys_0 ++ [.int .i64 (IntKind.i32.wrap ((els (y.at_ 0))[i_0]).n), .slice none 0 0, .bool false, .slice none 0 0, .slice none 0 0], v1) hl1 ?_ ?_ ⟨rfl, rfl, rfl, rfl, rfl,  trivial⟩ (.cons _ (.cons _ (.cons_cons _ (.cons_cons _ (.cons_cons _ (.cons_cons _ .slnil))))))
      · intro s9 hs9
        exact ⟨by dsimp only; omega, RTs_snoc hi_0 (RTs.mv hIr_0 hs9) RT_e3⟩
      · dsimp only; omega
    · skip
      refine lo_eff rfl rfl ?_
      refine ln_store1 (i := 0) rfl rfl rfl rfl (tibool).size rfl ?_
      refine lo_last (by kernel_rfl) ?_
      refine lo_eff rfl rfl ?_
      refine ln_store1 (i := 0) rfl rfl rfl rfl (tibool).size rfl ?_
      refine lo_last (by kernel_rfl) ?_
      refine lo_eff rfl rfl ?_
      refine ln_pv (pv_ldo (i := 0) rfl Tryd.underlying4 rfl rfl rfl) rfl ?_
      refine lo_last (by kernel_rfl) ?_
      refine lo_cd ?_
      refine cd_tt rfl ?_
      refine cd_rowshape (i := 1) rfl (fun adR_0 cpR_0 hvR_0 hleR_0 hposR_0 => ?_)
      subst hvR_0
      refine cd_dr' [0, 2, 3, 4] [0, 1, 2, 3, 4, 5, 6, 7, 8, 9, 10, 11, 12, 13, 14, 18] [0, 1, 2, 3, 4, 5, 6, 7, 8, 9, 10, 11, 12, 13, 14, 15, 16, 17, 18, 19] mixed (by kernel_rfl) ?_
      refine lo_pv rfl rfl (sk_js (Tr.refl _) [0, 2, 3, 4] rfl) (pv_fieldAddr (off := 3) (r := 3) Tryd.underlying27 rfl (tiSl_impl_Tree).size rfl rfl rfl) rfl ?_
      refine lo_pv rfl rfl (sk_js (Tr.refl _) [0, 2, 3, 4] rfl) (pv_ldo (i := 1) rfl Tryd.underlying24 rfl rfl rfl) rfl ?_
      refine lo_pv rfl rfl (sk_js (Tr.refl _) [0, 2, 3, 4] rfl) (pv_ixN (o := 0) (i := 0) Tryd.underlying24 (tiimpl_Tree).size rfl rfl (by decide)) rfl ?_
      refine lo_pv rfl rfl (sk_js (Tr.refl _) [0, 2, 3, 4] rfl) (pv_fieldAddr (off := 3) (r := 3) Tryd.underlying27 rfl (tiSl_impl_Tree).size rfl rfl rfl) rfl ?_
      refine lo_pv rfl rfl (sk_js (Tr.refl _) [0, 2, 3, 4] rfl) (pv_ldo (i := 2) rfl Tryd.underlying24 rfl rfl rfl) rfl ?_
      refine lo_pv rfl rfl (sk_js (Tr.refl _) [0, 2, 3, 4] rfl) (pv_move rfl) rfl ?_
      refine lo_pv rfl rfl (sk_js (Tr.refl _) [0, 2, 3, 4] rfl) (pv_nilCheck rfl) rfl ?_
      refine lo_pv rfl rfl (sk_js (Tr.refl _) [0, 2, 3, 4] rfl) (pv_fieldAddr (off := 0)  Tryd.underlying165 rfl (tiSl_int32).size rfl rfl rfl) rfl ?_
      refine lo_pv rfl rfl (sk_js (Tr.refl _) [0, 2, 3, 4] rfl) (pv_ldr (j := 0) hrc Tryd.underlying102 rfl rfl rfl) rfl ?_
      refine lo_pv rfl rfl (sk_js (Tr.refl _) [0, 2, 3, 4] rfl) (pv_move rfl) rfl ?_
      refine lo_pv rfl rfl (sk_js (Tr.refl _) [0, 2, 3, 4] rfl) (pv_ixN Tryd.underlying102 (tiint32).size rfl rfl hi_0) rfl ?_
      refine lo_pv rfl rfl (sk_js (Tr.refl _) [0, 2, 3, 4] rfl) (pv_ldr (j := 0) (hrce_0).2 Tryd.underlying21 rfl rfl rfl) rfl ?_
      refine lo_pv rfl rfl (sk_js (Tr.refl _) [0, 2, 3, 4] rfl) (pv_conv' Tryd.underlying21 Tryd.underlying2 rfl (w64_i32 _)) rfl ?_
      refine lo_pv rfl rfl (sk_js (Tr.refl _) [0, 2, 3, 4] rfl) (pv_struct [(0, 1), (1, 1), (2, 1), (3, 1), (4, 1)] (l := [_, _, _, _, _]) rfl Tryd.underlying27 tiimpl_Tree (by kernel_rfl) rfl rfl) rfl ?_
      refine lo_pv rfl rfl (sk_js (Tr.refl _) [0, 2, 3, 4] rfl) (pv_len_slice Tryd.underlying24 rfl) rfl ?_
      refine lo_eff rfl rfl ?_
      refine ln_lit (vs := [_]) Tryd.underlying24 tiimpl_Tree rfl (by decide) rfl rfl rfl rfl rfl rfl (fun b5 => ?_)
      refine lo_back (sk_js (Tr.refl _) [1, 3, 4, 5] rfl) ?_
      refine lo_eff rfl rfl ?_
      refine ln_append (i := 2) rfl Tryd.underlying24 tiimpl_Tree rfl (by decide) rfl rfl (src_obj (j := 0) rfl rfl rfl) (by rw [hil_0]; first | omega | (simp only [maxLen]; omega)) (by rw [hil_0]; first | omega | (simp only [maxLen]; omega)) rfl (k' := ((els (y.at_ 0)).take (i_0 + 1)).length) (xs' := ys_0 ++ [.int .i64 0, .slice none 0 0, .bool false, .slice none 0 0, .slice none 0 0]) hsl_0.symm (by simp [flat, Value.cells]) (fun v2 hv2 => ?_)
      refine lo_back (sk_js (Tr.refl _) [1, 3, 4, 5] rfl) ?_
      refine lo_eff rfl rfl ?_
      refine ln_pv (pv_ixN (o := 0) (i := 0) Tryd.underlying24 (tiimpl_Tree).size rfl rfl (by decide)) rfl ?_
      refine lo_back (sk_js (Tr.refl _) [1, 3, 4, 5] rfl) ?_
      refine lo_pv rfl rfl (sk_js (Tr.refl _) [1, 3, 4, 5] rfl) (pv_fieldAddr (off := 3) (r := 3) Tryd.underlying27 rfl (tiSl_impl_Tree).size rfl rfl rfl) rfl ?_
      refine lo_eff rfl rfl ?_
      refine ln_store1 (i := 4) rfl rfl rfl hv2.2 (tiSl_impl_Tree).size rfl ?_
      refine lo_last (by kernel_rfl) ?_
      refine lo_cd ?_
      refine cd_region ?_
      refine ln_rowshp (i := 2) rfl (fun ad2_0 cp2_0 hv2_0 hle2_0 hpos2_0 => ?_)
      subst hv2_0
      obtain ⟨g2_0, rfl⟩ := hpos2_0 (by omega)
      refine ln_pv (pv_ixN Tryd.underlying24 tiimpl_Tree.size rfl rfl (by omega)) rfl ?_
      refine ln_storeR (i := 2) (vs := [.int .i64 (IntKind.i32.wrap ((els (y.at_ 0))[i_0]).n), .slice none 0 0, .bool false, .slice none 0 0, .slice none 0 0]) (xs' := ys_0 ++ [.int .i64 (IntKind.i32.wrap ((els (y.at_ 0))[i_0]).n), .slice none 0 0, .bool false, .slice none 0 0, .slice none 0 0]) rfl rfl rfl rfl tiimpl_Tree.size (by simp only [List.length_cons, List.length_nil]; omega) (by simp) (wr_end (xs := ys_0) (z := [.int .i64 0, .slice none 0 0, .bool false, .slice none 0 0, .slice none 0 0]) (o := 0 + ((els (y.at_ 0)).take i_0).length * 5) (vs := [.int .i64 (IntKind.i32.wrap ((els (y.at_ 0))[i_0]).n), .slice none 0 0, .bool false, .slice none 0 0, .slice none 0 0]) rfl (by have h6 := (RTs.len5 hIr_0); simp only [List.length_map] at h6; omega)) ?_
      refine ln_nil ?_
      refine at_cd ?_
      refine cd_region ?_
      refine ln_pv (pv_add' rfl rfl (wrap_succ (by omega))) rfl ?_
      refine ln_pv (pv_move rfl) rfl ?_
      refine ln_nil ?_
      refine at_rnd (i_0 + 1, ys_0 ++ [.int .i64 (IntKind.i32.wrap ((els (y.at_ 0))[i_0]).n), .slice none 0 0, .bool false, .slice none 0 0, .slice none 0 0], (.slice (some ⟨g2_0, 0, none⟩) ((els (y.at_ 0)).take (i_0 + 1)).length cp2_0)) hl1 ?_ ?_ ⟨rfl, rfl, rfl, rfl, rfl,  trivial⟩ (.cons _ (.cons _ (.cons_cons _ (.cons_cons _ (.cons_cons _ (.cons_cons _ .slnil))))))
      · intro s9 hs9
        exact ⟨by dsimp only; omega, RTs_snoc hi_0 (RTs.mv hIr_0 hs9) RT_e3⟩
      · dsimp only; omega
  · -- no
    refine cd_exit rfl ?_
    refine at_cd ?_
    have hq_0 : i_0 = (els (y.at_ 0)).length := by omega
    subst hq_0
    rw [List.take_length] at hIr_0
    refine cd_row (i := 0) (m' := ((els (y.at_ 0)).map (tlS 3 (-1))).length) (xs' := ys_0) rfl (by simp) rfl ?_
    refine cd_sr ?_
    refine ln_pv (pv_move rfl) rfl ?_
    refine ln_pv (pv_nilCheck rfl) rfl ?_
    refine ln_pv (pv_fieldAddr (off := 1)  Tryd.underlying165 rfl (tipub_kmsg_Tags).size rfl rfl rfl) rfl ?_
    refine ln_pv (pv_makeFunc (vf := #[]) (vc := #[.pointer (some ⟨b2, 0, none⟩)]) (by rw [List.map_toArray, List.map_toArray]; rfl) (by rw [List.map_toArray, List.map_toArray]; rfl)) rfl ?_
    refine ln_nilrow 58 2 ?_
    have hst := tclo_CreatePartitionsRequestTopicAssignment b2 (.int .i64 0) (.slice none 0 0) (.bool false) (.slice (some ⟨bL, 0, none⟩) 1 1) y.u hkeys hlens (Nat.le_of_lt hlen)
    have hEa := fun (u : Vw) hr hm hk h0 hok hav hnd => tags_EachG (fun z => TA b2 (.int .i64 0) (.slice none 0 0) (.bool false) (.slice (some ⟨bL, 0, none⟩) 1 1) z) TB (TInv y.u) 168 (.pointer (some ⟨b2, 0, none⟩)) en_168 u b (o + 1) mv1 lt y.u (.slice none 0 0, [], 0) hr hm hk hsrt (by omega) h0 hst hok hav hnd
    refine ln_callH (E := [TA b2 (.int .i64 0) (.slice none 0 0) (.bool false) (.slice (some ⟨bL, 0, none⟩) 1 1) (.slice none 0 0, [], 0), TB (.slice none 0 0, [], 0)]) (H0 := [_, _, _]) (List.perm_middle (l₁ := [_, _])) en_82 rfl (fun u hu hok hav hnd => hEa u (RC1.mv hrt hu) (hMK.mv hu) (RKp.mv hu hRK) (fun w hw => ⟨rfl, by rw [List.take_zero]; rfl⟩) hok hav hnd) rfl ?_
    rintro u4 v4 _ ht4 ⟨xu4, ⟨⟨vU, csU, kU⟩, rfl, hzU⟩, hxu4⟩
    obtain ⟨hkU, hRU⟩ := (hzU.mv hxu4).get
    dsimp only at hkU hRU
    subst hkU
    rw [List.take_length] at hRU
    have hrc := hrc.mv ht4
    have hrt := hrt.mv ht4
    have hMK := hMK.mv ht4
    have hRK := hRK.mv ht4
    have hLs_0 := hLs_0.mv ht4
    have hIr_0 := hIr_0.mv ht4
    refine ln_cd ?_
    refine cd_sr ?_
    refine ln_pv (pv_fieldAddr (off := 4) (r := 4) Tryd.underlying27 rfl (tiSl_impl_Tag).size rfl rfl rfl) rfl ?_
    refine ln_pv (pv_ldo (i := 0) rfl Tryd.underlying25 rfl rfl rfl) rfl ?_
    refine ln_callT (i := 1) en_84 rfl rfl (fun u hu hok hav => impl_sorted u vU y.u csU hsrt (by omega) (RUs.cells hRU).1 (fun i hi => by obtain ⟨c1, tv, c3, he, hc, _, _⟩ := RUs.at_ hi hRU; rw [he, List.append_assoc, List.getElem?_append_right (by omega), hc]; simp) hok hav) rfl ?_
    rintro u5 v5 _ ht5 ⟨_, rfl, _⟩
    have hrc := hrc.mv ht5
    have hrt := hrt.mv ht5
    have hMK := hMK.mv ht5
    have hRK := hRK.mv ht5
    have hLs_0 := hLs_0.mv ht5
    have hIr_0 := hIr_0.mv ht5
    have hRU := hRU.mv ht5
    refine ln_cd ?_
    refine cd_rowone (i := 1) rfl (fun hoU => ?_)
    refine cd_sr ?_
    refine ln_pv (pv_ldO (i := 0) rfl Tryd.underlying27 rfl (tiimpl_Tree).size rfl rfl) rfl ?_
    refine ln_storeW (i := 4) rfl rfl rfl rfl (tiimpl_Tree).size rfl (by simp [hoU]) ?_
    refine ln_cd ?_
    refine cd_ret ?_
    refine at_retC (i := 4) rfl rfl rfl Tryd.underlying27 rfl tiimpl_Tree.size rfl (fun w hS => ?_)
    have hRTs : RTs hS.fin [.mk 0 [] (y.at_ 0).z ((els (y.at_ 0)).map (tlS 3 (-1))) []] _ := ⟨[_, _, _, _, _], _, rfl, RT_list hnil1_0 rfl (row_rs hS (j := 2) rfl (RTs.cells hIr_0)) (RTs.mv hIr_0 hS.trFin), rfl⟩
    refine ⟨_, rfl, RT.shut ⟨_, _, _, rfl, (show I64 0 from by unfold I64; omega), RS_nil 1, ⟨_, obj_rsS hS (i := 3) (sz := 5) (m := 1) rfl rfl (RTs.cells hRTs), hRTs⟩, ⟨csU, row_rs hS (j := 1) rfl (RUs.cells hRU).2, RUs.mv hS.trFin hRU⟩⟩⟩
theorem tclo_CreatePartitionsRequestTopic (b3 : Nat) (c0 c1 c2 c3 : Value) (us : Tags) (hk : ∀ y ∈ us, y.1 < 4294967296) (hl : ∀ y ∈ us, y.2.length ≤ 4398046511104) (hlen : us.length ≤ 1099511627776) : ∀ j (hj : j < us.length) (u : Vw) (z : Value × List Value × Nat) (tv : Value), Iv (TInv us) j u z → RSv u tv (us[j]'hj).2 → HF [TA b3 c0 c1 c2 c3 z, TB z] u.w → (∀ q ∈ blks [TA b3 c0 c1 c2 c3 z, TB z], u.av q) → (blks [TA b3 c0 c1 c2 c3 z, TB z]).Nodup → CH Tryd.prog 138 [.int .u32 ((us[j]'hj).1 : Int), tv, .pointer (some ⟨b3, 0, none⟩)] u [TA b3 c0 c1 c2 c3 z, TB z] fun u r E' => ∃ z', E' = [TA b3 c0 c1 c2 c3 z', TB z'] ∧ Iv (TInv us) (j + 1) u z' := by
  rintro j hj u ⟨vU, cs, k⟩ tv hz htv hok hav hnd
  obtain ⟨hk0, hR⟩ := hz.get
  dsimp only at hk0 hR
  subst hk0
  have hbl := hl _ (List.getElem_mem hj)
  obtain ⟨adV, cV, rfl, hleV⟩ := htv.shape
  refine ch_enter Tryd.func138 rfl Tryd.ntmps138 rfl hok hav hnd ?_
  refine cd_draw' [0] [0, 1, 2, 3, 5, 8] [0, 1, 2, 3, 4, 5, 6, 7, 8, 9] mixed (by kernel_rfl) ?_
  refine lo_pv rfl rfl (sk_js (Tr.refl _) [0] rfl) (pv_fieldAddr (off := 4) (r := 4) Tryd.underlying27 rfl (tiSl_impl_Tag).size rfl rfl rfl) rfl ?_
  refine lo_pv rfl rfl (sk_js (Tr.refl _) [0] rfl) (pv_ldo (i := 0) rfl Tryd.underlying25 rfl rfl rfl) rfl ?_
  refine lo_pv rfl rfl (sk_js (Tr.refl _) [0] rfl) (pv_move rfl) rfl ?_
  refine lo_pv rfl rfl (sk_js (Tr.refl _) [0] rfl) (pv_move rfl) rfl ?_
  refine lo_eff rfl rfl ?_
  refine ln_nilrow 5 1 ?_
  refine ln_append (i := 0) rfl Tryd.underlying22 tiuint8 rfl (by decide) rfl rfl (RS.src htv) (by simp only [maxLen]; omega) (by omega) rfl (k' := (us[k]'hj).2.length) (xs' := u8s (us[k]'hj).2) (by omega) (by simp) (fun vc hvc => ?_)
  refine ln_free1 (fun q h => by simpa using h) (fun s1 ht1 hK1 => ?_)
  have hcp : RSv s1 vc (us[k]'hj).2 := Known.rs hK1 (u8s_one _)
  clear hK1
  have htv := htv.mv ht1
  have hR := RUs.mv ht1 hR
  refine lo_back (sk_js ht1 [0] rfl) ?_
  refine lo_pv rfl rfl (sk_js ht1 [0] rfl) (pv_struct [(0, 1), (1, 1)] (l := [_, _]) rfl Tryd.underlying58 tiimpl_Tag (by kernel_rfl) rfl (by simp [okL, Nat.ble_eq, Value.cells, hvc.2])) rfl ?_
  refine lo_eff rfl rfl ?_
  refine ln_lit (vs := [_]) Tryd.underlying25 tiimpl_Tag rfl (by decide) rfl rfl rfl rfl rfl rfl (fun b1 => ?_)
  refine lo_back (sk_js ht1 [1] rfl) ?_
  refine lo_eff rfl rfl ?_
  refine ln_append (i := 2) rfl Tryd.underlying25 tiimpl_Tag rfl (by decide) rfl rfl (src_obj (j := 0) rfl rfl (by simp [flat, Value.cells, hvc.2])) (by first | omega | (simp only [maxLen]; omega)) (by first | omega | (simp only [maxLen]; omega)) rfl (k' := (k + 1)) (xs' := cs ++ [.int .u32 ((us[k]'hj).1 : Int), vc]) rfl (by simp [flat, Value.cells]) (fun v1 hv1 => ?_)
  refine lo_back (sk_js ht1 [1] rfl) ?_
  refine lo_pv rfl rfl (sk_js ht1 [1] rfl) (pv_fieldAddr (off := 4) (r := 4) Tryd.underlying27 rfl (tiSl_impl_Tag).size rfl rfl rfl) rfl ?_
  refine lo_eff rfl rfl ?_
  refine ln_store1 (i := 1) rfl rfl rfl hv1.2 (tiSl_impl_Tag).size rfl ?_
  refine lo_last (by kernel_rfl) ?_
  refine lo_nil ?_
  refine at_retH0 [TA b3 c0 c1 c2 c3 (v1, cs ++ [.int .u32 ((us[k]'hj).1 : Int), vc], k + 1), TB (v1, cs ++ [.int .u32 ((us[k]'hj).1 : Int), vc], k + 1)] (.cons _ (.cons_cons _ (.cons_cons _ .slnil))) rfl (fun w hS => ⟨(v1, cs ++ [.int .u32 ((us[k]'hj).1 : Int), vc], k + 1), rfl, fun w2 hw2 => ⟨rfl, ?_⟩⟩)
  rw [take_snoc' hj]
  have hq := (hS.trFinH _ _).trans hw2
  exact RUs.append (RUs.mv hq hR) (RUs.one_ (hk _ (List.getElem_mem hj)) (RSv.mv hcp hq))
theorem tlT_CreatePartitionsRequestTopic (y : Tre) : tlT F_sCreatePartitionsRequestTopic y = .mk 0 [] false [.mk 0 (y.at_ 0).s false [] [], .mk (IntKind.i32.wrap (y.at_ 1).n) [] false [] [], .mk 0 [] (y.at_ 2).z ((els (y.at_ 2)).map (tlT F_sCreatePartitionsRequestTopicAssignment)) []] y.u := rfl
set_option maxHeartbeats 2000000 in
theorem tell_CreatePartitionsRequestTopic (t : Vw) (b o : Nat) (y : Tre) (cells : List Value) (hrc : RC t b o cells) (hM : RMp t F_sCreatePartitionsRequestTopic y cells) (htg : tgT F_sCreatePartitionsRequestTopic y) : CA Tryd.prog 99 [.pointer (some ⟨b, o, none⟩)] t fun u r => ∃ ds, r = .agg ds.toArray ∧ RT u (tlT F_sCreatePartitionsRequestTopic y) ds := by
  rw [tlT_CreatePartitionsRequestTopic]
  obtain ⟨⟨hsrt, hkeys, hlens, hlen⟩, htl⟩ := htg
  simp only [F_sCreatePartitionsRequestTopic, tgL] at htl
  obtain ⟨qg0, qg1, qg2, _⟩ := htl
  obtain ⟨fc1, mv1, hce1, hfl1, hTg1⟩ := hM
  simp only [F_sCreatePartitionsRequestTopic, RMl] at hfl1
  obtain ⟨x1_0, z1_0, e1_0, g1_0, x1_1, z1_1, e1_1, g1_1, x1_2, z1_2, e1_2, g1_2, hend1⟩ := hfl1
  obtain rfl := (RMf_str (by decide)).1 g1_0
  obtain rfl := RMf_i32.1 g1_1
  obtain ⟨_, rfl, Gg1_2⟩ := RMf_list.1 g1_2
  obtain ⟨ad1_2, cap1_2, rfl, hnil1_2, Hg1_2⟩ := Gg1_2.els
  subst hend1
  subst e1_2
  subst e1_1
  subst e1_0
  rw [hce1] at hrc
  simp only [List.cons_append, List.nil_append, List.append_assoc] at hrc
  have hLs_2 := LsF.of Hg1_2
  have hll_2 : (els (y.at_ 2)).length ≤ 32767 := (tgF_list.1 qg2).1
  obtain ⟨lt, hMK, hRK⟩ := hTg1
  have hrt : RC1 t b (o + 3) mv1 := hrc.sub 3 (c1 := [_, _, _]) (c2 := [mv1]) (c3 := []) rfl rfl
  have hrc : RCx t b o _ _ := hrc
  refine ca_enter Tryd.func99 rfl Tryd.ntmps99 rfl ?_
  refine cd_sr ?_
  refine ln_alloc tiimpl_Tree rfl rfl (fun b1 => ?_)
  refine ln_cd ?_
  refine cd_sr ?_
  refine ln_makeN (m := 3) (l := [.int .i64 0, .slice none 0 0, .bool false, .slice none 0 0, .slice none 0 0, .int .i64 0, .slice none 0 0, .bool false, .slice none 0 0, .slice none 0 0, .int .i64 0, .slice none 0 0, .bool false, .slice none 0 0, .slice none 0 0]) Tryd.underlying24 tiimpl_Tree rfl rfl (by kernel_rfl) (by decide) (by decide) rfl (fun bL => ?_)
  refine ln_pv (pv_struct [(0, 1), (1, 1), (2, 1), (3, 1), (4, 1)] (l := [_, _, _, _, _]) rfl Tryd.underlying27 tiimpl_Tree (by kernel_rfl) rfl rfl) rfl ?_
  refine ln_alloc tiimpl_Tree rfl rfl (fun b2 => ?_)
  refine ln_storeW (i := 0) rfl rfl rfl rfl (tiimpl_Tree).size rfl (by simp []) ?_
  refine ln_cd ?_
  refine cd_dr' [0, 1, 2] [0, 1, 2, 3, 4, 5, 7, 8] [0, 1, 2, 3, 4, 5, 6, 7, 8, 9] mixed (by kernel_rfl) ?_
  refine lo_pv rfl rfl (sk_js (Tr.refl _) [0, 1, 2] rfl) (pv_fieldAddr (off := 3) (r := 3) Tryd.underlying27 rfl (tiSl_impl_Tree).size rfl rfl rfl) rfl ?_
  refine lo_pv rfl rfl (sk_js (Tr.refl _) [0, 1, 2] rfl) (pv_ldo (i := 0) rfl Tryd.underlying24 rfl rfl rfl) rfl ?_
  refine lo_pv rfl rfl (sk_js (Tr.refl _) [0, 1, 2] rfl) (pv_move rfl) rfl ?_
  refine lo_pv rfl rfl (sk_js (Tr.refl _) [0, 1, 2] rfl) (pv_nilCheck rfl) rfl ?_
  refine lo_pv rfl rfl (sk_js (Tr.refl _) [0, 1, 2] rfl) (pv_fieldAddr (off := 0)  Tryd.underlying128 rfl (tistring).size rfl rfl rfl) rfl ?_
  refine lo_pv rfl rfl (sk_js (Tr.refl _) [0, 1, 2] rfl) (pv_ldr (j := 0) hrc Tryd.underlying9 rfl rfl rfl) rfl ?_
  refine lo_eff rfl rfl ?_
  refine ln_s2b Tryd.underlying9 Tryd.underlying22 Tryd.underlying5 rfl rfl (fun bS1 cS1 zS1 fS1 hcS1 => ?_)
  refine ln_free1 (fun q h => h.elim) (fun sS1 htS1 hKS1 => ?_)
  have hsS1 := rs_of_obj hKS1 hcS1
  clear hKS1
  have hrc := hrc.mv htS1
  have hrt := hrt.mv htS1
  have hMK := hMK.mv htS1
  have hRK := hRK.mv htS1
  have hLs_2 := hLs_2.mv htS1
  refine lo_back (sk_js htS1 [0, 1, 2] rfl) ?_
  refine lo_pv rfl rfl (sk_js htS1 [0, 1, 2] rfl) (pv_struct [(0, 1), (1, 1), (2, 1), (3, 1), (4, 1)] (l := [_, _, _, _, _]) rfl Tryd.underlying27 tiimpl_Tree (by kernel_rfl) rfl (by simp [okL, Nat.ble_eq, Value.cells, (RS.one hsS1)])) rfl ?_
  refine lo_pv rfl rfl (sk_js htS1 [0, 1, 2] rfl) (pv_ixN (o := 0) (i := 0) Tryd.underlying24 (tiimpl_Tree).size rfl rfl (by decide)) rfl ?_
  refine lo_eff rfl rfl ?_
  refine ln_store (i := 1) (vs := [_, _, _, _, _]) rfl rfl rfl rfl (tiimpl_Tree).size rfl (by simp [(RS.one hsS1)]) rfl ?_
  refine lo_last (by kernel_rfl) ?_
  refine lo_cd ?_
  refine cd_dr' [0, 1, 2] [0, 1, 2, 3, 4, 5, 6, 7, 8] [0, 1, 2, 3, 4, 5, 6, 7, 8, 9] mixed (by kernel_rfl) ?_
  refine lo_pv rfl rfl (sk_js (Tr.refl _) [0, 1, 2] rfl) (pv_fieldAddr (off := 3) (r := 3) Tryd.underlying27 rfl (tiSl_impl_Tree).size rfl rfl rfl) rfl ?_
  refine lo_pv rfl rfl (sk_js (Tr.refl _) [0, 1, 2] rfl) (pv_ldo (i := 0) rfl Tryd.underlying24 rfl rfl rfl) rfl ?_
  refine lo_pv rfl rfl (sk_js (Tr.refl _) [0, 1, 2] rfl) (pv_move rfl) rfl ?_
  refine lo_pv rfl rfl (sk_js (Tr.refl _) [0, 1, 2] rfl) (pv_nilCheck rfl) rfl ?_
  refine lo_pv rfl rfl (sk_js (Tr.refl _) [0, 1, 2] rfl) (pv_fieldAddr (off := 1)  Tryd.underlying128 rfl (tiint32).size rfl rfl rfl) rfl ?_
  refine lo_pv rfl rfl (sk_js (Tr.refl _) [0, 1, 2] rfl) (pv_ldr (j := 1) hrc Tryd.underlying21 rfl rfl rfl) rfl ?_
  refine lo_pv rfl rfl (sk_js (Tr.refl _) [0, 1, 2] rfl) (pv_conv' Tryd.underlying21 Tryd.underlying2 rfl (w64_i32 _)) rfl ?_
  refine lo_pv rfl rfl (sk_js (Tr.refl _) [0, 1, 2] rfl) (pv_struct [(0, 1), (1, 1), (2, 1), (3, 1), (4, 1)] (l := [_, _, _, _, _]) rfl Tryd.underlying27 tiimpl_Tree (by kernel_rfl) rfl rfl) rfl ?_
  refine lo_pv rfl rfl (sk_js (Tr.refl _) [0, 1, 2] rfl) (pv_ixN (o := 0) (i := 1) Tryd.underlying24 (tiimpl_Tree).size rfl rfl (by decide)) rfl ?_
  refine lo_eff rfl rfl ?_
  refine ln_store (i := 1) (vs := [_, _, _, _, _]) rfl rfl rfl rfl (tiimpl_Tree).size rfl rfl rfl ?_
  refine lo_last (by kernel_rfl) ?_
  refine lo_cd ?_
  refine cd_dr' [0, 1, 2] [0, 1, 2, 3, 4, 5, 6, 8] [0, 1, 2, 3, 4, 5, 6, 7, 8, 9] mixed (by kernel_rfl) ?_
  refine lo_pv rfl rfl (sk_js (Tr.refl _) [0, 1, 2] rfl) (pv_fieldAddr (off := 3) (r := 3) Tryd.underlying27 rfl (tiSl_impl_Tree).size rfl rfl rfl) rfl ?_
  refine lo_pv rfl rfl (sk_js (Tr.refl _) [0, 1, 2] rfl) (pv_ldo (i := 0) rfl Tryd.underlying24 rfl rfl rfl) rfl ?_
  refine lo_pv rfl rfl (sk_js (Tr.refl _) [0, 1, 2] rfl) (pv_move rfl) rfl ?_
  refine lo_pv rfl rfl (sk_js (Tr.refl _) [0, 1, 2] rfl) (pv_nilCheck rfl) rfl ?_
  refine lo_pv rfl rfl (sk_js (Tr.refl _) [0, 1, 2] rfl) (pv_fieldAddr (off := 2)  Tryd.underlying128 rfl (tiSl_kmsg_CreatePartitionsRequestTopicAssignment).size rfl rfl rfl) rfl ?_
  refine lo_pv rfl rfl (sk_js (Tr.refl _) [0, 1, 2] rfl) (pv_ldr (j := 2) hrc Tryd.underlying126 rfl rfl rfl) rfl ?_
  refine lo_pv rfl rfl (sk_js (Tr.refl _) [0, 1, 2] rfl) (pv_eqS Tryd.underlying126 rfl rfl) rfl ?_
  refine lo_eff rfl rfl ?_
  refine ln_pv (pv_ixN (o := 0) (i := 2) Tryd.underlying24 (tiimpl_Tree).size rfl rfl (by decide)) rfl ?_
  refine lo_back (sk_js (Tr.refl _) [0, 1, 2] rfl) ?_
  refine lo_pv rfl rfl (sk_js (Tr.refl _) [0, 1, 2] rfl) (pv_fieldAddr (off := 2) (r := 12) Tryd.underlying27 rfl (tibool).size rfl rfl rfl) rfl ?_
  refine lo_eff rfl rfl ?_
  refine ln_store1 (i := 1) rfl rfl rfl rfl (tibool).size rfl ?_
  refine lo_last (by kernel_rfl) ?_
  refine lo_cd ?_
  refine cd_seq ?_
  refine cd_nilrow 27 5 ?_
  refine cd_sr ?_
  refine ln_pv (pv_move rfl) rfl ?_
  refine ln_pv (pv_nilCheck rfl) rfl ?_
  refine ln_pv (pv_fieldAddr (off := 2)  Tryd.underlying128 rfl (tiSl_kmsg_CreatePartitionsRequestTopicAssignment).size rfl rfl rfl) rfl ?_
  refine ln_pv (pv_ldr (j := 2) hrc Tryd.underlying126 rfl rfl rfl) rfl ?_
  refine ln_pv (pv_len_slice Tryd.underlying126 rfl) rfl ?_
  refine ln_pv (pv_move rfl) rfl ?_
  refine ln_cd ?_
  refine cd_block ?_
  refine cd_loop (⟨fun (z : Nat × List Value × Value) => [(0, .pointer (some ⟨b, o, none⟩)), (2, .pointer (some ⟨b1, 0, none⟩)), (3, .pointer (some ⟨b2, 0, none⟩)), (38, .int .i64 ((els (y.at_ 2)).length : Int)), (39, .int .i64 ((z.1 : Nat) : Int))], fun (z : Nat × List Value × Value) => [.row z.2.2 27 5 ((els (y.at_ 2)).take z.1).length z.2.1, .obj b2 (.cells [.int .i64 0, .slice none 0 0, .bool false, .slice (some ⟨bL, 0, none⟩) 3 3, .slice none 0 0].toArray 27), .obj bL (.cells [.int .i64 0, .slice (some ⟨bS1, 0, none⟩) (ByteArray.size ⟨((y.at_ 0)).s.toArray⟩) cS1, .bool false, .slice none 0 0, .slice none 0 0, .int .i64 (IntKind.i32.wrap (y.at_ 1).n), .slice none 0 0, .bool false, .slice none 0 0, .slice none 0 0, .int .i64 0, .slice none 0 0, .bool ad1_2.isNone, z.2.2, .slice none 0 0].toArray 27), .obj b1 (.cells [.int .i64 0, .slice none 0 0, .bool false, .slice none 0 0, .slice none 0 0].toArray 27)], fun (z : Nat × List Value × Value) s => z.1 ≤ (els (y.at_ 2)).length ∧ RTs s (((els (y.at_ 2)).take z.1).map (tlT F_sCreatePartitionsRequestTopicAssignment)) z.2.1, fun (z : Nat × List Value × Value) => (els (y.at_ 2)).length - z.1⟩ : Lp (Nat × List Value × Value)) (0, [], .slice none 0 0) ?_ ?_ ?_ ?_
  · intro s0 hs0
    exact ⟨Nat.zero_le _, rfl⟩
  · exact ⟨rfl, rfl, rfl, rfl, rfl,  trivial⟩
  · exact (.cons_cons _ (.cons_cons _ (.cons_cons _ (.cons_cons _ .slnil))))
  intro z s1 hl1 hI
  obtain ⟨i_2, ys_2, vv_2⟩ := z
  dsimp only at hI ⊢
  have hrc := hrc.mv hl1
  have hrt := hrt.mv hl1
  have hMK := hMK.mv hl1
  have hRK := hRK.mv hl1
  have hLs_2 := hLs_2.mv hl1
  have hsS1 := hsS1.mv hl1
  obtain ⟨hI_2, hIr_2⟩ := hI
  refine cd_sr ?_
  refine ln_pv (pv_lss rfl rfl) rfl ?_
  refine ln_cd ?_
  refine cd_seq ?_
  refine cd_if rfl (fun hc1 => ?_) (fun hc1 => ?_)
  · -- yes
    refine cd_skip ?_
    refine at_cd ?_
    refine cd_seq ?_
    refine cd_block ?_
    have hi_2 : i_2 < (els (y.at_ 2)).length := by omega
    have hsl_2 : ((els (y.at_ 2)).take (i_2 + 1)).length = ((els (y.at_ 2)).take i_2).length + 1 := by simp only [List.length_take]; omega
    have hil_2 : ((els (y.at_ 2)).take i_2).length = i_2 := by rw [List.length_take]; omega
    obtain ⟨gE_2, oE_2, cE_2, hadE_2, hrce_2, hme_2⟩ := hLs_2.at_ hi_2 (show esl _ _ = 2 by kernel_rfl)
    subst hadE_2
    have hme_2 := RE_part hme_2
    have htge_2 : tgT F_sCreatePartitionsRequestTopicAssignment (els (y.at_ 2))[i_2] := by have h := (tgF_list.1 qg2).2 _ (List.getElem_mem hi_2); rw [if_pos rfl] at h; exact h
    refine cd_sr ?_
    refine ln_pv (pv_move rfl) rfl ?_
    refine ln_pv (pv_assign rfl) rfl ?_
    refine ln_cd ?_
    refine cd_dr3 [1, 2, 3] [] [0] 1 2 [2, 3] [1, 3] mixed (by kernel_rfl) ?_
    refine lo_eff rfl rfl ?_
    refine ln_alloc tibool rfl rfl (fun b3 => ?_)
    refine lo_last (by kernel_rfl) ?_
    refine lo_nil (at_two ?_ ?_)
    · skip
      refine lo_eff rfl rfl ?_
      refine ln_store1 (i := 0) rfl rfl rfl rfl (tibool).size rfl ?_
      refine lo_last (by kernel_rfl) ?_
      refine lo_eff rfl rfl ?_
      refine ln_store1 (i := 0) rfl rfl rfl rfl (tibool).size rfl ?_
      refine lo_last (by kernel_rfl) ?_
      refine lo_eff rfl rfl ?_
      refine ln_pv (pv_ldo (i := 0) rfl Tryd.underlying4 rfl rfl rfl) rfl ?_
      refine lo_last (by kernel_rfl) ?_
      refine lo_cd ?_
      refine cd_ff rfl ?_
      refine cd_draw' [0, 2, 3, 4] [0, 1, 2, 3, 4, 5, 6, 7, 8, 9, 10, 11, 12, 17] [0, 1, 2, 3, 4, 5, 6, 7, 8, 9, 10, 11, 12, 13, 14, 15, 16, 17, 18] mixed (by kernel_rfl) ?_
      refine lo_pv rfl rfl (sk_js (Tr.refl _) [0, 2, 3, 4] rfl) (pv_fieldAddr (off := 3) (r := 3) Tryd.underlying27 rfl (tiSl_impl_Tree).size rfl rfl rfl) rfl ?_
      refine lo_pv rfl rfl (sk_js (Tr.refl _) [0, 2, 3, 4] rfl) (pv_ldo (i := 1) rfl Tryd.underlying24 rfl rfl rfl) rfl ?_
      refine lo_pv rfl rfl (sk_js (Tr.refl _) [0, 2, 3, 4] rfl) (pv_fieldAddr (off := 3) (r := 3) Tryd.underlying27 rfl (tiSl_impl_Tree).size rfl rfl rfl) rfl ?_
      refine lo_pv rfl rfl (sk_js (Tr.refl _) [0, 2, 3, 4] rfl) (pv_ldo (i := 1) rfl Tryd.underlying24 rfl rfl rfl) rfl ?_
      refine lo_pv rfl rfl (sk_js (Tr.refl _) [0, 2, 3, 4] rfl) (pv_ixN (o := 0) (i := 2) Tryd.underlying24 (tiimpl_Tree).size rfl rfl (by decide)) rfl ?_
      refine lo_pv rfl rfl (sk_js (Tr.refl _) [0, 2, 3, 4] rfl) (pv_fieldAddr (off := 3) (r := 13) Tryd.underlying27 rfl (tiSl_impl_Tree).size rfl rfl rfl) rfl ?_
      refine lo_pv rfl rfl (sk_js (Tr.refl _) [0, 2, 3, 4] rfl) (pv_ldo (i := 2) rfl Tryd.underlying24 rfl rfl rfl) rfl ?_
      refine lo_pv rfl rfl (sk_js (Tr.refl _) [0, 2, 3, 4] rfl) (pv_move rfl) rfl ?_
      refine lo_pv rfl rfl (sk_js (Tr.refl _) [0, 2, 3, 4] rfl) (pv_nilCheck rfl) rfl ?_
      refine lo_pv rfl rfl (sk_js (Tr.refl _) [0, 2, 3, 4] rfl) (pv_fieldAddr (off := 2)  Tryd.underlying128 rfl (tiSl_kmsg_CreatePartitionsRequestTopicAssignment).size rfl rfl rfl) rfl ?_
      refine lo_pv rfl rfl (sk_js (Tr.refl _) [0, 2, 3, 4] rfl) (pv_ldr (j := 2) hrc Tryd.underlying126 rfl rfl rfl) rfl ?_
      refine lo_pv rfl rfl (sk_js (Tr.refl _) [0, 2, 3, 4] rfl) (pv_move rfl) rfl ?_
      refine lo_pv rfl rfl (sk_js (Tr.refl _) [0, 2, 3, 4] rfl) (pv_ixN Tryd.underlying126 (tipub_kmsg_CreatePartitionsRequestTopicAssignment).size rfl rfl hi_2) rfl ?_
      refine lo_eff rfl rfl ?_
      refine ln_callA en_137 rfl (fun u hu => tell_CreatePartitionsRequestTopicAssignment u gE_2 (oE_2 + i_2 * 2) (els (y.at_ 2))[i_2] cE_2 (hrce_2.mv hu).2 (RMp.mv hme_2 hu) htge_2) rfl (fun u2 v2 ht2 hR2 => ?_)
      have hrc := hrc.mv ht2
      have hrt := hrt.mv ht2
      have hMK := hMK.mv ht2
      have hRK := hRK.mv ht2
      have hLs_2 := hLs_2.mv ht2
      have hsS1 := hsS1.mv ht2
      have hIr_2 := hIr_2.mv ht2
      have hrce_2 := hrce_2.mv ht2
      have hme_2 := hme_2.mv ht2
      obtain ⟨dsF2, rfl, hdF2⟩ := hR2
      refine lo_back (sk_js ht2 [0, 2, 3, 4] rfl) ?_
      refine lo_eff rfl rfl ?_
      refine ln_lit (vs := [_]) Tryd.underlying24 tiimpl_Tree rfl (by decide) rfl rfl rfl (by simp [partsOk, Value.cells, hdF2.len]; try exact .inl rfl) rfl rfl (fun b4 => ?_)
      refine lo_back (sk_js ht2 [1, 3, 4, 5] rfl) ?_
      refine lo_eff rfl rfl ?_
      refine ln_append (i := 2) rfl Tryd.underlying24 tiimpl_Tree rfl (by decide) rfl rfl (src_obj (j := 0) rfl (by simp [flat, Value.cells, hdF2.len]) (List.all_eq_true.2 (by simpa [flat, Value.cells] using hdF2.cells))) (by rw [hil_2]; first | omega | (simp only [maxLen]; omega)) (by rw [hil_2]; first | omega | (simp only [maxLen]; omega)) rfl (k' := ((els (y.at_ 2)).take (i_2 + 1)).length) (xs' := ys_2 ++ dsF2) hsl_2.symm (by simp [flat, Value.cells]) (fun v3 hv3 => ?_)
      refine lo_back (sk_js ht2 [1, 3, 4, 5] rfl) ?_
      refine lo_eff rfl rfl ?_
      refine ln_pv (pv_ixN (o := 0) (i := 2) Tryd.underlying24 (tiimpl_Tree).size rfl rfl (by decide)) rfl ?_
      refine lo_back (sk_js ht2 [1, 3, 4, 5] rfl) ?_
      refine lo_pv rfl rfl (sk_js ht2 [1, 3, 4, 5] rfl) (pv_fieldAddr (off := 3) (r := 13) Tryd.underlying27 rfl (tiSl_impl_Tree).size rfl rfl rfl) rfl ?_
      refine lo_eff rfl rfl ?_
      refine ln_store1 (i := 4) rfl rfl rfl hv3.2 (tiSl_impl_Tree).size rfl ?_
      refine lo_last (by kernel_rfl) ?_
      refine lo_nil ?_
      refine at_cd ?_
      refine cd_region ?_
      refine ln_pv (pv_add' rfl rfl (wrap_succ (by omega))) rfl ?_
      refine ln_pv (pv_move rfl) rfl ?_
      refine ln_nil ?_
      refine at_rnd (i_2 + 1, ys_2 ++ dsF2, v3) (hl1.trans ht2) ?_ ?_ ⟨rfl, rfl, rfl, rfl, rfl,  trivial⟩ (.cons _ (.cons _ (.cons_cons _ (.cons_cons _ (.cons_cons _ (.cons_cons _ .slnil))))))
      · intro s9 hs9
        exact ⟨by dsimp only; omega, RTs_snoc hi_2 (RTs.mv hIr_2 hs9) (RT.mv hdF2 hs9)⟩
      · dsimp only; omega
    · skip
      refine lo_eff rfl rfl ?_
      refine ln_store1 (i := 0) rfl rfl rfl rfl (tibool).size rfl ?_
      refine lo_last (by kernel_rfl) ?_
      refine lo_eff rfl rfl ?_
      refine ln_store1 (i := 0) rfl rfl rfl rfl (tibool).size rfl ?_
      refine lo_last (by kernel_rfl) ?_
      refine lo_eff rfl rfl ?_
      refine ln_pv (pv_ldo (i := 0) rfl Tryd.underlying4 rfl rfl rfl) rfl ?_
      refine lo_last (by kernel_rfl) ?_
      refine lo_cd ?_
      refine cd_tt rfl ?_
      refine cd_rowshape (i := 1) rfl (fun adR_2 cpR_2 hvR_2 hleR_2 hposR_2 => ?_)
      subst hvR_2
      refine cd_dr2 [0, 2, 3, 4] [0, 1, 2, 3, 4, 5, 6, 7, 8, 9, 10, 12, 16] [0, 1, 2, 3, 4, 5, 6, 7, 8, 9, 10, 12] 11 13 [13, 14, 15, 16, 17] [11, 14, 15, 16, 17] mixed (by kernel_rfl) ?_
      refine lo_pv rfl rfl (sk_js (Tr.refl _) [0, 2, 3, 4] rfl) (pv_fieldAddr (off := 3) (r := 3) Tryd.underlying27 rfl (tiSl_impl_Tree).size rfl rfl rfl) rfl ?_
      refine lo_pv rfl rfl (sk_js (Tr.refl _) [0, 2, 3, 4] rfl) (pv_ldo (i := 1) rfl Tryd.underlying24 rfl rfl rfl) rfl ?_
      refine lo_pv rfl rfl (sk_js (Tr.refl _) [0, 2, 3, 4] rfl) (pv_ixN (o := 0) (i := 2) Tryd.underlying24 (tiimpl_Tree).size rfl rfl (by decide)) rfl ?_
      refine lo_pv rfl rfl (sk_js (Tr.refl _) [0, 2, 3, 4] rfl) (pv_fieldAddr (off := 3) (r := 13) Tryd.underlying27 rfl (tiSl_impl_Tree).size rfl rfl rfl) rfl ?_
      refine lo_pv rfl rfl (sk_js (Tr.refl _) [0, 2, 3, 4] rfl) (pv_ldo (i := 2) rfl Tryd.underlying24 rfl rfl rfl) rfl ?_
      refine lo_pv rfl rfl (sk_js (Tr.refl _) [0, 2, 3, 4] rfl) (pv_move rfl) rfl ?_
      refine lo_pv rfl rfl (sk_js (Tr.refl _) [0, 2, 3, 4] rfl) (pv_nilCheck rfl) rfl ?_
      refine lo_pv rfl rfl (sk_js (Tr.refl _) [0, 2, 3, 4] rfl) (pv_fieldAddr (off := 2)  Tryd.underlying128 rfl (tiSl_kmsg_CreatePartitionsRequestTopicAssignment).size rfl rfl rfl) rfl ?_
      refine lo_pv rfl rfl (sk_js (Tr.refl _) [0, 2, 3, 4] rfl) (pv_ldr (j := 2) hrc Tryd.underlying126 rfl rfl rfl) rfl ?_
      refine lo_pv rfl rfl (sk_js (Tr.refl _) [0, 2, 3, 4] rfl) (pv_move rfl) rfl ?_
      refine lo_pv rfl rfl (sk_js (Tr.refl _) [0, 2, 3, 4] rfl) (pv_ixN Tryd.underlying126 (tipub_kmsg_CreatePartitionsRequestTopicAssignment).size rfl rfl hi_2) rfl ?_
      refine lo_pv rfl rfl (sk_js (Tr.refl _) [0, 2, 3, 4] rfl) (pv_len_slice Tryd.underlying24 rfl) rfl ?_
      refine lo_nil (at_two ?_ ?_)
      · skip
        refine lo_eff rfl rfl ?_
        refine ln_callA en_137 rfl (fun u hu => tell_CreatePartitionsRequestTopicAssignment u gE_2 (oE_2 + i_2 * 2) (els (y.at_ 2))[i_2] cE_2 (hrce_2.mv hu).2 (RMp.mv hme_2 hu) htge_2) rfl (fun u4 v4 ht4 hR4 => ?_)
        have hrc := hrc.mv ht4
        have hrt := hrt.mv ht4
        have hMK := hMK.mv ht4
        have hRK := hRK.mv ht4
        have hLs_2 := hLs_2.mv ht4
        have hsS1 := hsS1.mv ht4
        have hIr_2 := hIr_2.mv ht4
        have hrce_2 := hrce_2.mv ht4
        have hme_2 := hme_2.mv ht4
        obtain ⟨dsF2, rfl, hdF2⟩ := hR4
        refine lo_back (sk_js ht4 [0, 2, 3, 4] rfl) ?_
        refine lo_eff rfl rfl ?_
        refine ln_lit (vs := [_]) Tryd.underlying24 tiimpl_Tree rfl (by decide) rfl rfl rfl rfl rfl rfl (fun b5 => ?_)
        refine lo_back (sk_js ht4 [1, 3, 4, 5] rfl) ?_
        refine lo_eff rfl rfl ?_
        refine ln_append (i := 2) rfl Tryd.underlying24 tiimpl_Tree rfl (by decide) rfl rfl (src_obj (j := 0) rfl rfl rfl) (by rw [hil_2]; first | omega | (simp only [maxLen]; omega)) (by rw [hil_2]; first | omega | (simp only [maxLen]; omega)) rfl (k' := ((els (y.at_ 2)).take (i_2 + 1)).length) (xs' := ys_2 ++ [.int .i64 0, .slice none 0 0, .bool false, .slice none 0 0, .slice none 0 0]) hsl_2.symm (by simp [flat, Value.cells]) (fun v5 hv5 => ?_)
        refine lo_back (sk_js ht4 [1, 3, 4, 5] rfl) ?_
        refine lo_eff rfl rfl ?_
        refine ln_pv (pv_ixN (o := 0) (i := 2) Tryd.underlying24 (tiimpl_Tree).size rfl rfl (by decide)) rfl ?_
        refine lo_back (sk_js ht4 [1, 3, 4, 5] rfl) ?_
        refine lo_pv rfl rfl (sk_js ht4 [1, 3, 4, 5] rfl) (pv_fieldAddr (off := 3) (r := 13) Tryd.underlying27 rfl (tiSl_impl_Tree).size rfl rfl rfl) rfl ?_
        refine lo_eff rfl rfl ?_
        refine ln_store1 (i := 4) rfl rfl rfl hv5.2 (tiSl_impl_Tree).size rfl ?_
        refine lo_last (by kernel_rfl) ?_
        refine lo_cd ?_
        refine cd_region ?_
        refine ln_rowshp (i := 2) rfl (fun ad2_2 cp2_2 hv2_2 hle2_2 hpos2_2 => ?_)
        subst hv2_2
        obtain ⟨g2_2, rfl⟩ := hpos2_2 (by omega)
        refine ln_pv (pv_ixN Tryd.underlying24 tiimpl_Tree.size rfl rfl (by omega)) rfl ?_
        refine ln_storeR (i := 2) (vs := dsF2) (xs' := ys_2 ++ dsF2) rfl rfl rfl rfl (by rw [show List.length _ = 5 from hdF2.len]; exact tiimpl_Tree.size) (by have h5 : List.length (dsF2) = 5 := hdF2.len; omega) hdF2.cells (wr_end (show 5 = List.length _ from Eq.symm hdF2.len) (by have h6 := (RTs.len5 hIr_2); simp only [List.length_map] at h6; omega)) ?_
        refine ln_nil ?_
        refine at_cd ?_
        refine cd_region ?_
        refine ln_pv (pv_add' rfl rfl (wrap_succ (by omega))) rfl ?_
        refine ln_pv (pv_move rfl) rfl ?_
        refine ln_nil ?_
        refine at_rnd (i_2 + 1, ys_2 ++ dsF2, (.slice (some ⟨g2_2, 0, none⟩) ((els (y.at_ 2)).take (i_2 + 1)).length cp2_2)) (hl1.trans ht4) ?_ ?_ ⟨rfl, rfl, rfl, rfl, rfl,  trivial⟩ (.cons _ (.cons _ (.cons_cons _ (.cons_cons _ (.cons_cons _ (.cons_cons _ .slnil))))))
        · intro s9 hs9
          exact ⟨by dsimp only; omega, RTs_snoc hi_2 (RTs.mv hIr_2 hs9) (RT.mv hdF2 hs9)⟩
        · dsimp only; omega
      · skip
        refine lo_eff rfl rfl ?_
        refine ln_lit (vs := [_]) Tryd.underlying24 tiimpl_Tree rfl (by decide) rfl rfl rfl rfl rfl rfl (fun b6 => ?_)
        refine lo_back (sk_js (Tr.refl _) [1, 3, 4, 5] rfl) ?_
        refine lo_eff rfl rfl ?_
        refine ln_callA en_137 rfl (fun u hu => tell_CreatePartitionsRequestTopicAssignment u gE_2 (oE_2 + i_2 * 2) (els (y.at_ 2))[i_2] cE_2 (hrce_2.mv hu).2 (RMp.mv hme_2 hu) htge_2) rfl (fun u7 v7 ht7 hR7 => ?_)
        have hrc := hrc.mv ht7
        have hrt := hrt.mv ht7
        have hMK := hMK.mv ht7
        have hRK := hRK.mv ht7
        have hLs_2 := hLs_2.mv ht7
        have hsS1 := hsS1.mv ht7
        have hIr_2 := hIr_2.mv ht7
        have hrce_2 := hrce_2.mv ht7
        have hme_2 := hme_2.mv ht7
        obtain ⟨dsF2, rfl, hdF2⟩ := hR7
        refine lo_back (sk_js ht7 [1, 3, 4, 5] rfl) ?_
        refine lo_eff rfl rfl ?_
        refine ln_append (i := 2) rfl Tryd.underlying24 tiimpl_Tree rfl (by decide) rfl rfl (src_obj (j := 0) rfl rfl rfl) (by rw [hil_2]; first | omega | (simp only [maxLen]; omega)) (by rw [hil_2]; first | omega | (simp only [maxLen]; omega)) rfl (k' := ((els (y.at_ 2)).take (i_2 + 1)).length) (xs' := ys_2 ++ [.int .i64 0, .slice none 0 0, .bool false, .slice none 0 0, .slice none 0 0]) hsl_2.symm (by simp [flat, Value.cells]) (fun v8 hv8 => ?_)
        refine lo_back (sk_js ht7 [1, 3, 4, 5] rfl) ?_
        refine lo_eff rfl rfl ?_
        refine ln_pv (pv_ixN (o := 0) (i := 2) Tryd.underlying24 (tiimpl_Tree).size rfl rfl (by decide)) rfl ?_
        refine lo_back (sk_js ht7 [1, 3, 4, 5] rfl) ?_
        refine lo_pv rfl rfl (sk_js ht7 [1, 3, 4, 5] rfl) (pv_fieldAddr (off := 3) (r := 13) Tryd.underlying27 rfl (tiSl_impl_Tree).size rfl rfl rfl) rfl ?_
        refine lo_eff rfl rfl ?_
        refine ln_store1 (i := 4) rfl rfl rfl hv8.2 (tiSl_impl_Tree).size rfl ?_
        refine lo_last (by kernel_rfl) ?_
        refine lo_cd ?_
        refine cd_region ?_
        refine ln_rowshp (i := 2) rfl (fun ad2_2 cp2_2 hv2_2 hle2_2 hpos2_2 => ?_)
        subst hv2_2
        obtain ⟨g2_2, rfl⟩ := hpos2_2 (by omega)
        refine ln_pv (pv_ixN Tryd.underlying24 tiimpl_Tree.size rfl rfl (by omega)) rfl ?_
        refine ln_storeR (i := 2) (vs := dsF2) (xs' := ys_2 ++ dsF2) rfl rfl rfl rfl (by rw [show List.length _ = 5 from hdF2.len]; exact tiimpl_Tree.size) (by have h5 : List.length (dsF2) = 5 := hdF2.len; omega) hdF2.cells (wr_end (show 5 = List.length _ from Eq.symm hdF2.len) (by have h6 := (RTs.len5 hIr_2); simp only [List.length_map] at h6; omega)) ?_
        refine ln_nil ?_
        refine at_cd ?_
        refine cd_region ?_
        refine ln_pv (pv_add' rfl rfl (wrap_succ (by omega))) rfl ?_
        refine ln_pv (pv_move rfl) rfl ?_
        refine ln_nil ?_
        refine at_rnd (i_2 + 1, ys_2 ++ dsF2, (.slice (some ⟨g2_2, 0, none⟩) ((els (y.at_ 2)).take (i_2 + 1)).length cp2_2)) (hl1.trans ht7) ?_ ?_ ⟨rfl, rfl, rfl, rfl, rfl,  trivial⟩ (.cons _ (.cons _ (.cons_cons _ (.cons_cons _ (.cons_cons _ (.cons_cons _ .slnil))))))
        · intro s9 hs9
          exact ⟨by dsimp only; omega, RTs_snoc hi_2 (RTs.mv hIr_2 hs9) (RT.mv hdF2 hs9)⟩
        · dsimp only; omega
  · -- no
    refine cd_exit rfl ?_
    refine at_cd ?_
    have hq_2 : i_2 = (els (y.at_ 2)).length := by omega
    subst hq_2
    rw [List.take_length] at hIr_2
    refine cd_row (i := 0) (m' := ((els (y.at_ 2)).map (tlT F_sCreatePartitionsRequestTopicAssignment)).length) (xs' := ys_2) rfl (by simp) rfl ?_
    refine cd_sr ?_
    refine ln_pv (pv_move rfl) rfl ?_
    refine ln_pv (pv_nilCheck rfl) rfl ?_
    refine ln_pv (pv_fieldAddr (off := 3)  Tryd.underlying128 rfl (tipub_kmsg_Tags).size rfl rfl rfl) rfl ?_
    refine ln_pv (pv_makeFunc (vf := #[]) (vc := #[.pointer (some ⟨b2, 0, none⟩)]) (by rw [List.map_toArray, List.map_toArray]; rfl) (by rw [List.map_toArray, List.map_toArray]; rfl)) rfl ?_
    refine ln_nilrow 58 2 ?_
    have hst := tclo_CreatePartitionsRequestTopic b2 (.int .i64 0) (.slice none 0 0) (.bool false) (.slice (some ⟨bL, 0, none⟩) 3 3) y.u hkeys hlens (Nat.le_of_lt hlen)
    have hEa := fun (u : Vw) hr hm hk h0 hok hav hnd => tags_EachG (fun z => TA b2 (.int .i64 0) (.slice none 0 0) (.bool false) (.slice (some ⟨bL, 0, none⟩) 3 3) z) TB (TInv y.u) 138 (.pointer (some ⟨b2, 0, none⟩)) en_138 u b (o + 3) mv1 lt y.u (.slice none 0 0, [], 0) hr hm hk hsrt (by omega) h0 hst hok hav hnd
    refine ln_callH (E := [TA b2 (.int .i64 0) (.slice none 0 0) (.bool false) (.slice (some ⟨bL, 0, none⟩) 3 3) (.slice none 0 0, [], 0), TB (.slice none 0 0, [], 0)]) (H0 := [_, _, _]) (List.perm_middle (l₁ := [_, _])) en_82 rfl (fun u hu hok hav hnd => hEa u (RC1.mv hrt hu) (hMK.mv hu) (RKp.mv hu hRK) (fun w hw => ⟨rfl, by rw [List.take_zero]; rfl⟩) hok hav hnd) rfl ?_
    rintro u10 v10 _ ht10 ⟨xu10, ⟨⟨vU, csU, kU⟩, rfl, hzU⟩, hxu10⟩
    obtain ⟨hkU, hRU⟩ := (hzU.mv hxu10).get
    dsimp only at hkU hRU
    subst hkU
    rw [List.take_length] at hRU
    have hrc := hrc.mv ht10
    have hrt := hrt.mv ht10
    have hMK := hMK.mv ht10
    have hRK := hRK.mv ht10
    have hLs_2 := hLs_2.mv ht10
    have hsS1 := hsS1.mv ht10
    have hIr_2 := hIr_2.mv ht10
    refine ln_cd ?_
    refine cd_sr ?_
    refine ln_pv (pv_fieldAddr (off := 4) (r := 4) Tryd.underlying27 rfl (tiSl_impl_Tag).size rfl rfl rfl) rfl ?_
    refine ln_pv (pv_ldo (i := 0) rfl Tryd.underlying25 rfl rfl rfl) rfl ?_
    refine ln_callT (i := 1) en_84 rfl rfl (fun u hu hok hav => impl_sorted u vU y.u csU hsrt (by omega) (RUs.cells hRU).1 (fun i hi => by obtain ⟨c1, tv, c3, he, hc, _, _⟩ := RUs.at_ hi hRU; rw [he, List.append_assoc, List.getElem?_append_right (by omega), hc]; simp) hok hav) rfl ?_
    rintro u11 v11 _ ht11 ⟨_, rfl, _⟩
    have hrc := hrc.mv ht11
    have hrt := hrt.mv ht11
    have hMK := hMK.mv ht11
    have hRK := hRK.mv ht11
    have hLs_2 := hLs_2.mv ht11
    have hsS1 := hsS1.mv ht11
    have hIr_2 := hIr_2.mv ht11
    have hRU := hRU.mv ht11
    refine ln_cd ?_
    refine cd_rowone (i := 1) rfl (fun hoU => ?_)
    refine cd_sr ?_
    refine ln_pv (pv_ldO (i := 0) rfl Tryd.underlying27 rfl (tiimpl_Tree).size rfl rfl) rfl ?_
    refine ln_storeW (i := 4) rfl rfl rfl rfl (tiimpl_Tree).size rfl (by simp [hoU]) ?_
    refine ln_cd ?_
    refine cd_ret ?_
    refine at_retC (i := 4) rfl rfl rfl Tryd.underlying27 rfl tiimpl_Tree.size rfl (fun w hS => ?_)
    have hRTs : RTs hS.fin [.mk 0 (y.at_ 0).s false [] [], .mk (IntKind.i32.wrap (y.at_ 1).n) [] false [] [], .mk 0 [] (y.at_ 2).z ((els (y.at_ 2)).map (tlT F_sCreatePartitionsRequestTopicAssignment)) []] _ := ⟨[_, _, _, _, _], _, rfl, RT_str (RSv.mv hsS1 hS.trFin), ⟨[.int .i64 (IntKind.i32.wrap (y.at_ 1).n), .slice none 0 0, .bool false, .slice none 0 0, .slice none 0 0], _, rfl, RT_num (I64_i32 _), ⟨[_, _, _, _, _], _, rfl, RT_list hnil1_2 rfl (row_rs hS (j := 2) rfl (RTs.cells hIr_2)) (RTs.mv hIr_2 hS.trFin), rfl⟩⟩⟩
    refine ⟨_, rfl, RT.shut ⟨_, _, _, rfl, (show I64 0 from by unfold I64; omega), RS_nil 1, ⟨_, obj_rsS hS (i := 3) (sz := 5) (m := 3) rfl rfl (RTs.cells hRTs), hRTs⟩, ⟨csU, row_rs hS (j := 1) rfl (RUs.cells hRU).2, RUs.mv hS.trFin hRU⟩⟩⟩
theorem tclo_CreatePartitionsRequest (b3 : Nat) (c0 c1 c2 c3 : Value) (us : Tags) (hk : ∀ y ∈ us, y.1 < 4294967296) (hl : ∀ y ∈ us, y.2.length ≤ 4398046511104) (hlen : us.length ≤ 1099511627776) : ∀ j (hj : j < us.length) (u : Vw) (z : Value × List Value × Nat) (tv : Value), Iv (TInv us) j u z → RSv u tv (us[j]'hj).2 → HF [TA b3 c0 c1 c2 c3 z, TB z] u.w → (∀ q ∈ blks [TA b3 c0 c1 c2 c3 z, TB z], u.av q) → (blks [TA b3 c0 c1 c2 c3 z, TB z]).Nodup → CH Tryd.prog 100 [.int .u32 ((us[j]'hj).1 : Int), tv, .pointer (some ⟨b3, 0, none⟩)] u [TA b3 c0 c1 c2 c3 z, TB z] fun u r E' => ∃ z', E' = [TA b3 c0 c1 c2 c3 z', TB z'] ∧ Iv (TInv us) (j + 1) u z' := by
  rintro j hj u ⟨vU, cs, k⟩ tv hz htv hok hav hnd
  obtain ⟨hk0, hR⟩ := hz.get
  dsimp only at hk0 hR
  subst hk0
  have hbl := hl _ (List.getElem_mem hj)
  obtain ⟨adV, cV, rfl, hleV⟩ := htv.shape
  refine ch_enter Tryd.func100 rfl Tryd.ntmps100 rfl hok hav hnd ?_
  refine cd_draw' [0] [0, 1, 2, 3, 5, 8] [0, 1, 2, 3, 4, 5, 6, 7, 8, 9] mixed (by kernel_rfl) ?_
  refine lo_pv rfl rfl (sk_js (Tr.refl _) [0] rfl) (pv_fieldAddr (off := 4) (r := 4) Tryd.underlying27 rfl (tiSl_impl_Tag).size rfl rfl rfl) rfl ?_
  refine lo_pv rfl rfl (sk_js (Tr.refl _) [0] rfl) (pv_ldo (i := 0) rfl Tryd.underlying25 rfl rfl rfl) rfl ?_
  refine lo_pv rfl rfl (sk_js (Tr.refl _) [0] rfl) (pv_move rfl) rfl ?_
  refine lo_pv rfl rfl (sk_js (Tr.refl _) [0] rfl) (pv_move rfl) rfl ?_
  refine lo_eff rfl rfl ?_
  refine ln_nilrow 5 1 ?_
  refine ln_append (i := 0) rfl Tryd.underlying22 tiuint8 rfl (by decide) rfl rfl (RS.src htv) (by simp only [maxLen]; omega) (by omega) rfl (k' := (us[k]'hj).2.length) (xs' := u8s (us[k]'hj).2) (by omega) (by simp) (fun vc hvc => ?_)
  refine ln_free1 (fun q h => by simpa using h) (fun s1 ht1 hK1 => ?_)
  have hcp : RSv s1 vc (us[k]'hj).2 := Known.rs hK1 (u8s_one _)
  clear hK1
  have htv := htv.mv ht1
  have hR := RUs.mv ht1 hR
  refine lo_back (sk_js ht1 [0] rfl) ?_
  refine lo_pv rfl rfl (sk_js ht1 [0] rfl) (pv_struct [(0, 1), (1, 1)] (l := [_, _]) rfl Tryd.underlying58 tiimpl_Tag (by kernel_rfl) rfl (by simp [okL, Nat.ble_eq, Value.cells, hvc.2])) rfl ?_
  refine lo_eff rfl rfl ?_
  refine ln_lit (vs := [_]) Tryd.underlying25 tiimpl_Tag rfl (by decide) rfl rfl rfl rfl rfl rfl (fun b1 => ?_)
  refine lo_back (sk_js ht1 [1] rfl) ?_
  refine lo_eff rfl rfl ?_
  refine ln_append (i := 2) rfl Tryd.underlying25 tiimpl_Tag rfl (by decide) rfl rfl (src_obj (j := 0) rfl rfl (by simp [flat, Value.cells, hvc.2])) (by first | omega | (simp only [maxLen]; omega)) (by first | omega | (simp only [maxLen]; omega)) rfl (k' := (k + 1)) (xs' := cs ++ [.int .u32 ((us[k]'hj).1 : Int), vc]) rfl (by simp [flat, Value.cells]) (fun v1 hv1 => ?_)
  refine lo_back (sk_js ht1 [1] rfl) ?_
  refine lo_pv rfl rfl (sk_js ht1 [1] rfl) (pv_fieldAddr (off := 4) (r := 4) Tryd.underlying27 rfl (tiSl_impl_Tag).size rfl rfl rfl) rfl ?_
  refine lo_eff rfl rfl ?_
  refine ln_store1 (i := 1) rfl rfl rfl hv1.2 (tiSl_impl_Tag).size rfl ?_
  refine lo_last (by kernel_rfl) ?_
  refine lo_nil ?_
  refine at_retH0 [TA b3 c0 c1 c2 c3 (v1, cs ++ [.int .u32 ((us[k]'hj).1 : Int), vc], k + 1), TB (v1, cs ++ [.int .u32 ((us[k]'hj).1 : Int), vc], k + 1)] (.cons _ (.cons_cons _ (.cons_cons _ .slnil))) rfl (fun w hS => ⟨(v1, cs ++ [.int .u32 ((us[k]'hj).1 : Int), vc], k + 1), rfl, fun w2 hw2 => ⟨rfl, ?_⟩⟩)
  rw [take_snoc' hj]
  have hq := (hS.trFinH _ _).trans hw2
  exact RUs.append (RUs.mv hq hR) (RUs.one_ (hk _ (List.getElem_mem hj)) (RSv.mv hcp hq))
theorem tlT_CreatePartitionsRequest (y : Tre) : tlT F_CreatePartitionsRequest y = .mk 0 [] false [.mk 0 [] (y.at_ 0).z ((els (y.at_ 0)).map (tlT F_sCreatePartitionsRequestTopic)) [], .mk (IntKind.i32.wrap (y.at_ 1).n) [] false [] [], .mk (if decide ((y.at_ 2).n % 2 = 1) then 1 else 0) [] false [] []] y.u := rfl
set_option maxHeartbeats 2000000 in
theorem tell_CreatePartitionsRequest (t : Vw) (b : Nat) (v : Int) (y : Tre) (cells : List Value) (hrc : RC t b 0 (.int .i16 v :: cells)) (hM : RMp t F_CreatePartitionsRequest y cells) (htg : tgT F_CreatePartitionsRequest y) : CA Tryd.prog 64 [.pointer (some ⟨b, 0, none⟩)] t fun u r => ∃ ds, r = .agg ds.toArray ∧ RT u (tlT F_CreatePartitionsRequest y) ds := by
  rw [tlT_CreatePartitionsRequest]
  obtain ⟨⟨hsrt, hkeys, hlens, hlen⟩, htl⟩ := htg
  simp only [F_CreatePartitionsRequest, tgL] at htl
  obtain ⟨qg0, qg1, qg2, _⟩ := htl
  obtain ⟨fc1, mv1, hce1, hfl1, hTg1⟩ := hM
  simp only [F_CreatePartitionsRequest, RMl] at hfl1
  obtain ⟨x1_0, z1_0, e1_0, g1_0, x1_1, z1_1, e1_1, g1_1, x1_2, z1_2, e1_2, g1_2, hend1⟩ := hfl1
  obtain ⟨_, rfl, Gg1_0⟩ := RMf_list.1 g1_0
  obtain ⟨ad1_0, cap1_0, rfl, hnil1_0, Hg1_0⟩ := Gg1_0.els
  obtain rfl := RMf_i32.1 g1_1
  obtain rfl := RMf_b.1 g1_2
  subst hend1
  subst e1_2
  subst e1_1
  subst e1_0
  rw [hce1] at hrc
  simp only [List.cons_append, List.nil_append, List.append_assoc] at hrc
  have hLs_0 := LsF.of Hg1_0
  have hll_0 : (els (y.at_ 0)).length ≤ 32767 := (tgF_list.1 qg0).1
  obtain ⟨lt, hMK, hRK⟩ := hTg1
  have hrt : RC1 t b (0 + 4) mv1 := hrc.sub 4 (c1 := [_, _, _, _]) (c2 := [mv1]) (c3 := []) rfl rfl
  have hrc : RCx t b 0 _ _ := hrc
  refine ca_enter Tryd.func64 rfl Tryd.ntmps64 rfl ?_
  refine cd_sr ?_
  refine ln_alloc tiimpl_Tree rfl rfl (fun b1 => ?_)
  refine ln_cd ?_
  refine cd_sr ?_
  refine ln_makeN (m := 3) (l := [.int .i64 0, .slice none 0 0, .bool false, .slice none 0 0, .slice none 0 0, .int .i64 0, .slice none 0 0, .bool false, .slice none 0 0, .slice none 0 0, .int .i64 0, .slice none 0 0, .bool false, .slice none 0 0, .slice none 0 0]) Tryd.underlying24 tiimpl_Tree rfl rfl (by kernel_rfl) (by decide) (by decide) rfl (fun bL => ?_)
  refine ln_pv (pv_struct [(0, 1), (1, 1), (2, 1), (3, 1), (4, 1)] (l := [_, _, _, _, _]) rfl Tryd.underlying27 tiimpl_Tree (by kernel_rfl) rfl rfl) rfl ?_
  refine ln_alloc tiimpl_Tree rfl rfl (fun b2 => ?_)
  refine ln_storeW (i := 0) rfl rfl rfl rfl (tiimpl_Tree).size rfl (by simp []) ?_
  refine ln_cd ?_
  refine cd_dr' [0, 1, 2] [0, 1, 2, 3, 4, 5, 6, 8] [0, 1, 2, 3, 4, 5, 6, 7, 8, 9] mixed (by kernel_rfl) ?_
  refine lo_pv rfl rfl (sk_js (Tr.refl _) [0, 1, 2] rfl) (pv_fieldAddr (off := 3) (r := 3) Tryd.underlying27 rfl (tiSl_impl_Tree).size rfl rfl rfl) rfl ?_
  refine lo_pv rfl rfl (sk_js (Tr.refl _) [0, 1, 2] rfl) (pv_ldo (i := 0) rfl Tryd.underlying24 rfl rfl rfl) rfl ?_
  refine lo_pv rfl rfl (sk_js (Tr.refl _) [0, 1, 2] rfl) (pv_move rfl) rfl ?_
  refine lo_pv rfl rfl (sk_js (Tr.refl _) [0, 1, 2] rfl) (pv_nilCheck rfl) rfl ?_
  refine lo_pv rfl rfl (sk_js (Tr.refl _) [0, 1, 2] rfl) (pv_fieldAddr (off := 1)  Tryd.underlying123 rfl (tiSl_kmsg_CreatePartitionsRequestTopic).size rfl rfl rfl) rfl ?_
  refine lo_pv rfl rfl (sk_js (Tr.refl _) [0, 1, 2] rfl) (pv_ldr (j := 1) hrc Tryd.underlying121 rfl rfl rfl) rfl ?_
  refine lo_pv rfl rfl (sk_js (Tr.refl _) [0, 1, 2] rfl) (pv_eqS Tryd.underlying121 rfl rfl) rfl ?_
  refine lo_eff rfl rfl ?_
  refine ln_pv (pv_ixN (o := 0) (i := 0) Tryd.underlying24 (tiimpl_Tree).size rfl rfl (by decide)) rfl ?_
  refine lo_back (sk_js (Tr.refl _) [0, 1, 2] rfl) ?_
  refine lo_pv rfl rfl (sk_js (Tr.refl _) [0, 1, 2] rfl) (pv_fieldAddr (off := 2) (r := 2) Tryd.underlying27 rfl (tibool).size rfl rfl rfl) rfl ?_
  refine lo_eff rfl rfl ?_
  refine ln_store1 (i := 1) rfl rfl rfl rfl (tibool).size rfl ?_
  refine lo_last (by kernel_rfl) ?_
  refine lo_cd ?_
  refine cd_seq ?_
  refine cd_nilrow 27 5 ?_
  refine cd_sr ?_
  refine ln_pv (pv_move rfl) rfl ?_
  refine ln_pv (pv_nilCheck rfl) rfl ?_
  refine ln_pv (pv_fieldAddr (off := 1)  Tryd.underlying123 rfl (tiSl_kmsg_CreatePartitionsRequestTopic).size rfl rfl rfl) rfl ?_
  refine ln_pv (pv_ldr (j := 1) hrc Tryd.underlying121 rfl rfl rfl) rfl ?_
  refine ln_pv (pv_len_slice Tryd.underlying121 rfl) rfl ?_
  refine ln_pv (pv_move rfl) rfl ?_
  refine ln_cd ?_
  refine cd_block ?_
  refine cd_loop (⟨fun (z : Nat × List Value × Value) => [(0, .pointer (some ⟨b, 0, none⟩)), (2, .pointer (some ⟨b1, 0, none⟩)), (3, .pointer (some ⟨b2, 0, none⟩)), (20, .int .i64 ((els (y.at_ 0)).length : Int)), (21, .int .i64 ((z.1 : Nat) : Int))], fun (z : Nat × List Value × Value) => [.row z.2.2 27 5 ((els (y.at_ 0)).take z.1).length z.2.1, .obj b2 (.cells [.int .i64 0, .slice none 0 0, .bool false, .slice (some ⟨bL, 0, none⟩) 3 3, .slice none 0 0].toArray 27), .obj bL (.cells [.int .i64 0, .slice none 0 0, .bool ad1_0.isNone, z.2.2, .slice none 0 0, .int .i64 0, .slice none 0 0, .bool false, .slice none 0 0, .slice none 0 0, .int .i64 0, .slice none 0 0, .bool false, .slice none 0 0, .slice none 0 0].toArray 27), .obj b1 (.cells [.int .i64 0, .slice none 0 0, .bool false, .slice none 0 0, .slice none 0 0].toArray 27)], fun (z : Nat × List Value × Value) s => z.1 ≤ (els (y.at_ 0)).length ∧ RTs s (((els (y.at_ 0)).take z.1).map (tlT F_sCreatePartitionsRequestTopic)) z.2.1, fun (z : Nat × List Value × Value) => (els (y.at_ 0)).length - z.1⟩ : Lp (Nat × List Value × Value)) (0, [], .slice none 0 0) ?_ ?_ ?_ ?_
  · intro s0 hs0
    exact ⟨Nat.zero_le _, rfl⟩
  · exact ⟨rfl, rfl, rfl, rfl, rfl,  trivial⟩
  · exact (.cons_cons _ (.cons_cons _ (.cons_cons _ (.cons_cons _ .slnil))))
  intro z s1 hl1 hI
  obtain ⟨i_0, ys_0, vv_0⟩ := z
  dsimp only at hI ⊢
  have hrc := hrc.mv hl1
  have hrt := hrt.mv hl1
  have hMK := hMK.mv hl1
  have hRK := hRK.mv hl1
  have hLs_0 := hLs_0.mv hl1
  obtain ⟨hI_0, hIr_0⟩ := hI
  refine cd_sr ?_
  refine ln_pv (pv_lss rfl rfl) rfl ?_
  refine ln_cd ?_
  refine cd_seq ?_
  refine cd_if rfl (fun hc1 => ?_) (fun hc1 => ?_)
  · -- yes
    refine cd_skip ?_
    refine at_cd ?_
    refine cd_seq ?_
    refine cd_block ?_
    have hi_0 : i_0 < (els (y.at_ 0)).length := by omega
    have hsl_0 : ((els (y.at_ 0)).take (i_0 + 1)).length = ((els (y.at_ 0)).take i_0).length + 1 := by simp only [List.length_take]; omega
    have hil_0 : ((els (y.at_ 0)).take i_0).length = i_0 := by rw [List.length_take]; omega
    obtain ⟨gE_0, oE_0, cE_0, hadE_0, hrce_0, hme_0⟩ := hLs_0.at_ hi_0 (show esl _ _ = 4 by kernel_rfl)
    subst hadE_0
    have hme_0 := RE_part hme_0
    have htge_0 : tgT F_sCreatePartitionsRequestTopic (els (y.at_ 0))[i_0] := by have h := (tgF_list.1 qg0).2 _ (List.getElem_mem hi_0); rw [if_pos rfl] at h; exact h
    refine cd_sr ?_
    refine ln_pv (pv_move rfl) rfl ?_
    refine ln_pv (pv_assign rfl) rfl ?_
    refine ln_cd ?_
    refine cd_dr3 [1, 2, 3] [] [0] 1 2 [2, 3] [1, 3] mixed (by kernel_rfl) ?_
    refine lo_eff rfl rfl ?_
    refine ln_alloc tibool rfl rfl (fun b3 => ?_)
    refine lo_last (by kernel_rfl) ?_
    refine lo_nil (at_two ?_ ?_)
    · skip
      refine lo_eff rfl rfl ?_
      refine ln_store1 (i := 0) rfl rfl rfl rfl (tibool).size rfl ?_
      refine lo_last (by kernel_rfl) ?_
      refine lo_eff rfl rfl ?_
      refine ln_store1 (i := 0) rfl rfl rfl rfl (tibool).size rfl ?_
      refine lo_last (by kernel_rfl) ?_
      refine lo_eff rfl rfl ?_
      refine ln_pv (pv_ldo (i := 0) rfl Tryd.underlying4 rfl rfl rfl) rfl ?_
      refine lo_last (by kernel_rfl) ?_
      refine lo_cd ?_
      refine cd_ff rfl ?_
      refine cd_draw' [0, 2, 3, 4] [0, 1, 2, 3, 4, 5, 6, 7, 8, 9, 10, 11, 12, 17] [0, 1, 2, 3, 4, 5, 6, 7, 8, 9, 10, 11, 12, 13, 14, 15, 16, 17, 18] mixed (by kernel_rfl) ?_
      refine lo_pv rfl rfl (sk_js (Tr.refl _) [0, 2, 3, 4] rfl) (pv_fieldAddr (off := 3) (r := 3) Tryd.underlying27 rfl (tiSl_impl_Tree).size rfl rfl rfl) rfl ?_
      refine lo_pv rfl rfl (sk_js (Tr.refl _) [0, 2, 3, 4] rfl) (pv_ldo (i := 1) rfl Tryd.underlying24 rfl rfl rfl) rfl ?_
      refine lo_pv rfl rfl (sk_js (Tr.refl _) [0, 2, 3, 4] rfl) (pv_fieldAddr (off := 3) (r := 3) Tryd.underlying27 rfl (tiSl_impl_Tree).size rfl rfl rfl) rfl ?_
      refine lo_pv rfl rfl (sk_js (Tr.refl _) [0, 2, 3, 4] rfl) (pv_ldo (i := 1) rfl Tryd.underlying24 rfl rfl rfl) rfl ?_
      refine lo_pv rfl rfl (sk_js (Tr.refl _) [0, 2, 3, 4] rfl) (pv_ixN (o := 0) (i := 0) Tryd.underlying24 (tiimpl_Tree).size rfl rfl (by decide)) rfl ?_
      refine lo_pv rfl rfl (sk_js (Tr.refl _) [0, 2, 3, 4] rfl) (pv_fieldAddr (off := 3) (r := 3) Tryd.underlying27 rfl (tiSl_impl_Tree).size rfl rfl rfl) rfl ?_
      refine lo_pv rfl rfl (sk_js (Tr.refl _) [0, 2, 3, 4] rfl) (pv_ldo (i := 2) rfl Tryd.underlying24 rfl rfl rfl) rfl ?_
      refine lo_pv rfl rfl (sk_js (Tr.refl _) [0, 2, 3, 4] rfl) (pv_move rfl) rfl ?_
      refine lo_pv rfl rfl (sk_js (Tr.refl _) [0, 2, 3, 4] rfl) (pv_nilCheck rfl) rfl ?_
      refine lo_pv rfl rfl (sk_js (Tr.refl _) [0, 2, 3, 4] rfl) (pv_fieldAddr (off := 1)  Tryd.underlying123 rfl (tiSl_kmsg_CreatePartitionsRequestTopic).size rfl rfl rfl) rfl ?_
      refine lo_pv rfl rfl (sk_js (Tr.refl _) [0, 2, 3, 4] rfl) (pv_ldr (j := 1) hrc Tryd.underlying121 rfl rfl rfl) rfl ?_
      refine lo_pv rfl rfl (sk_js (Tr.refl _) [0, 2, 3, 4] rfl) (pv_move rfl) rfl ?_
      refine lo_pv rfl rfl (sk_js (Tr.refl _) [0, 2, 3, 4] rfl) (pv_ixN Tryd.underlying121 (tipub_kmsg_CreatePartitionsRequestTopic).size rfl rfl hi_0) rfl ?_
      refine lo_eff rfl rfl ?_
      refine ln_callA en_99 rfl (fun u hu => tell_CreatePartitionsRequestTopic u gE_0 (oE_0 + i_0 * 4) (els (y.at_ 0))[i_0] cE_0 (hrce_0.mv hu).2 (RMp.mv hme_0 hu) htge_0) rfl (fun u1 v1 ht1 hR1 => ?_)
      have hrc := hrc.mv ht1
      have hrt := hrt.mv ht1
      have hMK := hMK.mv ht1
      have hRK := hRK.mv ht1
      have hLs_0 := hLs_0.mv ht1
      have hIr_0 := hIr_0.mv ht1
      have hrce_0 := hrce_0.mv ht1
      have hme_0 := hme_0.mv ht1
      obtain ⟨dsF0, rfl, hdF0⟩ := hR1
      refine lo_back (sk_js ht1 [0, 2, 3, 4] rfl) ?_
      refine lo_eff rfl rfl ?_
      refine ln_lit (vs := [_]) Tryd.underlying24 tiimpl_Tree rfl (by decide) rfl rfl rfl (by simp [partsOk, Value.cells, hdF0.len]; try exact .inl rfl) rfl rfl (fun b4 => ?_)
      refine lo_back (sk_js ht1 [1, 3, 4, 5] rfl) ?_
      refine lo_eff rfl rfl ?_
      refine ln_append (i := 2) rfl Tryd.underlying24 tiimpl_Tree rfl (by decide) rfl rfl (src_obj (j := 0) rfl (by simp [flat, Value.cells, hdF0.len]) (List.all_eq_true.2 (by simpa [flat, Value.cells] using hdF0.cells))) (by rw [hil_0]; first | omega | (simp only [maxLen]; omega)) (by rw [hil_0]; first | omega | (simp only [maxLen]; omega)) rfl (k' := ((els (y.at_ 0)).take (i_0 + 1)).length) (xs' := ys_0 ++ dsF0) hsl_0.symm (by simp [flat, Value.cells]) (fun v2 hv2 => ?_)
      refine lo_back (sk_js ht1 [1, 3, 4, 5] rfl) ?_
      refine lo_eff rfl rfl ?_
      refine ln_pv (pv_ixN (o := 0) (i := 0) Tryd.underlying24 (tiimpl_Tree).size rfl rfl (by decide)) rfl ?_
      refine lo_back (sk_js ht1 [1, 3, 4, 5] rfl) ?_
      refine lo_pv rfl rfl (sk_js ht1 [1, 3, 4, 5] rfl) (pv_fieldAddr (off := 3) (r := 3) Tryd.underlying27 rfl (tiSl_impl_Tree).size rfl rfl rfl) rfl ?_
      refine lo_eff rfl rfl ?_
      refine ln_store1 (i := 4) rfl rfl rfl hv2.2 (tiSl_impl_Tree).size rfl ?_
      refine lo_last (by kernel_rfl) ?_
      refine lo_nil ?_
      refine at_cd ?_
      refine cd_region ?_
      refine ln_pv (pv_add' rfl rfl (wrap_succ (by omega))) rfl ?_
      refine ln_pv (pv_move rfl) rfl ?_
      refine ln_nil ?_
      refine at_rnd (i_0 + 1, ys_0 ++ dsF0, v2) (hl1.trans ht1) ?_ ?_ ⟨rfl, rfl, rfl, rfl, rfl,  trivial⟩ (.cons _ (.cons _ (.cons_cons _ (.cons_cons _ (.cons_cons _ (.cons_cons _ .slnil))))))
      · intro s9 hs9
        exact ⟨by dsimp only; omega, RTs_snoc hi_0 (RTs.mv hIr_0 hs9) (RT.mv hdF0 hs9)⟩
      · dsimp only; omega
    · skip
      refine lo_eff rfl rfl ?_
      refine ln_store1 (i := 0) rfl rfl rfl rfl (tibool).size rfl ?_
      refine lo_last (by kernel_rfl) ?_
      refine lo_eff rfl rfl ?_
      refine ln_store1 (i := 0) rfl rfl rfl rfl (tibool).size rfl ?_
      refine lo_last (by kernel_rfl) ?_
      refine lo_eff rfl rfl ?_
      refine ln_pv (pv_ldo (i := 0) rfl Tryd.underlying4 rfl rfl rfl) rfl ?_
      refine lo_last (by kernel_rfl) ?_
      refine lo_cd ?_
      refine cd_tt rfl ?_
      refine cd_rowshape (i := 1) rfl (fun adR_0 cpR_0 hvR_0 hleR_0 hposR_0 => ?_)
      subst hvR_0
      refine cd_dr2 [0, 2, 3, 4] [0, 1, 2, 3, 4, 5, 6, 7, 8, 9, 10, 12, 16] [0, 1, 2, 3, 4, 5, 6, 7, 8, 9, 10, 12] 11 13 [13, 14, 15, 16, 17] [11, 14, 15, 16, 17] mixed (by kernel_rfl) ?_
      refine lo_pv rfl rfl (sk_js (Tr.refl _) [0, 2, 3, 4] rfl) (pv_fieldAddr (off := 3) (r := 3) Tryd.underlying27 rfl (tiSl_impl_Tree).size rfl rfl rfl) rfl ?_
      refine lo_pv rfl rfl (sk_js (Tr.refl _) [0, 2, 3, 4] rfl) (pv_ldo (i := 1) rfl Tryd.underlying24 rfl rfl rfl) rfl ?_
      refine lo_pv rfl rfl (sk_js (Tr.refl _) [0, 2, 3, 4] rfl) (pv_ixN (o := 0) (i := 0) Tryd.underlying24 (tiimpl_Tree).size rfl rfl (by decide)) rfl ?_
      refine lo_pv rfl rfl (sk_js (Tr.refl _) [0, 2, 3, 4] rfl) (pv_fieldAddr (off := 3) (r := 3) Tryd.underlying27 rfl (tiSl_impl_Tree).size rfl rfl rfl) rfl ?_
      refine lo_pv rfl rfl (sk_js (Tr.refl _) [0, 2, 3, 4] rfl) (pv_ldo (i := 2) rfl Tryd.underlying24 rfl rfl rfl) rfl ?_
      refine lo_pv rfl rfl (sk_js (Tr.refl _) [0, 2, 3, 4] rfl) (pv_move rfl) rfl ?_
      refine lo_pv rfl rfl (sk_js (Tr.refl _) [0, 2, 3, 4] rfl) (pv_nilCheck rfl) rfl ?_
      refine lo_pv rfl rfl (sk_js (Tr.refl _) [0, 2, 3, 4] rfl) (pv_fieldAddr (off := 1)  Tryd.underlying123 rfl (tiSl_kmsg_CreatePartitionsRequestTopic).size rfl rfl rfl) rfl ?_
      refine lo_pv rfl rfl (sk_js (Tr.refl _) [0, 2, 3, 4] rfl) (pv_ldr (j := 1) hrc Tryd.underlying121 rfl rfl rfl) rfl ?_
      refine lo_pv rfl rfl (sk_js (Tr.refl _) [0, 2, 3, 4] rfl) (pv_move rfl) rfl ?_
      refine lo_pv rfl rfl (sk_js (Tr.refl _) [0, 2, 3, 4] rfl) (pv_ixN Tryd.underlying121 (tipub_kmsg_CreatePartitionsRequestTopic).size rfl rfl hi_0) rfl ?_
      refine lo_pv rfl rfl (sk_js (Tr.refl _) [0, 2, 3, 4] rfl) (pv_len_slice Tryd.underlying24 rfl) rfl ?_
      refine lo_nil (at_two ?_ ?_)
      · skip
        refine lo_eff rfl rfl ?_
        refine ln_callA en_99 rfl (fun u hu => tell_CreatePartitionsRequestTopic u gE_0 (oE_0 + i_0 * 4) (els (y.at_ 0))[i_0] cE_0 (hrce_0.mv hu).2 (RMp.mv hme_0 hu) htge_0) rfl (fun u3 v3 ht3 hR3 => ?_)
        have hrc := hrc.mv ht3
        have hrt := hrt.mv ht3
        have hMK := hMK.mv ht3
        have hRK := hRK.mv ht3
        have hLs_0 := hLs_0.mv ht3
        have hIr_0 := hIr_0.mv ht3
        have hrce_0 := hrce_0.mv ht3
        have hme_0 := hme_0.mv ht3
        obtain ⟨dsF0, rfl, hdF0⟩ := hR3
        refine lo_back (sk_js ht3 [0, 2, 3, 4] rfl) ?_
        refine lo_eff rfl rfl ?_
        refine ln_lit (vs := [_]) Tryd.underlying24 tiimpl_Tree rfl (by decide) rfl rfl rfl rfl rfl rfl (fun b5 => ?_)
        refine lo_back (sk_js ht3 [1, 3, 4, 5] rfl) ?_
        refine lo_eff rfl rfl ?_
        refine ln_append (i := 2) rfl Tryd.underlying24 tiimpl_Tree rfl (by decide) rfl rfl (src_obj (j := 0) rfl rfl rfl) (by rw [hil_0]; first | omega | (simp only [maxLen]; omega)) (by rw [hil_0]; first | omega | (simp only [maxLen]; omega)) rfl (k' := ((els (y.at_ 0)).take (i_0 + 1)).length) (xs' := ys_0 ++ [.int .i64 0, .slice none 0 0, .bool false, .slice none 0 0, .slice none 0 0]) hsl_0.symm (by simp [flat, Value.cells]) (fun v4 hv4 => ?_)
        refine lo_back (sk_js ht3 [1, 3, 4, 5] rfl) ?_
        refine lo_eff rfl rfl ?_
        refine ln_pv (pv_ixN (o := 0) (i := 0) Tryd.underlying24 (tiimpl_Tree).size rfl rfl (by decide)) rfl ?_
        refine lo_back (sk_js ht3 [1, 3, 4, 5] rfl) ?_
        refine lo_pv rfl rfl (sk_js ht3 [1, 3, 4, 5] rfl) (pv_fieldAddr (off := 3) (r := 3) Tryd.underlying27 rfl (tiSl_impl_Tree).size rfl rfl rfl) rfl ?_
        refine lo_eff rfl rfl ?_
        refine ln_store1 (i := 4) rfl rfl rfl hv4.2 (tiSl_impl_Tree).size rfl ?_
        refine lo_last (by kernel_rfl) ?_
        refine lo_cd ?_
        refine cd_region ?_
        refine ln_rowshp (i := 2) rfl (fun ad2_0 cp2_0 hv2_0 hle2_0 hpos2_0 => ?_)
        subst hv2_0
        obtain ⟨g2_0, rfl⟩ := hpos2_0 (by omega)
        refine ln_pv (pv_ixN Tryd.underlying24 tiimpl_Tree.size rfl rfl (by omega)) rfl ?_
        refine ln_storeR (i := 2) (vs := dsF0) (xs' := ys_0 ++ dsF0) rfl rfl rfl rfl (by rw [show List.length _ = 5 from hdF0.len]; exact tiimpl_Tree.size) (by have h5 : List.length (dsF0) = 5 := hdF0.len; omega) hdF0.cells (wr_end (show 5 = List.length _ from Eq.symm hdF0.len) (by have h6 := (RTs.len5 hIr_0); simp only [List.length_map] at h6; omega)) ?_
        refine ln_nil ?_
        refine at_cd ?_
        refine cd_region ?_
        refine ln_pv (pv_add' rfl rfl (wrap_succ (by omega))) rfl ?_
        refine ln_pv (pv_move rfl) rfl ?_
        refine ln_nil ?_
        refine at_rnd (i_0 + 1, ys_0 ++ dsF0, (.slice (some ⟨g2_0, 0, none⟩) ((els (y.at_ 0)).take (i_0 + 1)).length cp2_0)) (hl1.trans ht3) ?_ ?_ ⟨rfl, rfl, rfl, rfl, rfl,  trivial⟩ (.cons _ (.cons _ (.cons_cons _ (.cons_cons _ (.cons_cons _ (.cons_cons _ .slnil))))))
        · intro s9 hs9
          exact ⟨by dsimp only; omega, RTs_snoc hi_0 (RTs.mv hIr_0 hs9) (RT.mv hdF0 hs9)⟩
        · dsimp only; omega
      · skip
        refine lo_eff rfl rfl ?_
        refine ln_lit (vs := [_]) Tryd.underlying24 tiimpl_Tree rfl (by decide) rfl rfl rfl rfl rfl rfl (fun b6 => ?_)
        refine lo_back (sk_js (Tr.refl _) [1, 3, 4, 5] rfl) ?_
        refine lo_eff rfl rfl ?_
        refine ln_callA en_99 rfl (fun u hu => tell_CreatePartitionsRequestTopic u gE_0 (oE_0 + i_0 * 4) (els (y.at_ 0))[i_0] cE_0 (hrce_0.mv hu).2 (RMp.mv hme_0 hu) htge_0) rfl (fun u6 v6 ht6 hR6 => ?_)
        have hrc := hrc.mv ht6
        have hrt := hrt.mv ht6
        have hMK := hMK.mv ht6
        have hRK := hRK.mv ht6
        have hLs_0 := hLs_0.mv ht6
        have hIr_0 := hIr_0.mv ht6
        have hrce_0 := hrce_0.mv ht6
        have hme_0 := hme_0.mv ht6
        obtain ⟨dsF0, rfl, hdF0⟩ := hR6
        refine lo_back (sk_js ht6 [1, 3, 4, 5] rfl) ?_
        refine lo_eff rfl rfl ?_
        refine ln_append (i := 2) rfl Tryd.underlying24 tiimpl_Tree rfl (by decide) rfl rfl (src_obj (j := 0) rfl rfl rfl) (by rw [hil_0]; first | omega | (simp only [maxLen]; omega)) (by rw [hil_0]; first | omega | (simp only [maxLen]; omega)) rfl (k' := ((els (y.at_ 0)).take (i_0 + 1)).length) (xs' := ys_0 ++ [.int .i64 0, .slice none 0 0, .bool false, .slice none 0 0, .slice none 0 0]) hsl_0.symm (by simp [flat, Value.cells]) (fun v7 hv7 => ?_)
        refine lo_back (sk_js ht6 [1, 3, 4, 5] rfl) ?_
        refine lo_eff rfl rfl ?_
        refine ln_pv (pv_ixN (o := 0) (i := 0) Tryd.underlying24 (tiimpl_Tree).size rfl rfl (by decide)) rfl ?_
        refine lo_back (sk_js ht6 [1, 3, 4, 5] rfl) ?_
        refine lo_pv rfl rfl (sk_js ht6 [1, 3, 4, 5] rfl) (pv_fieldAddr (off := 3) (r := 3) Tryd.underlying27 rfl (tiSl_impl_Tree).size rfl rfl rfl) rfl ?_
        refine lo_eff rfl rfl ?_
        refine ln_store1 (i := 4) rfl rfl rfl hv7.2 (tiSl_impl_Tree).size rfl ?_
        refine lo_last (by kernel_rfl) ?_
        refine lo_cd ?_
        refine cd_region ?_
        refine ln_rowshp (i := 2) rfl (fun ad2_0 cp2_0 hv2_0 hle2_0 hpos2_0 => ?_)
        subst hv2_0
        obtain ⟨g2_0, rfl⟩ := hpos2_0 (by omega)
        refine ln_pv (pv_ixN Tryd.underlying24 tiimpl_Tree.size rfl rfl (by omega)) rfl ?_
        refine ln_storeR (i := 2) (vs := dsF0) (xs' := ys_0 ++ dsF0) rfl rfl rfl rfl (by rw [show List.length _ = 5 from hdF0.len]; exact tiimpl_Tree.size) (by have h5 : List.length (dsF0) = 5 := hdF0.len; omega) hdF0.cells (wr_end (show 5 = List.length _ from Eq.symm hdF0.len) (by have h6 := (RTs.len5 hIr_0); simp only [List.length_map] at h6; omega)) ?_
        refine ln_nil ?_
        refine at_cd ?_
        refine cd_region ?_
        refine ln_pv (pv_add' rfl rfl (wrap_succ (by omega))) rfl ?_
        refine ln_pv (pv_move rfl) rfl ?_
        refine ln_nil ?_
        refine at_rnd (i_0 + 1, ys_0 ++ dsF0, (.slice (some ⟨g2_0, 0, none⟩) ((els (y.at_ 0)).take (i_0 + 1)).length cp2_0)) (hl1.trans ht6) ?_ ?_ ⟨rfl, rfl, rfl, rfl, rfl,  trivial⟩ (.cons _ (.cons _ (.cons_cons _ (.cons_cons _ (.cons_cons _ (.cons_cons _ .slnil))))))
        · intro s9 hs9
          exact ⟨by dsimp only; omega, RTs_snoc hi_0 (RTs.mv hIr_0 hs9) (RT.mv hdF0 hs9)⟩
        · dsimp only; omega
  · -- no
    refine cd_exit rfl ?_
    refine at_cd ?_
    have hq_0 : i_0 = (els (y.at_ 0)).length := by omega
    subst hq_0
    rw [List.take_length] at hIr_0
    refine cd_row (i := 0) (m' := ((els (y.at_ 0)).map (tlT F_sCreatePartitionsRequestTopic)).length) (xs' := ys_0) rfl (by simp) rfl ?_
    refine cd_dr' [1, 2, 3] [0, 1, 2, 3, 4, 5, 6, 7, 8] [0, 1, 2, 3, 4, 5, 6, 7, 8, 9] mixed (by kernel_rfl) ?_
    refine lo_pv rfl rfl (sk_js (Tr.refl _) [1, 2, 3] rfl) (pv_fieldAddr (off := 3) (r := 3) Tryd.underlying27 rfl (tiSl_impl_Tree).size rfl rfl rfl) rfl ?_
    refine lo_pv rfl rfl (sk_js (Tr.refl _) [1, 2, 3] rfl) (pv_ldo (i := 0) rfl Tryd.underlying24 rfl rfl rfl) rfl ?_
    refine lo_pv rfl rfl (sk_js (Tr.refl _) [1, 2, 3] rfl) (pv_move rfl) rfl ?_
    refine lo_pv rfl rfl (sk_js (Tr.refl _) [1, 2, 3] rfl) (pv_nilCheck rfl) rfl ?_
    refine lo_pv rfl rfl (sk_js (Tr.refl _) [1, 2, 3] rfl) (pv_fieldAddr (off := 2)  Tryd.underlying123 rfl (tiint32).size rfl rfl rfl) rfl ?_
    refine lo_pv rfl rfl (sk_js (Tr.refl _) [1, 2, 3] rfl) (pv_ldr (j := 2) hrc Tryd.underlying21 rfl rfl rfl) rfl ?_
    refine lo_pv rfl rfl (sk_js (Tr.refl _) [1, 2, 3] rfl) (pv_conv' Tryd.underlying21 Tryd.underlying2 rfl (w64_i32 _)) rfl ?_
    refine lo_pv rfl rfl (sk_js (Tr.refl _) [1, 2, 3] rfl) (pv_struct [(0, 1), (1, 1), (2, 1), (3, 1), (4, 1)] (l := [_, _, _, _, _]) rfl Tryd.underlying27 tiimpl_Tree (by kernel_rfl) rfl rfl) rfl ?_
    refine lo_pv rfl rfl (sk_js (Tr.refl _) [1, 2, 3] rfl) (pv_ixN (o := 0) (i := 1) Tryd.underlying24 (tiimpl_Tree).size rfl rfl (by decide)) rfl ?_
    refine lo_eff rfl rfl ?_
    refine ln_store (i := 2) (vs := [_, _, _, _, _]) rfl rfl rfl rfl (tiimpl_Tree).size rfl rfl rfl ?_
    refine lo_last (by kernel_rfl) ?_
    refine lo_cd ?_
    refine cd_dr' [1, 2, 3] [0, 1, 2, 3, 4, 5, 7] [0, 1, 2, 3, 4, 5, 6, 7, 8] mixed (by kernel_rfl) ?_
    refine lo_pv rfl rfl (sk_js (Tr.refl _) [1, 2, 3] rfl) (pv_fieldAddr (off := 3) (r := 3) Tryd.underlying27 rfl (tiSl_impl_Tree).size rfl rfl rfl) rfl ?_
    refine lo_pv rfl rfl (sk_js (Tr.refl _) [1, 2, 3] rfl) (pv_ldo (i := 0) rfl Tryd.underlying24 rfl rfl rfl) rfl ?_
    refine lo_pv rfl rfl (sk_js (Tr.refl _) [1, 2, 3] rfl) (pv_move rfl) rfl ?_
    refine lo_pv rfl rfl (sk_js (Tr.refl _) [1, 2, 3] rfl) (pv_nilCheck rfl) rfl ?_
    refine lo_pv rfl rfl (sk_js (Tr.refl _) [1, 2, 3] rfl) (pv_fieldAddr (off := 3)  Tryd.underlying123 rfl (tibool).size rfl rfl rfl) rfl ?_
    refine lo_pv rfl rfl (sk_js (Tr.refl _) [1, 2, 3] rfl) (pv_ldr (j := 3) hrc Tryd.underlying4 rfl rfl rfl) rfl ?_
    refine lo_eff rfl rfl ?_
    refine ln_callA en_81 rfl (fun u hu => bool_tree u _) rfl (fun u9 v9 ht9 hR9 => ?_)
    have hrc := hrc.mv ht9
    have hrt := hrt.mv ht9
    have hMK := hMK.mv ht9
    have hRK := hRK.mv ht9
    have hLs_0 := hLs_0.mv ht9
    have hIr_0 := hIr_0.mv ht9
    subst hR9
    refine lo_back (sk_js ht9 [1, 2, 3] rfl) ?_
    refine lo_pv rfl rfl (sk_js ht9 [1, 2, 3] rfl) (pv_ixN (o := 0) (i := 2) Tryd.underlying24 (tiimpl_Tree).size rfl rfl (by decide)) rfl ?_
    refine lo_eff rfl rfl ?_
    refine ln_store (i := 2) (vs := [_, _, _, _, _]) rfl rfl rfl rfl (tiimpl_Tree).size rfl rfl rfl ?_
    refine lo_last (by kernel_rfl) ?_
    refine lo_cd ?_
    refine cd_sr ?_
    refine ln_pv (pv_move rfl) rfl ?_
    refine ln_pv (pv_nilCheck rfl) rfl ?_
    refine ln_pv (pv_fieldAddr (off := 4)  Tryd.underlying123 rfl (tipub_kmsg_Tags).size rfl rfl rfl) rfl ?_
    refine ln_pv (pv_makeFunc (vf := #[]) (vc := #[.pointer (some ⟨b2, 0, none⟩)]) (by rw [List.map_toArray, List.map_toArray]; rfl) (by rw [List.map_toArray, List.map_toArray]; rfl)) rfl ?_
    refine ln_nilrow 58 2 ?_
    have hst := tclo_CreatePartitionsRequest b2 (.int .i64 0) (.slice none 0 0) (.bool false) (.slice (some ⟨bL, 0, none⟩) 3 3) y.u hkeys hlens (Nat.le_of_lt hlen)
    have hEa := fun (u : Vw) hr hm hk h0 hok hav hnd => tags_EachG (fun z => TA b2 (.int .i64 0) (.slice none 0 0) (.bool false) (.slice (some ⟨bL, 0, none⟩) 3 3) z) TB (TInv y.u) 100 (.pointer (some ⟨b2, 0, none⟩)) en_100 u b (0 + 4) mv1 lt y.u (.slice none 0 0, [], 0) hr hm hk hsrt (by omega) h0 hst hok hav hnd
    refine ln_callH (E := [TA b2 (.int .i64 0) (.slice none 0 0) (.bool false) (.slice (some ⟨bL, 0, none⟩) 3 3) (.slice none 0 0, [], 0), TB (.slice none 0 0, [], 0)]) (H0 := [_, _, _]) (List.perm_middle (l₁ := [_, _])) en_82 rfl (fun u hu hok hav hnd => hEa u (RC1.mv hrt hu) (hMK.mv hu) (RKp.mv hu hRK) (fun w hw => ⟨rfl, by rw [List.take_zero]; rfl⟩) hok hav hnd) rfl ?_
    rintro u10 v10 _ ht10 ⟨xu10, ⟨⟨vU, csU, kU⟩, rfl, hzU⟩, hxu10⟩
    obtain ⟨hkU, hRU⟩ := (hzU.mv hxu10).get
    dsimp only at hkU hRU
    subst hkU
    rw [List.take_length] at hRU
    have hrc := hrc.mv ht10
    have hrt := hrt.mv ht10
    have hMK := hMK.mv ht10
    have hRK := hRK.mv ht10
    have hLs_0 := hLs_0.mv ht10
    have hIr_0 := hIr_0.mv ht10
    refine ln_cd ?_
    refine cd_sr ?_
    refine ln_pv (pv_fieldAddr (off := 4) (r := 4) Tryd.underlying27 rfl (tiSl_impl_Tag).size rfl rfl rfl) rfl ?_
    refine ln_pv (pv_ldo (i := 0) rfl Tryd.underlying25 rfl rfl rfl) rfl ?_
    refine ln_callT (i := 1) en_84 rfl rfl (fun u hu hok hav => impl_sorted u vU y.u csU hsrt (by omega) (RUs.cells hRU).1 (fun i hi => by obtain ⟨c1, tv, c3, he, hc, _, _⟩ := RUs.at_ hi hRU; rw [he, List.append_assoc, List.getElem?_append_right (by omega), hc]; simp) hok hav) rfl ?_
    rintro u11 v11 _ ht11 ⟨_, rfl, _⟩
    have hrc := hrc.mv ht11
    have hrt := hrt.mv ht11
    have hMK := hMK.mv ht11
    have hRK := hRK.mv ht11
    have hLs_0 := hLs_0.mv ht11
    have hIr_0 := hIr_0.mv ht11
    have hRU := hRU.mv ht11
    refine ln_cd ?_
    refine cd_rowone (i := 1) rfl (fun hoU => ?_)
    refine cd_sr ?_
    refine ln_pv (pv_ldO (i := 0) rfl Tryd.underlying27 rfl (tiimpl_Tree).size rfl rfl) rfl ?_
    refine ln_storeW (i := 4) rfl rfl rfl rfl (tiimpl_Tree).size rfl (by simp [hoU]) ?_
    refine ln_cd ?_
    refine cd_ret ?_
    refine at_retC (i := 4) rfl rfl rfl Tryd.underlying27 rfl tiimpl_Tree.size rfl (fun w hS => ?_)
    have hRTs : RTs hS.fin [.mk 0 [] (y.at_ 0).z ((els (y.at_ 0)).map (tlT F_sCreatePartitionsRequestTopic)) [], .mk (IntKind.i32.wrap (y.at_ 1).n) [] false [] [], .mk (if decide ((y.at_ 2).n % 2 = 1) then 1 else 0) [] false [] []] _ := ⟨[_, _, _, _, _], _, rfl, RT_list hnil1_0 rfl (row_rs hS (j := 2) rfl (RTs.cells hIr_0)) (RTs.mv hIr_0 hS.trFin), ⟨[.int .i64 (IntKind.i32.wrap (y.at_ 1).n), .slice none 0 0, .bool false, .slice none 0 0, .slice none 0 0], _, rfl, RT_num (I64_i32 _), ⟨[.int .i64 (if decide ((y.at_ 2).n % 2 = 1) then 1 else 0), .slice none 0 0, .bool false, .slice none 0 0, .slice none 0 0], _, rfl, RT_num (by split <;> (simp [I64])), rfl⟩⟩⟩
    refine ⟨_, rfl, RT.shut ⟨_, _, _, rfl, (show I64 0 from by unfold I64; omega), RS_nil 1, ⟨_, obj_rsS hS (i := 3) (sz := 5) (m := 3) rfl rfl (RTs.cells hRTs), hRTs⟩, ⟨csU, row_rs hS (j := 1) rfl (RUs.cells hRU).2, RUs.mv hS.trFin hRU⟩⟩⟩
end K
end Go.Proofs.YtjjfpdofkdolnaaDoor
