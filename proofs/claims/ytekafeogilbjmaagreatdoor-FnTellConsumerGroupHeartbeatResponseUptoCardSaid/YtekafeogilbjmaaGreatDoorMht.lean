import Derived.Test.YtekafeogilbjmaaGreatDoorTm
import Derived.Test.YtekafeogilbjmaaGreatDoorMhs
set_option linter.unusedVariables false
set_option linter.unusedSimpArgs false
namespace Go.Proofs.YtekafeogilbjmaaGreatDoor
namespace K
open Go Go.Lib
theorem tclo_ConsumerGroupHeartbeatResponseAssignmentTopic (b3 : Nat) (c0 c1 c2 c3 : Value) (us : Tags) (hk : ∀ y ∈ us, y.1 < 4294967296) (hl : ∀ y ∈ us, y.2.length ≤ 4398046511104) (hlen : us.length ≤ 1099511627776) : ∀ j (hj : j < us.length) (u : Vw) (z : Value × List Value × Nat) (tv : Value), Iv (TInv us) j u z → RSv u tv (us[j]'hj).2 → HF [TA b3 c0 c1 c2 c3 z, TB z] u.w → (∀ q ∈ blks [TA b3 c0 c1 c2 c3 z, TB z], u.av q) → (blks [TA b3 c0 c1 c2 c3 z, TB z]).Nodup → CH Tryz.prog 272 [.int .u32 ((us[j]'hj).1 : Int), tv, .pointer (some ⟨b3, 0, none⟩)] u [TA b3 c0 c1 c2 c3 z, TB z] fun u r E' => ∃ z', E' = [TA b3 c0 c1 c2 c3 z', TB z'] ∧ Iv (TInv us) (j + 1) u z' := by
  rintro j hj u ⟨vU, cs, k⟩ tv hz htv hok hav hnd
  obtain ⟨hk0, hR⟩ := hz.get
  dsimp only at hk0 hR
  subst hk0
  have hbl := hl _ (List.getElem_mem hj)
  obtain ⟨adV, cV, rfl, hleV⟩ := htv.shape
  refine ch_enter Tryz.func272 rfl Tryz.ntmps272 rfl hok hav hnd ?_
  refine cd_draw' [0] [0, 1, 2, 3, 5, 8] [0, 1, 2, 3, 4, 5, 6, 7, 8, 9] mixed (by kernel_rfl) ?_
  refine lo_pv rfl rfl (sk_js (Tr.refl _) [0] rfl) (pv_fieldAddr (off := 4) (r := 4) Tryz.underlying37 rfl (tiSl_impl_Tag).size rfl rfl rfl) rfl ?_
  refine lo_pv rfl rfl (sk_js (Tr.refl _) [0] rfl) (pv_ldo (i := 0) rfl Tryz.underlying35 rfl rfl rfl) rfl ?_
  refine lo_pv rfl rfl (sk_js (Tr.refl _) [0] rfl) (pv_move rfl) rfl ?_
  refine lo_pv rfl rfl (sk_js (Tr.refl _) [0] rfl) (pv_move rfl) rfl ?_
  refine lo_eff rfl rfl ?_
  refine ln_nilrow 5 1 ?_
  refine ln_append (i := 0) rfl Tryz.underlying22 tiuint8 rfl (by decide) rfl rfl (RS.src htv) (by simp only [maxLen]; omega) (by omega) rfl (k' := (us[k]'hj).2.length) (xs' := u8s (us[k]'hj).2) (by omega) (by simp) (fun vc hvc => ?_)
  refine ln_free1 (fun q h => by simpa using h) (fun s1 ht1 hK1 => ?_)
  have hcp : RSv s1 vc (us[k]'hj).2 := Known.rs hK1 (u8s_one _)
  clear hK1
  have htv := htv.mv ht1
  have hR := RUs.mv ht1 hR
  refine lo_back (sk_js ht1 [0] rfl) ?_
  refine lo_pv rfl rfl (sk_js ht1 [0] rfl) (pv_struct [(0, 1), (1, 1)] (l := [_, _]) rfl Tryz.underlying69 tiimpl_Tag (by kernel_rfl) rfl (by simp [okL, Nat.ble_eq, Value.cells, hvc.2])) rfl ?_
  refine lo_eff rfl rfl ?_
  refine ln_lit (vs := [_]) Tryz.underlying35 tiimpl_Tag rfl (by decide) rfl rfl rfl rfl rfl rfl (fun b1 => ?_)
  refine lo_back (sk_js ht1 [1] rfl) ?_
  refine lo_eff rfl rfl ?_
  refine ln_append (i := 2) rfl Tryz.underlying35 tiimpl_Tag rfl (by decide) rfl rfl (src_obj (j := 0) rfl rfl (by simp [flat, Value.cells, hvc.2])) (by first | omega | (simp only [maxLen]; omega)) (by first | omega | (simp only [maxLen]; omega)) rfl (k' := (k + 1)) (xs' := cs ++ [.int .u32 ((us[k]'hj).1 : Int), vc]) rfl (by simp [flat, Value.cells]) (fun v1 hv1 => ?_)
  refine lo_back (sk_js ht1 [1] rfl) ?_
  refine lo_pv rfl rfl (sk_js ht1 [1] rfl) (pv_fieldAddr (off := 4) (r := 4) Tryz.underlying37 rfl (tiSl_impl_Tag).size rfl rfl rfl) rfl ?_
  refine lo_eff rfl rfl ?_
  refine ln_store1 (i := 1) rfl rfl rfl hv1.2 (tiSl_impl_Tag).size rfl ?_
  refine lo_last (by kernel_rfl) ?_
  refine lo_nil ?_
  refine at_retH0 [TA b3 c0 c1 c2 c3 (v1, cs ++ [.int .u32 ((us[k]'hj).1 : Int), vc], k + 1), TB (v1, cs ++ [.int .u32 ((us[k]'hj).1 : Int), vc], k + 1)] (.cons _ (.cons_cons _ (.cons_cons _ .slnil))) rfl (fun w hS => ⟨(v1, cs ++ [.int .u32 ((us[k]'hj).1 : Int), vc], k + 1), rfl, fun w2 hw2 => ⟨rfl, ?_⟩⟩)
  rw [take_snoc' hj]
  have hq := (hS.trFinH _ _).trans hw2
  exact RUs.append (RUs.mv hq hR) (RUs.one_ (hk _ (List.getElem_mem hj)) (RSv.mv hcp hq))
theorem tlT_ConsumerGroupHeartbeatResponseAssignmentTopic (y : Tre) : tlT F_sConsumerGroupHeartbeatResponseAssignmentTopic y = .mk 0 [] false [.mk 0 (uuid (y.at_ 0).s) false [] [], .mk 0 [] (y.at_ 1).z ((els (y.at_ 1)).map (tlS 3 (-1))) []] y.u := rfl
set_option maxHeartbeats 2000000 in
theorem tell_ConsumerGroupHeartbeatResponseAssignmentTopic (t : Vw) (b o : Nat) (y : Tre) (cells : List Value) (hrc : RC t b o cells) (hM : RMp t F_sConsumerGroupHeartbeatResponseAssignmentTopic y cells) (htg : tgT F_sConsumerGroupHeartbeatResponseAssignmentTopic y) : CA Tryz.prog 247 [.pointer (some ⟨b, o, none⟩)] t fun u r => ∃ ds, r = .agg ds.toArray ∧ RT u (tlT F_sConsumerGroupHeartbeatResponseAssignmentTopic y) ds := by
  rw [tlT_ConsumerGroupHeartbeatResponseAssignmentTopic]
  obtain ⟨⟨hsrt, hkeys, hlens, hlen⟩, htl⟩ := htg
  simp only [F_sConsumerGroupHeartbeatResponseAssignmentTopic, tgL] at htl
  obtain ⟨qg0, qg1, _⟩ := htl
  obtain ⟨fc1, mv1, hce1, hfl1, hTg1⟩ := hM
  simp only [F_sConsumerGroupHeartbeatResponseAssignmentTopic, RMl] at hfl1
  obtain ⟨x1_0, z1_0, e1_0, g1_0, x1_1, z1_1, e1_1, g1_1, hend1⟩ := hfl1
  have hq1_0 := RMf_uuid.1 g1_0
  obtain ⟨u1_0_0, u1_0_1, u1_0_2, u1_0_3, u1_0_4, u1_0_5, u1_0_6, u1_0_7, u1_0_8, u1_0_9, u1_0_10, u1_0_11, u1_0_12, u1_0_13, u1_0_14, u1_0_15, hu1_0⟩ := uuid16 (y.at_ 0).s
  rw [hu1_0] at hq1_0
  subst hq1_0
  obtain ⟨_, rfl, Gg1_1⟩ := RMf_list.1 g1_1
  obtain ⟨ad1_1, cap1_1, rfl, hnil1_1, Hg1_1⟩ := Gg1_1.els
  subst hend1
  subst e1_1
  subst e1_0
  rw [hce1] at hrc
  simp only [List.cons_append, List.nil_append, List.append_assoc] at hrc
  have huu_0 : RSv t (.slice (some ⟨b, o + 0, none⟩) 16 16) (uuid (y.at_ 0).s) := uuid_rs (hrc.sub 0 (c1 := []) (c2 := [u1_0_0, u1_0_1, u1_0_2, u1_0_3, u1_0_4, u1_0_5, u1_0_6, u1_0_7, u1_0_8, u1_0_9, u1_0_10, u1_0_11, u1_0_12, u1_0_13, u1_0_14, u1_0_15]) rfl rfl) hu1_0
  have hLs_1 := LsF.of Hg1_1
  have hll_1 : (els (y.at_ 1)).length ≤ 32767 := (tgF_list.1 qg1).1
  obtain ⟨lt, hMK, hRK⟩ := hTg1
  have hrt : RC1 t b (o + 17) mv1 := hrc.sub 17 (c1 := [_, _, _, _, _, _, _, _, _, _, _, _, _, _, _, _, _]) (c2 := [mv1]) (c3 := []) rfl rfl
  have hrc : RCx t b o _ _ := hrc
  refine ca_enter Tryz.func247 rfl Tryz.ntmps247 rfl ?_
  refine cd_sr ?_
  refine ln_alloc tiimpl_Tree rfl rfl (fun b1 => ?_)
  refine ln_cd ?_
  refine cd_sr ?_
  refine ln_makeN (m := 2) (l := [.int .i64 0, .slice none 0 0, .bool false, .slice none 0 0, .slice none 0 0, .int .i64 0, .slice none 0 0, .bool false, .slice none 0 0, .slice none 0 0]) Tryz.underlying34 tiimpl_Tree rfl rfl (by kernel_rfl) (by decide) (by decide) rfl (fun bL => ?_)
  refine ln_pv (pv_struct [(0, 1), (1, 1), (2, 1), (3, 1), (4, 1)] (l := [_, _, _, _, _]) rfl Tryz.underlying37 tiimpl_Tree (by kernel_rfl) rfl rfl) rfl ?_
  refine ln_alloc tiimpl_Tree rfl rfl (fun b2 => ?_)
  refine ln_storeW (i := 0) rfl rfl rfl rfl (tiimpl_Tree).size rfl (by simp []) ?_
  refine ln_cd ?_
  refine cd_dr' [0, 1, 2] [0, 1, 2, 3, 4, 5, 7, 8] [0, 1, 2, 3, 4, 5, 6, 7, 8, 9] mixed (by kernel_rfl) ?_
  refine lo_pv rfl rfl (sk_js (Tr.refl _) [0, 1, 2] rfl) (pv_fieldAddr (off := 3) (r := 3) Tryz.underlying37 rfl (tiSl_impl_Tree).size rfl rfl rfl) rfl ?_
  refine lo_pv rfl rfl (sk_js (Tr.refl _) [0, 1, 2] rfl) (pv_ldo (i := 0) rfl Tryz.underlying34 rfl rfl rfl) rfl ?_
  refine lo_pv rfl rfl (sk_js (Tr.refl _) [0, 1, 2] rfl) (pv_move rfl) rfl ?_
  refine lo_pv rfl rfl (sk_js (Tr.refl _) [0, 1, 2] rfl) (pv_nilCheck rfl) rfl ?_
  refine lo_pv rfl rfl (sk_js (Tr.refl _) [0, 1, 2] rfl) (pv_fieldAddr (off := 0)  Tryz.underlying230 rfl (ti_16_uint8).size rfl rfl rfl) rfl ?_
  refine lo_pv rfl rfl (sk_js (Tr.refl _) [0, 1, 2] rfl) (pv_slice_arro Tryz.underlying136 (size_some (tiuint8 : TI Tryz.prog _ _ _ _).size) rfl) rfl ?_
  refine lo_eff rfl rfl ?_
  refine ln_nilrow 5 1 ?_
  refine ln_append (i := 0) rfl Tryz.underlying22 tiuint8 rfl (by decide) rfl rfl (RS.src huu_0) (by rw [uuid_length]; simp only [maxLen]; omega) (by rw [uuid_length]; omega) rfl (k' := (uuid (y.at_ 0).s).length) (xs' := u8s (uuid (y.at_ 0).s)) (by omega) (by simp) (fun vI0 hvI0 => ?_)
  refine ln_free1 (fun q h => h.elim) (fun sI0 htI0 hKI0 => ?_)
  have hcI0 : RSv sI0 vI0 (uuid (y.at_ 0).s) := Known.rs hKI0 (u8s_one _)
  clear hKI0
  have hrc := hrc.mv htI0
  have hrt := hrt.mv htI0
  have hMK := hMK.mv htI0
  have hRK := hRK.mv htI0
  have huu_0 := huu_0.mv htI0
  have hLs_1 := hLs_1.mv htI0
  refine lo_back (sk_js htI0 [0, 1, 2] rfl) ?_
  refine lo_pv rfl rfl (sk_js htI0 [0, 1, 2] rfl) (pv_struct [(0, 1), (1, 1), (2, 1), (3, 1), (4, 1)] (l := [_, _, _, _, _]) rfl Tryz.underlying37 tiimpl_Tree (by kernel_rfl) rfl (by simp [okL, Nat.ble_eq, Value.cells, (RS.one hcI0)])) rfl ?_
  refine lo_pv rfl rfl (sk_js htI0 [0, 1, 2] rfl) (pv_ixN (o := 0) (i := 0) Tryz.underlying34 (tiimpl_Tree).size rfl rfl (by decide)) rfl ?_
  refine lo_eff rfl rfl ?_
  refine ln_store (i := 1) (vs := [_, _, _, _, _]) rfl rfl rfl rfl (tiimpl_Tree).size rfl (by simp [(RS.one hcI0)]) rfl ?_
  refine lo_last (by kernel_rfl) ?_
  refine lo_cd ?_
  refine cd_dr' [0, 1, 2] [0, 1, 2, 3, 4, 5, 6, 8] [0, 1, 2, 3, 4, 5, 6, 7, 8, 9] mixed (by kernel_rfl) ?_
  refine lo_pv rfl rfl (sk_js (Tr.refl _) [0, 1, 2] rfl) (pv_fieldAddr (off := 3) (r := 3) Tryz.underlying37 rfl (tiSl_impl_Tree).size rfl rfl rfl) rfl ?_
  refine lo_pv rfl rfl (sk_js (Tr.refl _) [0, 1, 2] rfl) (pv_ldo (i := 0) rfl Tryz.underlying34 rfl rfl rfl) rfl ?_
  refine lo_pv rfl rfl (sk_js (Tr.refl _) [0, 1, 2] rfl) (pv_move rfl) rfl ?_
  refine lo_pv rfl rfl (sk_js (Tr.refl _) [0, 1, 2] rfl) (pv_nilCheck rfl) rfl ?_
  refine lo_pv rfl rfl (sk_js (Tr.refl _) [0, 1, 2] rfl) (pv_fieldAddr (off := 16)  Tryz.underlying230 rfl (tiSl_int32).size rfl rfl rfl) rfl ?_
  refine lo_pv rfl rfl (sk_js (Tr.refl _) [0, 1, 2] rfl) (pv_ldr (j := 16) hrc Tryz.underlying128 rfl rfl rfl) rfl ?_
  refine lo_pv rfl rfl (sk_js (Tr.refl _) [0, 1, 2] rfl) (pv_eqS Tryz.underlying128 rfl rfl) rfl ?_
  refine lo_eff rfl rfl ?_
  refine ln_pv (pv_ixN (o := 0) (i := 1) Tryz.underlying34 (tiimpl_Tree).size rfl rfl (by decide)) rfl ?_
  refine lo_back (sk_js (Tr.refl _) [0, 1, 2] rfl) ?_
  refine lo_pv rfl rfl (sk_js (Tr.refl _) [0, 1, 2] rfl) (pv_fieldAddr (off := 2) (r := 7) Tryz.underlying37 rfl (tibool).size rfl rfl rfl) rfl ?_
  refine lo_eff rfl rfl ?_
  refine ln_store1 (i := 1) rfl rfl rfl rfl (tibool).size rfl ?_
  refine lo_last (by kernel_rfl) ?_
  refine lo_cd ?_
  refine cd_seq ?_
  refine cd_nilrow 37 5 ?_
  refine cd_sr ?_
  refine ln_pv (pv_move rfl) rfl ?_
  refine ln_pv (pv_nilCheck rfl) rfl ?_
  refine ln_pv (pv_fieldAddr (off := 16)  Tryz.underlying230 rfl (tiSl_int32).size rfl rfl rfl) rfl ?_
  refine ln_pv (pv_ldr (j := 16) hrc Tryz.underlying128 rfl rfl rfl) rfl ?_
  refine ln_pv (pv_len_slice Tryz.underlying128 rfl) rfl ?_
  refine ln_pv (pv_move rfl) rfl ?_
  refine ln_cd ?_
  refine cd_block ?_
  refine cd_loop (⟨fun (z : Nat × List Value × Value) => [(0, .pointer (some ⟨b, o, none⟩)), (2, .pointer (some ⟨b1, 0, none⟩)), (3, .pointer (some ⟨b2, 0, none⟩)), (29, .int .i64 ((els (y.at_ 1)).length : Int)), (30, .int .i64 ((z.1 : Nat) : Int))], fun (z : Nat × List Value × Value) => [.row z.2.2 37 5 ((els (y.at_ 1)).take z.1).length z.2.1, .obj b2 (.cells [.int .i64 0, .slice none 0 0, .bool false, .slice (some ⟨bL, 0, none⟩) 2 2, .slice none 0 0].toArray 37), .obj bL (.cells [.int .i64 0, vI0, .bool false, .slice none 0 0, .slice none 0 0, .int .i64 0, .slice none 0 0, .bool ad1_1.isNone, z.2.2, .slice none 0 0].toArray 37), .obj b1 (.cells [.int .i64 0, .slice none 0 0, .bool false, .slice none 0 0, .slice none 0 0].toArray 37)], fun (z : Nat × List Value × Value) s => z.1 ≤ (els (y.at_ 1)).length ∧ RTs s (((els (y.at_ 1)).take z.1).map (tlS 3 (-1))) z.2.1, fun (z : Nat × List Value × Value) => (els (y.at_ 1)).length - z.1⟩ : Lp (Nat × List Value × Value)) (0, [], .slice none 0 0) ?_ ?_ ?_ ?_
  · intro s0 hs0
    exact ⟨Nat.zero_le _, rfl⟩
  · exact ⟨rfl, rfl, rfl, rfl, rfl,  trivial⟩
  · exact (.cons_cons _ (.cons_cons _ (.cons_cons _ (.cons_cons _ .slnil))))
  intro z s1 hl1 hI
  obtain ⟨i_1, ys_1, vv_1⟩ := z
  dsimp only at hI ⊢
  have hrc := hrc.mv hl1
  have hrt := hrt.mv hl1
  have hMK := hMK.mv hl1
  have hRK := hRK.mv hl1
  have huu_0 := huu_0.mv hl1
  have hLs_1 := hLs_1.mv hl1
  have hcI0 := hcI0.mv hl1
  obtain ⟨hI_1, hIr_1⟩ := hI
  refine cd_sr ?_
  refine ln_pv (pv_lss rfl rfl) rfl ?_
  refine ln_cd ?_
  refine cd_seq ?_
  refine cd_if rfl (fun hc1 => ?_) (fun hc1 => ?_)
  · -- yes
    refine cd_skip ?_
    refine at_cd ?_
    refine cd_seq ?_
    refine cd_block ?_
    have hi_1 : i_1 < (els (y.at_ 1)).length := by omega
    have hsl_1 : ((els (y.at_ 1)).take (i_1 + 1)).length = ((els (y.at_ 1)).take i_1).length + 1 := by simp only [List.length_take]; omega
    have hil_1 : ((els (y.at_ 1)).take i_1).length = i_1 := by rw [List.length_take]; omega
    obtain ⟨gE_1, oE_1, cE_1, hadE_1, hrce_1, hme_1⟩ := hLs_1.at_ hi_1 (show esl _ _ = 1 by kernel_rfl)
    subst hadE_1
    obtain rfl := RE_i32 hme_1
    refine cd_sr ?_
    refine ln_pv (pv_move rfl) rfl ?_
    refine ln_pv (pv_assign rfl) rfl ?_
    refine ln_cd ?_
    refine cd_dr3 [1, 2, 3] [] [0] 1 2 [2, 3] [1, 3] mixed (by kernel_rfl) ?_
    refine lo_eff rfl rfl ?_
    refine ln_alloc tibool rfl rfl (fun b3 => ?_)
    refine lo_last (by kernel_rfl) ?_
    refine lo_nil (at_two ?_ ?_)
    · skip
      refine lo_eff rfl rfl ?_
      refine ln_store1 (i := 0) rfl rfl rfl rfl (tibool).size rfl ?_
      refine lo_last (by kernel_rfl) ?_
      refine lo_eff rfl rfl ?_
      refine ln_store1 (i := 0) rfl rfl rfl rfl (tibool).size rfl ?_
      refine lo_last (by kernel_rfl) ?_
      refine lo_eff rfl rfl ?_
      refine ln_pv (pv_ldo (i := 0) rfl Tryz.underlying4 rfl rfl rfl) rfl ?_
      refine lo_last (by kernel_rfl) ?_
      refine lo_cd ?_
      refine cd_ff rfl ?_
      refine cd_draw' [0, 2, 3, 4] [0, 1, 2, 3, 4, 5, 6, 7, 8, 9, 10, 11, 12, 13, 14, 15, 19] [0, 1, 2, 3, 4, 5, 6, 7, 8, 9, 10, 11, 12, 13, 14, 15, 16, 17, 18, 19, 20] mixed (by kernel_rfl) ?_
      refine lo_pv rfl rfl (sk_js (Tr.refl _) [0, 2, 3, 4] rfl) (pv_fieldAddr (off := 3) (r := 3) Tryz.underlying37 rfl (tiSl_impl_Tree).size rfl rfl rfl) rfl ?_
      refine lo_pv rfl rfl (sk_js (Tr.refl _) [0, 2, 3, 4] rfl) (pv_ldo (i := 1) rfl Tryz.underlying34 rfl rfl rfl) rfl ?_
      refine lo_pv rfl rfl (sk_js (Tr.refl _) [0, 2, 3, 4] rfl) (pv_fieldAddr (off := 3) (r := 3) Tryz.underlying37 rfl (tiSl_impl_Tree).size rfl rfl rfl) rfl ?_
      refine lo_pv rfl rfl (sk_js (Tr.refl _) [0, 2, 3, 4] rfl) (pv_ldo (i := 1) rfl Tryz.underlying34 rfl rfl rfl) rfl ?_
      refine lo_pv rfl rfl (sk_js (Tr.refl _) [0, 2, 3, 4] rfl) (pv_ixN (o := 0) (i := 1) Tryz.underlying34 (tiimpl_Tree).size rfl rfl (by decide)) rfl ?_
      refine lo_pv rfl rfl (sk_js (Tr.refl _) [0, 2, 3, 4] rfl) (pv_fieldAddr (off := 3) (r := 8) Tryz.underlying37 rfl (tiSl_impl_Tree).size rfl rfl rfl) rfl ?_
      refine lo_pv rfl rfl (sk_js (Tr.refl _) [0, 2, 3, 4] rfl) (pv_ldo (i := 2) rfl Tryz.underlying34 rfl rfl rfl) rfl ?_
      refine lo_pv rfl rfl (sk_js (Tr.refl _) [0, 2, 3, 4] rfl) (pv_move rfl) rfl ?_
      refine lo_pv rfl rfl (sk_js (Tr.refl _) [0, 2, 3, 4] rfl) (pv_nilCheck rfl) rfl ?_
      refine lo_pv rfl rfl (sk_js (Tr.refl _) [0, 2, 3, 4] rfl) (pv_fieldAddr (off := 16)  Tryz.underlying230 rfl (tiSl_int32).size rfl rfl rfl) rfl ?_
      refine lo_pv rfl rfl (sk_js (Tr.refl _) [0, 2, 3, 4] rfl) (pv_ldr (j := 16) hrc Tryz.underlying128 rfl rfl rfl) rfl ?_
      refine lo_pv rfl rfl (sk_js (Tr.refl _) [0, 2, 3, 4] rfl) (pv_move rfl) rfl ?_
      refine lo_pv rfl rfl (sk_js (Tr.refl _) [0, 2, 3, 4] rfl) (pv_ixN Tryz.underlying128 (tiint32).size rfl rfl hi_1) rfl ?_
      refine lo_pv rfl rfl (sk_js (Tr.refl _) [0, 2, 3, 4] rfl) (pv_ldr (j := 0) (hrce_1).2 Tryz.underlying21 rfl rfl rfl) rfl ?_
      refine lo_pv rfl rfl (sk_js (Tr.refl _) [0, 2, 3, 4] rfl) (pv_conv' Tryz.underlying21 Tryz.underlying2 rfl (w64_i32 _)) rfl ?_
      refine lo_pv rfl rfl (sk_js (Tr.refl _) [0, 2, 3, 4] rfl) (pv_struct [(0, 1), (1, 1), (2, 1), (3, 1), (4, 1)] (l := [_, _, _, _, _]) rfl Tryz.underlying37 tiimpl_Tree (by kernel_rfl) rfl rfl) rfl ?_
      refine lo_eff rfl rfl ?_
      refine ln_lit (vs := [_]) Tryz.underlying34 tiimpl_Tree rfl (by decide) rfl rfl rfl rfl rfl rfl (fun b4 => ?_)
      refine lo_back (sk_js (Tr.refl _) [1, 3, 4, 5] rfl) ?_
      refine lo_eff rfl rfl ?_
      refine ln_append (i := 2) rfl Tryz.underlying34 tiimpl_Tree rfl (by decide) rfl rfl (src_obj (j := 0) rfl rfl rfl) (by rw [hil_1]; first | omega | (simp only [maxLen]; omega)) (by rw [hil_1]; first | omega | (simp only [maxLen]; omega)) rfl (k' := ((els (y.at_ 1)).take (i_1 + 1)).length) (xs' := ys_1 ++ [.int .i64 (IntKind.i32.wrap ((els (y.at_ 1))[i_1]).n), .slice none 0 0, .bool false, .slice none 0 0, .slice none 0 0]) hsl_1.symm (by simp [flat, Value.cells]) (fun v1 hv1 => ?_)
      refine lo_back (sk_js (Tr.refl _) [1, 3, 4, 5] rfl) ?_
      refine lo_eff rfl rfl ?_
      refine ln_pv (pv_ixN (o := 0) (i := 1) Tryz.underlying34 (tiimpl_Tree).size rfl rfl (by decide)) rfl ?_
      refine lo_back (sk_js (Tr.refl _) [1, 3, 4, 5] rfl) ?_
      refine lo_pv rfl rfl (sk_js (Tr.refl _) [1, 3, 4, 5] rfl) (pv_fieldAddr (off := 3) (r := 8) Tryz.underlying37 rfl (tiSl_impl_Tree).size rfl rfl rfl) rfl ?_
      refine lo_eff rfl rfl ?_
      refine ln_store1 (i := 4) rfl rfl rfl hv1.2 (tiSl_impl_Tree).size rfl ?_
      refine lo_last (by kernel_rfl) ?_
      refine lo_nil ?_
      refine at_cd ?_
      refine cd_region ?_
      refine ln_pv (pv_add' rfl rfl (wrap_succ (by omega))) rfl ?_
      refine ln_pv (pv_move rfl) rfl ?_
      refine ln_nil ?_
      refine at_rnd (i_1 + 1, ys_1 ++ [.int .i64 (IntKind.i32.wrap ((els (y.at_ 1))[i_1]).n), .slice none 0 0, .bool false, .slice none 0 0, .slice none 0 0], v1) hl1 ?_ ?_ ⟨rfl, rfl, rfl, rfl, rfl,  trivial⟩ (.cons _ (.cons _ (.cons_cons _ (.cons_cons _ (.cons_cons _ (.cons_cons _ .slnil))))))
      · intro s9 hs9
        exact ⟨by dsimp only; omega, RTs_snoc hi_1 (RTs.mv hIr_1 hs9) RT_e3⟩
      · dsimp only; omega
    · skip
      refine lo_eff rfl rfl ?_
      refine ln_store1 (i := 0) rfl rfl rfl rfl (tibool).size rfl ?_
      refine lo_last (by kernel_rfl) ?_
      refine lo_eff rfl rfl ?_
      refine ln_store1 (i := 0) rfl rfl rfl rfl (tibool).size rfl ?_
      refine lo_last (by kernel_rfl) ?_
      refine lo_eff rfl rfl ?_
      refine ln_pv (pv_ldo (i := 0) rfl Tryz.underlying4 rfl rfl rfl) rfl ?_
      refine lo_last (by kernel_rfl) ?_
      refine lo_cd ?_
      refine cd_tt rfl ?_
      refine cd_rowshape (i := 1) rfl (fun adR_1 cpR_1 hvR_1 hleR_1 hposR_1 => ?_)
      subst hvR_1
      refine cd_dr' [0, 2, 3, 4] [0, 1, 2, 3, 4, 5, 6, 7, 8, 9, 10, 11, 12, 13, 14, 18] [0, 1, 2, 3, 4, 5, 6, 7, 8, 9, 10, 11, 12, 13, 14, 15, 16, 17, 18, 19] mixed (by kernel_rfl) ?_
      refine lo_pv rfl rfl (sk_js (Tr.refl _) [0, 2, 3, 4] rfl) (pv_fieldAddr (off := 3) (r := 3) Tryz.underlying37 rfl (tiSl_impl_Tree).size rfl rfl rfl) rfl ?_
      refine lo_pv rfl rfl (sk_js (Tr.refl _) [0, 2, 3, 4] rfl) (pv_ldo (i := 1) rfl Tryz.underlying34 rfl rfl rfl) rfl ?_
      refine lo_pv rfl rfl (sk_js (Tr.refl _) [0, 2, 3, 4] rfl) (pv_ixN (o := 0) (i := 1) Tryz.underlying34 (tiimpl_Tree).size rfl rfl (by decide)) rfl ?_
      refine lo_pv rfl rfl (sk_js (Tr.refl _) [0, 2, 3, 4] rfl) (pv_fieldAddr (off := 3) (r := 8) Tryz.underlying37 rfl (tiSl_impl_Tree).size rfl rfl rfl) rfl ?_
      refine lo_pv rfl rfl (sk_js (Tr.refl _) [0, 2, 3, 4] rfl) (pv_ldo (i := 2) rfl Tryz.underlying34 rfl rfl rfl) rfl ?_
      refine lo_pv rfl rfl (sk_js (Tr.refl _) [0, 2, 3, 4] rfl) (pv_move rfl) rfl ?_
      refine lo_pv rfl rfl (sk_js (Tr.refl _) [0, 2, 3, 4] rfl) (pv_nilCheck rfl) rfl ?_
      refine lo_pv rfl rfl (sk_js (Tr.refl _) [0, 2, 3, 4] rfl) (pv_fieldAddr (off := 16)  Tryz.underlying230 rfl (tiSl_int32).size rfl rfl rfl) rfl ?_
      refine lo_pv rfl rfl (sk_js (Tr.refl _) [0, 2, 3, 4] rfl) (pv_ldr (j := 16) hrc Tryz.underlying128 rfl rfl rfl) rfl ?_
      refine lo_pv rfl rfl (sk_js (Tr.refl _) [0, 2, 3, 4] rfl) (pv_move rfl) rfl ?_
      refine lo_pv rfl rfl (sk_js (Tr.refl _) [0, 2, 3, 4] rfl) (pv_ixN Tryz.underlying128 (tiint32).size rfl rfl hi_1) rfl ?_
      refine lo_pv rfl rfl (sk_js (Tr.refl _) [0, 2, 3, 4] rfl) (pv_ldr (j := 0) (hrce_1).2 Tryz.underlying21 rfl rfl rfl) rfl ?_
      refine lo_pv rfl rfl (sk_js (Tr.refl _) [0, 2, 3, 4] rfl) (pv_conv' Tryz.underlying21 Tryz.underlying2 rfl (w64_i32 _)) rfl ?_
      refine lo_pv rfl rfl (sk_js (Tr.refl _) [0, 2, 3, 4] rfl) (pv_struct [(0, 1), (1, 1), (2, 1), (3, 1), (4, 1)] (l := [_, _, _, _, _]) rfl Tryz.underlying37 tiimpl_Tree (by kernel_rfl) rfl rfl) rfl ?_
      refine lo_pv rfl rfl (sk_js (Tr.refl _) [0, 2, 3, 4] rfl) (pv_len_slice Tryz.underlying34 rfl) rfl ?_
      refine lo_eff rfl rfl ?_
      refine ln_lit (vs := [_]) Tryz.underlying34 tiimpl_Tree rfl (by decide) rfl rfl rfl rfl rfl rfl (fun b5 => ?_)
      refine lo_back (sk_js (Tr.refl _) [1, 3, 4, 5] rfl) ?_
      refine lo_eff rfl rfl ?_
      refine ln_append (i := 2) rfl Tryz.underlying34 tiimpl_Tree rfl (by decide) rfl rfl (src_obj (j := 0) rfl rfl rfl) (by rw [hil_1]; first | omega | (simp only [maxLen]; omega)) (by rw [hil_1]; first | omega | (simp only [maxLen]; omega)) rfl (k' := ((els (y.at_ 1)).take (i_1 + 1)).length) (xs' := ys_1 ++ [.int .i64 0, .slice none 0 0, .bool false, .slice none 0 0, .slice none 0 0]) hsl_1.symm (by simp [flat, Value.cells]) (fun v2 hv2 => ?_)
      refine lo_back (sk_js (Tr.refl _) [1, 3, 4, 5] rfl) ?_
      refine lo_eff rfl rfl ?_
      refine ln_pv (pv_ixN (o := 0) (i := 1) Tryz.underlying34 (tiimpl_Tree).size rfl rfl (by decide)) rfl ?_
      refine lo_back (sk_js (Tr.refl _) [1, 3, 4, 5] rfl) ?_
      refine lo_pv rfl rfl (sk_js (Tr.refl _) [1, 3, 4, 5] rfl) (pv_fieldAddr (off := 3) (r := 8) Tryz.underlying37 rfl (tiSl_impl_Tree).size rfl rfl rfl) rfl ?_
      refine lo_eff rfl rfl ?_
      refine ln_store1 (i := 4) rfl rfl rfl hv2.2 (tiSl_impl_Tree).size rfl ?_
      refine lo_last (by kernel_rfl) ?_
      refine lo_cd ?_
      refine cd_region ?_
      refine ln_rowshp (i := 2) rfl (fun ad2_1 cp2_1 hv2_1 hle2_1 hpos2_1 => ?_)
      subst hv2_1
      obtain ⟨g2_1, rfl⟩ := hpos2_1 (by omega)
      refine ln_pv (pv_ixN Tryz.underlying34 tiimpl_Tree.size rfl rfl (by omega)) rfl ?_
      refine ln_storeR (i := 2) (vs := [.int .i64 (IntKind.i32.wrap ((els (y.at_ 1))[i_1]).n), .slice none 0 0, .bool false, .slice none 0 0, .slice none 0 0]) (xs' := ys_1 ++ [.int .i64 (IntKind.i32.wrap ((els (y.at_ 1))[i_1]).n), .slice none 0 0, .bool false, .slice none 0 0, .slice none 0 0]) rfl rfl rfl rfl tiimpl_Tree.size (by simp only [List.length_cons, List.length_nil]; omega) (by simp) (wr_end (xs := ys_1) (z := [.int .i64 0, .slice none 0 0, .bool false, .slice none 0 0, .slice none 0 0]) (o := 0 + ((els (y.at_ 1)).take i_1).length * 5) (vs := [.int .i64 (IntKind.i32.wrap ((els (y.at_ 1))[i_1]).n), .slice none 0 0, .bool false, .slice none 0 0, .slice none 0 0]) rfl (by have h6 := (RTs.len5 hIr_1); simp only [List.length_map] at h6; omega)) ?_
      refine ln_nil ?_
      refine at_cd ?_
      refine cd_region ?_
      refine ln_pv (pv_add' rfl rfl (wrap_succ (by omega))) rfl ?_
      refine ln_pv (pv_move rfl) rfl ?_
      refine ln_nil ?_
      refine at_rnd (i_1 + 1, ys_1 ++ [.int .i64 (IntKind.i32.wrap ((els (y.at_ 1))[i_1]).n), .slice none 0 0, .bool false, .slice none 0 0, .slice none 0 0], (.slice (some ⟨g2_1, 0, none⟩) ((els (y.at_ 1)).take (i_1 + 1)).length cp2_1)) hl1 ?_ ?_ ⟨rfl, rfl, rfl, rfl, rfl,  trivial⟩ (.cons _ (.cons _ (.cons_cons _ (.cons_cons _ (.cons_cons _ (.cons_cons _ .slnil))))))
      · intro s9 hs9
        exact ⟨by dsimp only; omega, RTs_snoc hi_1 (RTs.mv hIr_1 hs9) RT_e3⟩
      · dsimp only; omega
  · -- no
    refine cd_exit rfl ?_
    refine at_cd ?_
    have hq_1 : i_1 = (els (y.at_ 1)).length := by omega
    subst hq_1
    rw [List.take_length] at hIr_1
    refine cd_row (i := 0) (m' := ((els (y.at_ 1)).map (tlS 3 (-1))).length) (xs' := ys_1) rfl (by simp) rfl ?_
    refine cd_sr ?_
    refine ln_pv (pv_move rfl) rfl ?_
    refine ln_pv (pv_nilCheck rfl) rfl ?_
    refine ln_pv (pv_fieldAddr (off := 17)  Tryz.underlying230 rfl (tipub_kmsg_Tags).size rfl rfl rfl) rfl ?_
    refine ln_pv (pv_makeFunc (vf := #[]) (vc := #[.pointer (some ⟨b2, 0, none⟩)]) (by rw [List.map_toArray, List.map_toArray]; rfl) (by rw [List.map_toArray, List.map_toArray]; rfl)) rfl ?_
    refine ln_nilrow 69 2 ?_
    have hst := tclo_ConsumerGroupHeartbeatResponseAssignmentTopic b2 (.int .i64 0) (.slice none 0 0) (.bool false) (.slice (some ⟨bL, 0, none⟩) 2 2) y.u hkeys hlens (Nat.le_of_lt hlen)
    have hEa := fun (u : Vw) hr hm hk h0 hok hav hnd => tags_EachG (fun z => TA b2 (.int .i64 0) (.slice none 0 0) (.bool false) (.slice (some ⟨bL, 0, none⟩) 2 2) z) TB (TInv y.u) 272 (.pointer (some ⟨b2, 0, none⟩)) en_272 u b (o + 17) mv1 lt y.u (.slice none 0 0, [], 0) hr hm hk hsrt (by omega) h0 hst hok hav hnd
    refine ln_callH (E := [TA b2 (.int .i64 0) (.slice none 0 0) (.bool false) (.slice (some ⟨bL, 0, none⟩) 2 2) (.slice none 0 0, [], 0), TB (.slice none 0 0, [], 0)]) (H0 := [_, _, _]) (List.perm_middle (l₁ := [_, _])) en_125 rfl (fun u hu hok hav hnd => hEa u (RC1.mv hrt hu) (hMK.mv hu) (RK.mv hu hRK) (fun w hw => ⟨rfl, by rw [List.take_zero]; rfl⟩) hok hav hnd) rfl ?_
    rintro u4 v4 _ ht4 ⟨xu4, ⟨⟨vU, csU, kU⟩, rfl, hzU⟩, hxu4⟩
    obtain ⟨hkU, hRU⟩ := (hzU.mv hxu4).get
    dsimp only at hkU hRU
    subst hkU
    rw [List.take_length] at hRU
    have hrc := hrc.mv ht4
    have hrt := hrt.mv ht4
    have hMK := hMK.mv ht4
    have hRK := hRK.mv ht4
    have huu_0 := huu_0.mv ht4
    have hLs_1 := hLs_1.mv ht4
    have hcI0 := hcI0.mv ht4
    have hIr_1 := hIr_1.mv ht4
    refine ln_cd ?_
    refine cd_sr ?_
    refine ln_pv (pv_fieldAddr (off := 4) (r := 4) Tryz.underlying37 rfl (tiSl_impl_Tag).size rfl rfl rfl) rfl ?_
    refine ln_pv (pv_ldo (i := 0) rfl Tryz.underlying35 rfl rfl rfl) rfl ?_
    refine ln_callT (i := 1) en_127 rfl rfl (fun u hu hok hav => impl_sorted u vU y.u csU hsrt (by omega) (RUs.cells hRU).1 (fun i hi => by obtain ⟨c1, tv, c3, he, hc, _, _⟩ := RUs.at_ hi hRU; rw [he, List.append_assoc, List.getElem?_append_right (by omega), hc]; simp) hok hav) rfl ?_
    rintro u5 v5 _ ht5 ⟨_, rfl, _⟩
    have hrc := hrc.mv ht5
    have hrt := hrt.mv ht5
    have hMK := hMK.mv ht5
    have hRK := hRK.mv ht5
    have huu_0 := huu_0.mv ht5
    have hLs_1 := hLs_1.mv ht5
    have hcI0 := hcI0.mv ht5
    have hIr_1 := hIr_1.mv ht5
    have hRU := hRU.mv ht5
    refine ln_cd ?_
    refine cd_rowone (i := 1) rfl (fun hoU => ?_)
    refine cd_sr ?_
    refine ln_pv (pv_ldO (i := 0) rfl Tryz.underlying37 rfl (tiimpl_Tree).size rfl rfl) rfl ?_
    refine ln_storeW (i := 4) rfl rfl rfl rfl (tiimpl_Tree).size rfl (by simp [hoU]) ?_
    refine ln_cd ?_
    refine cd_ret ?_
    refine at_retC (i := 4) rfl rfl rfl Tryz.underlying37 rfl tiimpl_Tree.size rfl (fun w hS => ?_)
    have hRTs : RTs hS.fin [.mk 0 (uuid (y.at_ 0).s) false [] [], .mk 0 [] (y.at_ 1).z ((els (y.at_ 1)).map (tlS 3 (-1))) []] _ := ⟨[_, _, _, _, _], _, rfl, RT_uu (RSv.mv hcI0 hS.trFin), ⟨[_, _, _, _, _], _, rfl, RT_list hnil1_1 rfl (row_rs hS (j := 2) rfl (RTs.cells hIr_1)) (RTs.mv hIr_1 hS.trFin), rfl⟩⟩
    refine ⟨_, rfl, RT.shut ⟨_, _, _, rfl, (show I64 0 from by unfold I64; omega), RS_nil 1, ⟨_, obj_rsS hS (i := 3) (sz := 5) (m := 2) rfl rfl (RTs.cells hRTs), hRTs⟩, ⟨csU, row_rs hS (j := 1) rfl (RUs.cells hRU).2, RUs.mv hS.trFin hRU⟩⟩⟩
theorem tclo_ConsumerGroupHeartbeatResponseAssignment (b3 : Nat) (c0 c1 c2 c3 : Value) (us : Tags) (hk : ∀ y ∈ us, y.1 < 4294967296) (hl : ∀ y ∈ us, y.2.length ≤ 4398046511104) (hlen : us.length ≤ 1099511627776) : ∀ j (hj : j < us.length) (u : Vw) (z : Value × List Value × Nat) (tv : Value), Iv (TInv us) j u z → RSv u tv (us[j]'hj).2 → HF [TA b3 c0 c1 c2 c3 z, TB z] u.w → (∀ q ∈ blks [TA b3 c0 c1 c2 c3 z, TB z], u.av q) → (blks [TA b3 c0 c1 c2 c3 z, TB z]).Nodup → CH Tryz.prog 248 [.int .u32 ((us[j]'hj).1 : Int), tv, .pointer (some ⟨b3, 0, none⟩)] u [TA b3 c0 c1 c2 c3 z, TB z] fun u r E' => ∃ z', E' = [TA b3 c0 c1 c2 c3 z', TB z'] ∧ Iv (TInv us) (j + 1) u z' := by
  rintro j hj u ⟨vU, cs, k⟩ tv hz htv hok hav hnd
  obtain ⟨hk0, hR⟩ := hz.get
  dsimp only at hk0 hR
  subst hk0
  have hbl := hl _ (List.getElem_mem hj)
  obtain ⟨adV, cV, rfl, hleV⟩ := htv.shape
  refine ch_enter Tryz.func248 rfl Tryz.ntmps248 rfl hok hav hnd ?_
  refine cd_draw' [0] [0, 1, 2, 3, 5, 8] [0, 1, 2, 3, 4, 5, 6, 7, 8, 9] mixed (by kernel_rfl) ?_
  refine lo_pv rfl rfl (sk_js (Tr.refl _) [0] rfl) (pv_fieldAddr (off := 4) (r := 4) Tryz.underlying37 rfl (tiSl_impl_Tag).size rfl rfl rfl) rfl ?_
  refine lo_pv rfl rfl (sk_js (Tr.refl _) [0] rfl) (pv_ldo (i := 0) rfl Tryz.underlying35 rfl rfl rfl) rfl ?_
  refine lo_pv rfl rfl (sk_js (Tr.refl _) [0] rfl) (pv_move rfl) rfl ?_
  refine lo_pv rfl rfl (sk_js (Tr.refl _) [0] rfl) (pv_move rfl) rfl ?_
  refine lo_eff rfl rfl ?_
  refine ln_nilrow 5 1 ?_
  refine ln_append (i := 0) rfl Tryz.underlying22 tiuint8 rfl (by decide) rfl rfl (RS.src htv) (by simp only [maxLen]; omega) (by omega) rfl (k' := (us[k]'hj).2.length) (xs' := u8s (us[k]'hj).2) (by omega) (by simp) (fun vc hvc => ?_)
  refine ln_free1 (fun q h => by simpa using h) (fun s1 ht1 hK1 => ?_)
  have hcp : RSv s1 vc (us[k]'hj).2 := Known.rs hK1 (u8s_one _)
  clear hK1
  have htv := htv.mv ht1
  have hR := RUs.mv ht1 hR
  refine lo_back (sk_js ht1 [0] rfl) ?_
  refine lo_pv rfl rfl (sk_js ht1 [0] rfl) (pv_struct [(0, 1), (1, 1)] (l := [_, _]) rfl Tryz.underlying69 tiimpl_Tag (by kernel_rfl) rfl (by simp [okL, Nat.ble_eq, Value.cells, hvc.2])) rfl ?_
  refine lo_eff rfl rfl ?_
  refine ln_lit (vs := [_]) Tryz.underlying35 tiimpl_Tag rfl (by decide) rfl rfl rfl rfl rfl rfl (fun b1 => ?_)
  refine lo_back (sk_js ht1 [1] rfl) ?_
  refine lo_eff rfl rfl ?_
  refine ln_append (i := 2) rfl Tryz.underlying35 tiimpl_Tag rfl (by decide) rfl rfl (src_obj (j := 0) rfl rfl (by simp [flat, Value.cells, hvc.2])) (by first | omega | (simp only [maxLen]; omega)) (by first | omega | (simp only [maxLen]; omega)) rfl (k' := (k + 1)) (xs' := cs ++ [.int .u32 ((us[k]'hj).1 : Int), vc]) rfl (by simp [flat, Value.cells]) (fun v1 hv1 => ?_)
  refine lo_back (sk_js ht1 [1] rfl) ?_
  refine lo_pv rfl rfl (sk_js ht1 [1] rfl) (pv_fieldAddr (off := 4) (r := 4) Tryz.underlying37 rfl (tiSl_impl_Tag).size rfl rfl rfl) rfl ?_
  refine lo_eff rfl rfl ?_
  refine ln_store1 (i := 1) rfl rfl rfl hv1.2 (tiSl_impl_Tag).size rfl ?_
  refine lo_last (by kernel_rfl) ?_
  refine lo_nil ?_
  refine at_retH0 [TA b3 c0 c1 c2 c3 (v1, cs ++ [.int .u32 ((us[k]'hj).1 : Int), vc], k + 1), TB (v1, cs ++ [.int .u32 ((us[k]'hj).1 : Int), vc], k + 1)] (.cons _ (.cons_cons _ (.cons_cons _ .slnil))) rfl (fun w hS => ⟨(v1, cs ++ [.int .u32 ((us[k]'hj).1 : Int), vc], k + 1), rfl, fun w2 hw2 => ⟨rfl, ?_⟩⟩)
  rw [take_snoc' hj]
  have hq := (hS.trFinH _ _).trans hw2
  exact RUs.append (RUs.mv hq hR) (RUs.one_ (hk _ (List.getElem_mem hj)) (RSv.mv hcp hq))
theorem tlT_ConsumerGroupHeartbeatResponseAssignment (y : Tre) : tlT F_sConsumerGroupHeartbeatResponseAssignment y = .mk 0 [] false [.mk 0 [] (y.at_ 0).z ((els (y.at_ 0)).map (tlT F_sConsumerGroupHeartbeatResponseAssignmentTopic)) []] y.u := rfl
set_option maxHeartbeats 2000000 in
theorem tell_ConsumerGroupHeartbeatResponseAssignment (t : Vw) (b o : Nat) (y : Tre) (cells : List Value) (hrc : RC t b o cells) (hM : RMp t F_sConsumerGroupHeartbeatResponseAssignment y cells) (htg : tgT F_sConsumerGroupHeartbeatResponseAssignment y) : CA Tryz.prog 222 [.pointer (some ⟨b, o, none⟩)] t fun u r => ∃ ds, r = .agg ds.toArray ∧ RT u (tlT F_sConsumerGroupHeartbeatResponseAssignment y) ds := by
  rw [tlT_ConsumerGroupHeartbeatResponseAssignment]
  obtain ⟨⟨hsrt, hkeys, hlens, hlen⟩, htl⟩ := htg
  simp only [F_sConsumerGroupHeartbeatResponseAssignment, tgL] at htl
  obtain ⟨qg0, _⟩ := htl
  obtain ⟨fc1, mv1, hce1, hfl1, hTg1⟩ := hM
  simp only [F_sConsumerGroupHeartbeatResponseAssignment, RMl] at hfl1
  obtain ⟨x1_0, z1_0, e1_0, g1_0, hend1⟩ := hfl1
  obtain ⟨_, rfl, Gg1_0⟩ := RMf_list.1 g1_0
  obtain ⟨ad1_0, cap1_0, rfl, hnil1_0, Hg1_0⟩ := Gg1_0.els
  subst hend1
  subst e1_0
  rw [hce1] at hrc
  simp only [List.cons_append, List.nil_append, List.append_assoc] at hrc
  have hLs_0 := LsF.of Hg1_0
  have hll_0 : (els (y.at_ 0)).length ≤ 32767 := (tgF_list.1 qg0).1
  obtain ⟨lt, hMK, hRK⟩ := hTg1
  have hrt : RC1 t b (o + 1) mv1 := hrc.sub 1 (c1 := [_]) (c2 := [mv1]) (c3 := []) rfl rfl
  have hrc : RCx t b o _ _ := hrc
  refine ca_enter Tryz.func222 rfl Tryz.ntmps222 rfl ?_
  refine cd_sr ?_
  refine ln_alloc tiimpl_Tree rfl rfl (fun b1 => ?_)
  refine ln_cd ?_
  refine cd_sr ?_
  refine ln_makeN (m := 1) (l := [.int .i64 0, .slice none 0 0, .bool false, .slice none 0 0, .slice none 0 0]) Tryz.underlying34 tiimpl_Tree rfl rfl (by kernel_rfl) (by decide) (by decide) rfl (fun bL => ?_)
  refine ln_pv (pv_struct [(0, 1), (1, 1), (2, 1), (3, 1), (4, 1)] (l := [_, _, _, _, _]) rfl Tryz.underlying37 tiimpl_Tree (by kernel_rfl) rfl rfl) rfl ?_
  refine ln_alloc tiimpl_Tree rfl rfl (fun b2 => ?_)
  refine ln_storeW (i := 0) rfl rfl rfl rfl (tiimpl_Tree).size rfl (by simp []) ?_
  refine ln_cd ?_
  refine cd_dr' [0, 1, 2] [0, 1, 2, 3, 4, 5, 6, 8] [0, 1, 2, 3, 4, 5, 6, 7, 8, 9] mixed (by kernel_rfl) ?_
  refine lo_pv rfl rfl (sk_js (Tr.refl _) [0, 1, 2] rfl) (pv_fieldAddr (off := 3) (r := 3) Tryz.underlying37 rfl (tiSl_impl_Tree).size rfl rfl rfl) rfl ?_
  refine lo_pv rfl rfl (sk_js (Tr.refl _) [0, 1, 2] rfl) (pv_ldo (i := 0) rfl Tryz.underlying34 rfl rfl rfl) rfl ?_
  refine lo_pv rfl rfl (sk_js (Tr.refl _) [0, 1, 2] rfl) (pv_move rfl) rfl ?_
  refine lo_pv rfl rfl (sk_js (Tr.refl _) [0, 1, 2] rfl) (pv_nilCheck rfl) rfl ?_
  refine lo_pv rfl rfl (sk_js (Tr.refl _) [0, 1, 2] rfl) (pv_fieldAddr (off := 0)  Tryz.underlying227 rfl (tiSl_kmsg_ConsumerGroupHeartbeatResponseAssignmentTopic).size rfl rfl rfl) rfl ?_
  refine lo_pv rfl rfl (sk_js (Tr.refl _) [0, 1, 2] rfl) (pv_ldr (j := 0) hrc Tryz.underlying225 rfl rfl rfl) rfl ?_
  refine lo_pv rfl rfl (sk_js (Tr.refl _) [0, 1, 2] rfl) (pv_eqS Tryz.underlying225 rfl rfl) rfl ?_
  refine lo_eff rfl rfl ?_
  refine ln_pv (pv_ixN (o := 0) (i := 0) Tryz.underlying34 (tiimpl_Tree).size rfl rfl (by decide)) rfl ?_
  refine lo_back (sk_js (Tr.refl _) [0, 1, 2] rfl) ?_
  refine lo_pv rfl rfl (sk_js (Tr.refl _) [0, 1, 2] rfl) (pv_fieldAddr (off := 2) (r := 2) Tryz.underlying37 rfl (tibool).size rfl rfl rfl) rfl ?_
  refine lo_eff rfl rfl ?_
  refine ln_store1 (i := 1) rfl rfl rfl rfl (tibool).size rfl ?_
  refine lo_last (by kernel_rfl) ?_
  refine lo_cd ?_
  refine cd_seq ?_
  refine cd_nilrow 37 5 ?_
  refine cd_sr ?_
  refine ln_pv (pv_move rfl) rfl ?_
  refine ln_pv (pv_nilCheck rfl) rfl ?_
  refine ln_pv (pv_fieldAddr (off := 0)  Tryz.underlying227 rfl (tiSl_kmsg_ConsumerGroupHeartbeatResponseAssignmentTopic).size rfl rfl rfl) rfl ?_
  refine ln_pv (pv_ldr (j := 0) hrc Tryz.underlying225 rfl rfl rfl) rfl ?_
  refine ln_pv (pv_len_slice Tryz.underlying225 rfl) rfl ?_
  refine ln_pv (pv_move rfl) rfl ?_
  refine ln_cd ?_
  refine cd_block ?_
  refine cd_loop (⟨fun (z : Nat × List Value × Value) => [(0, .pointer (some ⟨b, o, none⟩)), (2, .pointer (some ⟨b1, 0, none⟩)), (3, .pointer (some ⟨b2, 0, none⟩)), (20, .int .i64 ((els (y.at_ 0)).length : Int)), (21, .int .i64 ((z.1 : Nat) : Int))], fun (z : Nat × List Value × Value) => [.row z.2.2 37 5 ((els (y.at_ 0)).take z.1).length z.2.1, .obj b2 (.cells [.int .i64 0, .slice none 0 0, .bool false, .slice (some ⟨bL, 0, none⟩) 1 1, .slice none 0 0].toArray 37), .obj bL (.cells [.int .i64 0, .slice none 0 0, .bool ad1_0.isNone, z.2.2, .slice none 0 0].toArray 37), .obj b1 (.cells [.int .i64 0, .slice none 0 0, .bool false, .slice none 0 0, .slice none 0 0].toArray 37)], fun (z : Nat × List Value × Value) s => z.1 ≤ (els (y.at_ 0)).length ∧ RTs s (((els (y.at_ 0)).take z.1).map (tlT F_sConsumerGroupHeartbeatResponseAssignmentTopic)) z.2.1, fun (z : Nat × List Value × Value) => (els (y.at_ 0)).length - z.1⟩ : Lp (Nat × List Value × Value)) (0, [], .slice none 0 0) ?_ ?_ ?_ ?_
  · intro s0 hs0
    exact ⟨Nat.zero_le _, rfl⟩
  · exact ⟨rfl, rfl, rfl, rfl, rfl,  trivial⟩
  · exact (.cons_cons _ (.cons_cons _ (.cons_cons _ (.cons_cons _ .slnil))))
  intro z s1 hl1 hI
  obtain ⟨i_0, ys_0, vv_0⟩ := z
  dsimp only at hI ⊢
  have hrc := hrc.mv hl1
  have hrt := hrt.mv hl1
  have hMK := hMK.mv hl1
  have hRK := hRK.mv hl1
  have hLs_0 := hLs_0.mv hl1
  obtain ⟨hI_0, hIr_0⟩ := hI
  refine cd_sr ?_
  refine ln_pv (pv_lss rfl rfl) rfl ?_
  refine ln_cd ?_
  refine cd_seq ?_
  refine cd_if rfl (fun hc1 => ?_) (fun hc1 => ?_)
  · -- yes
    refine cd_skip ?_
    refine at_cd ?_
    refine cd_seq ?_
    refine cd_block ?_
    have hi_0 : i_0 < (els (y.at_ 0)).length := by omega
    have hsl_0 : ((els (y.at_ 0)).take (i_0 + 1)).length = ((els (y.at_ 0)).take i_0).length + 1 := by simp only [List.length_take]; omega
    have hil_0 : ((els (y.at_ 0)).take i_0).length = i_0 := by rw [List.length_take]; omega
    obtain ⟨gE_0, oE_0, cE_0, hadE_0, hrce_0, hme_0⟩ := hLs_0.at_ hi_0 (show esl _ _ = 18 by kernel_rfl)
    subst hadE_0
    have hme_0 := RE_part hme_0
    have htge_0 : tgT F_sConsumerGroupHeartbeatResponseAssignmentTopic (els (y.at_ 0))[i_0] := by have h := (tgF_list.1 qg0).2 _ (List.getElem_mem hi_0); rw [if_pos rfl] at h; exact h
    refine cd_sr ?_
    refine ln_pv (pv_move rfl) rfl ?_
    refine ln_pv (pv_assign rfl) rfl ?_
    refine ln_cd ?_
    refine cd_dr3 [1, 2, 3] [] [0] 1 2 [2, 3] [1, 3] mixed (by kernel_rfl) ?_
    refine lo_eff rfl rfl ?_
    refine ln_alloc tibool rfl rfl (fun b3 => ?_)
    refine lo_last (by kernel_rfl) ?_
    refine lo_nil (at_two ?_ ?_)
    · skip
      refine lo_eff rfl rfl ?_
      refine ln_store1 (i := 0) rfl rfl rfl rfl (tibool).size rfl ?_
      refine lo_last (by kernel_rfl) ?_
      refine lo_eff rfl rfl ?_
      refine ln_store1 (i := 0) rfl rfl rfl rfl (tibool).size rfl ?_
      refine lo_last (by kernel_rfl) ?_
      refine lo_eff rfl rfl ?_
      refine ln_pv (pv_ldo (i := 0) rfl Tryz.underlying4 rfl rfl rfl) rfl ?_
      refine lo_last (by kernel_rfl) ?_
      refine lo_cd ?_
      refine cd_ff rfl ?_
      refine cd_draw' [0, 2, 3, 4] [0, 1, 2, 3, 4, 5, 6, 7, 8, 9, 10, 11, 12, 17] [0, 1, 2, 3, 4, 5, 6, 7, 8, 9, 10, 11, 12, 13, 14, 15, 16, 17, 18] mixed (by kernel_rfl) ?_
      refine lo_pv rfl rfl (sk_js (Tr.refl _) [0, 2, 3, 4] rfl) (pv_fieldAddr (off := 3) (r := 3) Tryz.underlying37 rfl (tiSl_impl_Tree).size rfl rfl rfl) rfl ?_
      refine lo_pv rfl rfl (sk_js (Tr.refl _) [0, 2, 3, 4] rfl) (pv_ldo (i := 1) rfl Tryz.underlying34 rfl rfl rfl) rfl ?_
      refine lo_pv rfl rfl (sk_js (Tr.refl _) [0, 2, 3, 4] rfl) (pv_fieldAddr (off := 3) (r := 3) Tryz.underlying37 rfl (tiSl_impl_Tree).size rfl rfl rfl) rfl ?_
      refine lo_pv rfl rfl (sk_js (Tr.refl _) [0, 2, 3, 4] rfl) (pv_ldo (i := 1) rfl Tryz.underlying34 rfl rfl rfl) rfl ?_
      refine lo_pv rfl rfl (sk_js (Tr.refl _) [0, 2, 3, 4] rfl) (pv_ixN (o := 0) (i := 0) Tryz.underlying34 (tiimpl_Tree).size rfl rfl (by decide)) rfl ?_
      refine lo_pv rfl rfl (sk_js (Tr.refl _) [0, 2, 3, 4] rfl) (pv_fieldAddr (off := 3) (r := 3) Tryz.underlying37 rfl (tiSl_impl_Tree).size rfl rfl rfl) rfl ?_
      refine lo_pv rfl rfl (sk_js (Tr.refl _) [0, 2, 3, 4] rfl) (pv_ldo (i := 2) rfl Tryz.underlying34 rfl rfl rfl) rfl ?_
      refine lo_pv rfl rfl (sk_js (Tr.refl _) [0, 2, 3, 4] rfl) (pv_move rfl) rfl ?_
      refine lo_pv rfl rfl (sk_js (Tr.refl _) [0, 2, 3, 4] rfl) (pv_nilCheck rfl) rfl ?_
      refine lo_pv rfl rfl (sk_js (Tr.refl _) [0, 2, 3, 4] rfl) (pv_fieldAddr (off := 0)  Tryz.underlying227 rfl (tiSl_kmsg_ConsumerGroupHeartbeatResponseAssignmentTopic).size rfl rfl rfl) rfl ?_
      refine lo_pv rfl rfl (sk_js (Tr.refl _) [0, 2, 3, 4] rfl) (pv_ldr (j := 0) hrc Tryz.underlying225 rfl rfl rfl) rfl ?_
      refine lo_pv rfl rfl (sk_js (Tr.refl _) [0, 2, 3, 4] rfl) (pv_move rfl) rfl ?_
      refine lo_pv rfl rfl (sk_js (Tr.refl _) [0, 2, 3, 4] rfl) (pv_ixN Tryz.underlying225 (tipub_kmsg_ConsumerGroupHeartbeatResponseAssignmentTopic).size rfl rfl hi_0) rfl ?_
      refine lo_eff rfl rfl ?_
      refine ln_callA en_247 rfl (fun u hu => tell_ConsumerGroupHeartbeatResponseAssignmentTopic u gE_0 (oE_0 + i_0 * 18) (els (y.at_ 0))[i_0] cE_0 (hrce_0.mv hu).2 (RMp.mv hme_0 hu) htge_0) rfl (fun u1 v1 ht1 hR1 => ?_)
      have hrc := hrc.mv ht1
      have hrt := hrt.mv ht1
      have hMK := hMK.mv ht1
      have hRK := hRK.mv ht1
      have hLs_0 := hLs_0.mv ht1
      have hIr_0 := hIr_0.mv ht1
      have hrce_0 := hrce_0.mv ht1
      have hme_0 := hme_0.mv ht1
      obtain ⟨dsF0, rfl, hdF0⟩ := hR1
      refine lo_back (sk_js ht1 [0, 2, 3, 4] rfl) ?_
      refine lo_eff rfl rfl ?_
      refine ln_lit (vs := [_]) Tryz.underlying34 tiimpl_Tree rfl (by decide) rfl rfl rfl (by simp [partsOk, Value.cells, hdF0.len]; try exact .inl rfl) rfl rfl (fun b4 => ?_)
      refine lo_back (sk_js ht1 [1, 3, 4, 5] rfl) ?_
      refine lo_eff rfl rfl ?_
      refine ln_append (i := 2) rfl Tryz.underlying34 tiimpl_Tree rfl (by decide) rfl rfl (src_obj (j := 0) rfl (by simp [flat, Value.cells, hdF0.len]) (List.all_eq_true.2 (by simpa [flat, Value.cells] using hdF0.cells))) (by rw [hil_0]; first | omega | (simp only [maxLen]; omega)) (by rw [hil_0]; first | omega | (simp only [maxLen]; omega)) rfl (k' := ((els (y.at_ 0)).take (i_0 + 1)).length) (xs' := ys_0 ++ dsF0) hsl_0.symm (by simp [flat, Value.cells]) (fun v2 hv2 => ?_)
      refine lo_back (sk_js ht1 [1, 3, 4, 5] rfl) ?_
      refine lo_eff rfl rfl ?_
      refine ln_pv (pv_ixN (o := 0) (i := 0) Tryz.underlying34 (tiimpl_Tree).size rfl rfl (by decide)) rfl ?_
      refine lo_back (sk_js ht1 [1, 3, 4, 5] rfl) ?_
      refine lo_pv rfl rfl (sk_js ht1 [1, 3, 4, 5] rfl) (pv_fieldAddr (off := 3) (r := 3) Tryz.underlying37 rfl (tiSl_impl_Tree).size rfl rfl rfl) rfl ?_
      refine lo_eff rfl rfl ?_
      refine ln_store1 (i := 4) rfl rfl rfl hv2.2 (tiSl_impl_Tree).size rfl ?_
      refine lo_last (by kernel_rfl) ?_
      refine lo_nil ?_
      refine at_cd ?_
      refine cd_region ?_
      refine ln_pv (pv_add' rfl rfl (wrap_succ (by omega))) rfl ?_
      refine ln_pv (pv_move rfl) rfl ?_
      refine ln_nil ?_
      refine at_rnd (i_0 + 1, ys_0 ++ dsF0, v2) (hl1.trans ht1) ?_ ?_ ⟨rfl, rfl, rfl, rfl, rfl,  trivial⟩ (.cons _ (.cons _ (.cons_cons _ (.cons_cons _ (.cons_cons _ (.cons_cons _ .slnil))))))
      · intro s9 hs9
        exact ⟨by dsimp only; omega, RTs_snoc hi_0 (RTs.mv hIr_0 hs9) (RT.mv hdF0 hs9)⟩
      · dsimp only; omega
    · skip
      refine lo_eff rfl rfl ?_
      refine ln_store1 (i := 0) rfl rfl rfl rfl (tibool).size rfl ?_
      refine lo_last (by kernel_rfl) ?_
      refine lo_eff rfl rfl ?_
      refine ln_store1 (i := 0) rfl rfl rfl rfl (tibool).size rfl ?_
      refine lo_last (by kernel_rfl) ?_
      refine lo_eff rfl rfl ?_
      refine ln_pv (pv_ldo (i := 0) rfl Tryz.underlying4 rfl rfl rfl) rfl ?_
      refine lo_last (by kernel_rfl) ?_
      refine lo_cd ?_
      refine cd_tt rfl ?_
      refine cd_rowshape (i := 1) rfl (fun adR_0 cpR_0 hvR_0 hleR_0 hposR_0 => ?_)
      subst hvR_0
      refine cd_dr2 [0, 2, 3, 4] [0, 1, 2, 3, 4, 5, 6, 7, 8, 9, 10, 12, 16] [0, 1, 2, 3, 4, 5, 6, 7, 8, 9, 10, 12] 11 13 [13, 14, 15, 16, 17] [11, 14, 15, 16, 17] mixed (by kernel_rfl) ?_
      refine lo_pv rfl rfl (sk_js (Tr.refl _) [0, 2, 3, 4] rfl) (pv_fieldAddr (off := 3) (r := 3) Tryz.underlying37 rfl (tiSl_impl_Tree).size rfl rfl rfl) rfl ?_
      refine lo_pv rfl rfl (sk_js (Tr.refl _) [0, 2, 3, 4] rfl) (pv_ldo (i := 1) rfl Tryz.underlying34 rfl rfl rfl) rfl ?_
      refine lo_pv rfl rfl (sk_js (Tr.refl _) [0, 2, 3, 4] rfl) (pv_ixN (o := 0) (i := 0) Tryz.underlying34 (tiimpl_Tree).size rfl rfl (by decide)) rfl ?_
      refine lo_pv rfl rfl (sk_js (Tr.refl _) [0, 2, 3, 4] rfl) (pv_fieldAddr (off := 3) (r := 3) Tryz.underlying37 rfl (tiSl_impl_Tree).size rfl rfl rfl) rfl ?_
      refine lo_pv rfl rfl (sk_js (Tr.refl _) [0, 2, 3, 4] rfl) (pv_ldo (i := 2) rfl Tryz.underlying34 rfl rfl rfl) rfl ?_
      refine lo_pv rfl rfl (sk_js (Tr.refl _) [0, 2, 3, 4] rfl) (pv_move rfl) rfl ?_
      refine lo_pv rfl rfl (sk_js (Tr.refl _) [0, 2, 3, 4] rfl) (pv_nilCheck rfl) rfl ?_
      refine lo_pv rfl rfl (sk_js (Tr.refl _) [0, 2, 3, 4] rfl) (pv_fieldAddr (off := 0)  Tryz.underlying227 rfl (tiSl_kmsg_ConsumerGroupHeartbeatResponseAssignmentTopic).size rfl rfl rfl) rfl ?_
      refine lo_pv rfl rfl (sk_js (Tr.refl _) [0, 2, 3, 4] rfl) (pv_ldr (j := 0) hrc Tryz.underlying225 rfl rfl rfl) rfl ?_
      refine lo_pv rfl rfl (sk_js (Tr.refl _) [0, 2, 3, 4] rfl) (pv_move rfl) rfl ?_
      refine lo_pv rfl rfl (sk_js (Tr.refl _) [0, 2, 3, 4] rfl) (pv_ixN Tryz.underlying225 (tipub_kmsg_ConsumerGroupHeartbeatResponseAssignmentTopic).size rfl rfl hi_0) rfl ?_
      refine lo_pv rfl rfl (sk_js (Tr.refl _) [0, 2, 3, 4] rfl) (pv_len_slice Tryz.underlying34 rfl) rfl ?_
      refine lo_nil (at_two ?_ ?_)
      · skip
        refine lo_eff rfl rfl ?_
        refine ln_callA en_247 rfl (fun u hu => tell_ConsumerGroupHeartbeatResponseAssignmentTopic u gE_0 (oE_0 + i_0 * 18) (els (y.at_ 0))[i_0] cE_0 (hrce_0.mv hu).2 (RMp.mv hme_0 hu) htge_0) rfl (fun u3 v3 ht3 hR3 => ?_)
        have hrc := hrc.mv ht3
        have hrt := hrt.mv ht3
        have hMK := hMK.mv ht3
        have hRK := hRK.mv ht3
        have hLs_0 := hLs_0.mv ht3
        have hIr_0 := hIr_0.mv ht3
        have hrce_0 := hrce_0.mv ht3
        have hme_0 := hme_0.mv ht3
        obtain ⟨dsF0, rfl, hdF0⟩ := hR3
        refine lo_back (sk_js ht3 [0, 2, 3, 4] rfl) ?_
        refine lo_eff rfl rfl ?_
        refine ln_lit (vs := [_]) Tryz.underlying34 tiimpl_Tree rfl (by decide) rfl rfl rfl rfl rfl rfl (fun b5 => ?_)
        refine lo_back (sk_js ht3 [1, 3, 4, 5] rfl) ?_
        refine lo_eff rfl rfl ?_
        refine ln_append (i := 2) rfl Tryz.underlying34 tiimpl_Tree rfl (by decide) rfl rfl (src_obj (j := 0) rfl rfl rfl) (by rw [hil_0]; first | omega | (simp only [maxLen]; omega)) (by rw [hil_0]; first | omega | (simp only [maxLen]; omega)) rfl (k' := ((els (y.at_ 0)).take (i_0 + 1)).length) (xs' := ys_0 ++ [.int .i64 0, .slice none 0 0, .bool false, .slice none 0 0, .slice none 0 0]) hsl_0.symm (by simp [flat, Value.cells]) (fun v4 hv4 => ?_)
        refine lo_back (sk_js ht3 [1, 3, 4, 5] rfl) ?_
        refine lo_eff rfl rfl ?_
        refine ln_pv (pv_ixN (o := 0) (i := 0) Tryz.underlying34 (tiimpl_Tree).size rfl rfl (by decide)) rfl ?_
        refine lo_back (sk_js ht3 [1, 3, 4, 5] rfl) ?_
        refine lo_pv rfl rfl (sk_js ht3 [1, 3, 4, 5] rfl) (pv_fieldAddr (off := 3) (r := 3) Tryz.underlying37 rfl (tiSl_impl_Tree).size rfl rfl rfl) rfl ?_
        refine lo_eff rfl rfl ?_
        refine ln_store1 (i := 4) rfl rfl rfl hv4.2 (tiSl_impl_Tree).size rfl ?_
        refine lo_last (by kernel_rfl) ?_
        refine lo_cd ?_
        refine cd_region ?_
        refine ln_rowshp (i := 2) rfl (fun ad2_0 cp2_0 hv2_0 hle2_0 hpos2_0 => ?_)
        subst hv2_0
        obtain ⟨g2_0, rfl⟩ := hpos2_0 (by omega)
        refine ln_pv (pv_ixN Tryz.underlying34 tiimpl_Tree.size rfl rfl (by omega)) rfl ?_
        refine ln_storeR (i := 2) (vs := dsF0) (xs' := ys_0 ++ dsF0) rfl rfl rfl rfl (by rw [show List.length _ = 5 from hdF0.len]; exact tiimpl_Tree.size) (by have h5 : List.length (dsF0) = 5 := hdF0.len; omega) hdF0.cells (wr_end (show 5 = List.length _ from Eq.symm hdF0.len) (by have h6 := (RTs.len5 hIr_0); simp only [List.length_map] at h6; omega)) ?_
        refine ln_nil ?_
        refine at_cd ?_
        refine cd_region ?_
        refine ln_pv (pv_add' rfl rfl (wrap_succ (by omega))) rfl ?_
        refine ln_pv (pv_move rfl) rfl ?_
        refine ln_nil ?_
        refine at_rnd (i_0 + 1, ys_0 ++ dsF0, (.slice (some ⟨g2_0, 0, none⟩) ((els (y.at_ 0)).take (i_0 + 1)).length cp2_0)) (hl1.trans ht3) ?_ ?_ ⟨rfl, rfl, rfl, rfl, rfl,  trivial⟩ (.cons _ (.cons _ (.cons_cons _ (.cons_cons _ (.cons_cons _ (.cons_cons _ .slnil))))))
        · intro s9 hs9
          exact ⟨by dsimp only; omega, RTs_snoc hi_0 (RTs.mv hIr_0 hs9) (RT.mv hdF0 hs9)⟩
        · dsimp only; omega
      · skip
        refine lo_eff rfl rfl ?_
        refine ln_lit (vs := [_]) Tryz.underlying34 tiimpl_Tree rfl (by decide) rfl rfl rfl rfl rfl rfl (fun b6 => ?_)
        refine lo_back (sk_js (Tr.refl _) [1, 3, 4, 5] rfl) ?_
        refine lo_eff rfl rfl ?_
        refine ln_callA en_247 rfl (fun u hu => tell_ConsumerGroupHeartbeatResponseAssignmentTopic u gE_0 (oE_0 + i_0 * 18) (els (y.at_ 0))[i_0] cE_0 (hrce_0.mv hu).2 (RMp.mv hme_0 hu) htge_0) rfl (fun u6 v6 ht6 hR6 => ?_)
        have hrc := hrc.mv ht6
        have hrt := hrt.mv ht6
        have hMK := hMK.mv ht6
        have hRK := hRK.mv ht6
        have hLs_0 := hLs_0.mv ht6
        have hIr_0 := hIr_0.mv ht6
        have hrce_0 := hrce_0.mv ht6
        have hme_0 := hme_0.mv ht6
        obtain ⟨dsF0, rfl, hdF0⟩ := hR6
        refine lo_back (sk_js ht6 [1, 3, 4, 5] rfl) ?_
        refine lo_eff rfl rfl ?_
        refine ln_append (i := 2) rfl Tryz.underlying34 tiimpl_Tree rfl (by decide) rfl rfl (src_obj (j := 0) rfl rfl rfl) (by rw [hil_0]; first | omega | (simp only [maxLen]; omega)) (by rw [hil_0]; first | omega | (simp only [maxLen]; omega)) rfl (k' := ((els (y.at_ 0)).take (i_0 + 1)).length) (xs' := ys_0 ++ [.int .i64 0, .slice none 0 0, .bool false, .slice none 0 0, .slice none 0 0]) hsl_0.symm (by simp [flat, Value.cells]) (fun v7 hv7 => ?_)
        refine lo_back (sk_js ht6 [1, 3, 4, 5] rfl) ?_
        refine lo_eff rfl rfl ?_
        refine ln_pv (pv_ixN (o := 0) (i := 0) Tryz.underlying34 (tiimpl_Tree).size rfl rfl (by decide)) rfl ?_
        refine lo_back (sk_js ht6 [1, 3, 4, 5] rfl) ?_
        refine lo_pv rfl rfl (sk_js ht6 [1, 3, 4, 5] rfl) (pv_fieldAddr (off := 3) (r := 3) Tryz.underlying37 rfl (tiSl_impl_Tree).size rfl rfl rfl) rfl ?_
        refine lo_eff rfl rfl ?_
        refine ln_store1 (i := 4) rfl rfl rfl hv7.2 (tiSl_impl_Tree).size rfl ?_
        refine lo_last (by kernel_rfl) ?_
        refine lo_cd ?_
        refine cd_region ?_
        refine ln_rowshp (i := 2) rfl (fun ad2_0 cp2_0 hv2_0 hle2_0 hpos2_0 => ?_)
        subst hv2_0
        obtain ⟨g2_0, rfl⟩ := hpos2_0 (by omega)
        refine ln_pv (pv_ixN Tryz.underlying34 tiimpl_Tree.size rfl rfl (by omega)) rfl ?_
        refine ln_storeR (i := 2) (vs := dsF0) (xs' := ys_0 ++ dsF0) rfl rfl rfl rfl (by rw [show List.length _ = 5 from hdF0.len]; exact tiimpl_Tree.size) (by have h5 : List.length (dsF0) = 5 := hdF0.len; omega) hdF0.cells (wr_end (show 5 = List.length _ from Eq.symm hdF0.len) (by have h6 := (RTs.len5 hIr_0); simp only [List.length_map] at h6; omega)) ?_
        refine ln_nil ?_
        refine at_cd ?_
        refine cd_region ?_
        refine ln_pv (pv_add' rfl rfl (wrap_succ (by omega))) rfl ?_
        refine ln_pv (pv_move rfl) rfl ?_
        refine ln_nil ?_
        refine at_rnd (i_0 + 1, ys_0 ++ dsF0, (.slice (some ⟨g2_0, 0, none⟩) ((els (y.at_ 0)).take (i_0 + 1)).length cp2_0)) (hl1.trans ht6) ?_ ?_ ⟨rfl, rfl, rfl, rfl, rfl,  trivial⟩ (.cons _ (.cons _ (.cons_cons _ (.cons_cons _ (.cons_cons _ (.cons_cons _ .slnil))))))
        · intro s9 hs9
          exact ⟨by dsimp only; omega, RTs_snoc hi_0 (RTs.mv hIr_0 hs9) (RT.mv hdF0 hs9)⟩
        · dsimp only; omega
  · -- no
    refine cd_exit rfl ?_
    refine at_cd ?_
    have hq_0 : i_0 = (els (y.at_ 0)).length := by omega
    subst hq_0
    rw [List.take_length] at hIr_0
    refine cd_row (i := 0) (m' := ((els (y.at_ 0)).map (tlT F_sConsumerGroupHeartbeatResponseAssignmentTopic)).length) (xs' := ys_0) rfl (by simp) rfl ?_
    refine cd_sr ?_
    refine ln_pv (pv_move rfl) rfl ?_
    refine ln_pv (pv_nilCheck rfl) rfl ?_
    refine ln_pv (pv_fieldAddr (off := 1)  Tryz.underlying227 rfl (tipub_kmsg_Tags).size rfl rfl rfl) rfl ?_
    refine ln_pv (pv_makeFunc (vf := #[]) (vc := #[.pointer (some ⟨b2, 0, none⟩)]) (by rw [List.map_toArray, List.map_toArray]; rfl) (by rw [List.map_toArray, List.map_toArray]; rfl)) rfl ?_
    refine ln_nilrow 69 2 ?_
    have hst := tclo_ConsumerGroupHeartbeatResponseAssignment b2 (.int .i64 0) (.slice none 0 0) (.bool false) (.slice (some ⟨bL, 0, none⟩) 1 1) y.u hkeys hlens (Nat.le_of_lt hlen)
    have hEa := fun (u : Vw) hr hm hk h0 hok hav hnd => tags_EachG (fun z => TA b2 (.int .i64 0) (.slice none 0 0) (.bool false) (.slice (some ⟨bL, 0, none⟩) 1 1) z) TB (TInv y.u) 248 (.pointer (some ⟨b2, 0, none⟩)) en_248 u b (o + 1) mv1 lt y.u (.slice none 0 0, [], 0) hr hm hk hsrt (by omega) h0 hst hok hav hnd
    refine ln_callH (E := [TA b2 (.int .i64 0) (.slice none 0 0) (.bool false) (.slice (some ⟨bL, 0, none⟩) 1 1) (.slice none 0 0, [], 0), TB (.slice none 0 0, [], 0)]) (H0 := [_, _, _]) (List.perm_middle (l₁ := [_, _])) en_125 rfl (fun u hu hok hav hnd => hEa u (RC1.mv hrt hu) (hMK.mv hu) (RK.mv hu hRK) (fun w hw => ⟨rfl, by rw [List.take_zero]; rfl⟩) hok hav hnd) rfl ?_
    rintro u9 v9 _ ht9 ⟨xu9, ⟨⟨vU, csU, kU⟩, rfl, hzU⟩, hxu9⟩
    obtain ⟨hkU, hRU⟩ := (hzU.mv hxu9).get
    dsimp only at hkU hRU
    subst hkU
    rw [List.take_length] at hRU
    have hrc := hrc.mv ht9
    have hrt := hrt.mv ht9
    have hMK := hMK.mv ht9
    have hRK := hRK.mv ht9
    have hLs_0 := hLs_0.mv ht9
    have hIr_0 := hIr_0.mv ht9
    refine ln_cd ?_
    refine cd_sr ?_
    refine ln_pv (pv_fieldAddr (off := 4) (r := 4) Tryz.underlying37 rfl (tiSl_impl_Tag).size rfl rfl rfl) rfl ?_
    refine ln_pv (pv_ldo (i := 0) rfl Tryz.underlying35 rfl rfl rfl) rfl ?_
    refine ln_callT (i := 1) en_127 rfl rfl (fun u hu hok hav => impl_sorted u vU y.u csU hsrt (by omega) (RUs.cells hRU).1 (fun i hi => by obtain ⟨c1, tv, c3, he, hc, _, _⟩ := RUs.at_ hi hRU; rw [he, List.append_assoc, List.getElem?_append_right (by omega), hc]; simp) hok hav) rfl ?_
    rintro u10 v10 _ ht10 ⟨_, rfl, _⟩
    have hrc := hrc.mv ht10
    have hrt := hrt.mv ht10
    have hMK := hMK.mv ht10
    have hRK := hRK.mv ht10
    have hLs_0 := hLs_0.mv ht10
    have hIr_0 := hIr_0.mv ht10
    have hRU := hRU.mv ht10
    refine ln_cd ?_
    refine cd_rowone (i := 1) rfl (fun hoU => ?_)
    refine cd_sr ?_
    refine ln_pv (pv_ldO (i := 0) rfl Tryz.underlying37 rfl (tiimpl_Tree).size rfl rfl) rfl ?_
    refine ln_storeW (i := 4) rfl rfl rfl rfl (tiimpl_Tree).size rfl (by simp [hoU]) ?_
    refine ln_cd ?_
    refine cd_ret ?_
    refine at_retC (i := 4) rfl rfl rfl Tryz.underlying37 rfl tiimpl_Tree.size rfl (fun w hS => ?_)
    have hRTs : RTs hS.fin [.mk 0 [] (y.at_ 0).z ((els (y.at_ 0)).map (tlT F_sConsumerGroupHeartbeatResponseAssignmentTopic)) []] _ := ⟨[_, _, _, _, _], _, rfl, RT_list hnil1_0 rfl (row_rs hS (j := 2) rfl (RTs.cells hIr_0)) (RTs.mv hIr_0 hS.trFin), rfl⟩
    refine ⟨_, rfl, RT.shut ⟨_, _, _, rfl, (show I64 0 from by unfold I64; omega), RS_nil 1, ⟨_, obj_rsS hS (i := 3) (sz := 5) (m := 1) rfl rfl (RTs.cells hRTs), hRTs⟩, ⟨csU, row_rs hS (j := 1) rfl (RUs.cells hRU).2, RUs.mv hS.trFin hRU⟩⟩⟩
theorem tellptr_ConsumerGroupHeartbeatResponseAssignment (t : Vw) (c : Value) (nul : Int) (y : Tre) (hy : RPt t F_sConsumerGroupHeartbeatResponseAssignment y c) (hn : nul ≥ 0) (hg : y.z = false → tgT F_sConsumerGroupHeartbeatResponseAssignment y) : CA Tryz.prog 167 [c] t fun u r => ∃ ds, r = .agg ds.toArray ∧ RT u (tlP nul F_sConsumerGroupHeartbeatResponseAssignment y) ds := by
  rcases hy with ⟨hz, rfl⟩ | ⟨hz, g, pc, rfl, hrc, hM⟩
  · rw [show tlP nul F_sConsumerGroupHeartbeatResponseAssignment y = .mk 0 [] true [] [] from if_pos ⟨hn, hz⟩]
    refine ca_enter Tryz.func167 rfl Tryz.ntmps167 rfl ?_
    refine cd_sr ?_
    refine ln_alloc tiimpl_Tree rfl rfl (fun b1 => ?_)
    refine ln_cd ?_
    refine cd_seq ?_
    refine cd_sr ?_
    refine ln_pv (pv_move rfl) rfl ?_
    refine ln_pv (pv_eqP Tryz.underlying174 rfl rfl) rfl ?_
    refine ln_cd ?_
    refine cd_tt rfl ?_
    refine cd_sr ?_
    refine ln_pv (pv_struct [(0, 1), (1, 1), (2, 1), (3, 1), (4, 1)] (l := [_, _, _, _, _]) rfl Tryz.underlying37 tiimpl_Tree (by kernel_rfl) rfl rfl) rfl ?_
    refine ln_storeW (i := 0) rfl rfl rfl rfl (tiimpl_Tree).size rfl (by simp []) ?_
    refine ln_cd ?_
    refine cd_ret ?_
    refine at_retC (i := 0) rfl rfl rfl Tryz.underlying37 rfl tiimpl_Tree.size rfl (fun w hS => ?_)
    exact ⟨_, rfl, RT_str (RS_nil 1)⟩
  · rw [show tlP nul F_sConsumerGroupHeartbeatResponseAssignment y = tlT F_sConsumerGroupHeartbeatResponseAssignment y from if_neg (fun h => by rw [hz] at h; cases h.2)]
    have hrn : RCn t g 0 pc := ⟨fun hn => by obtain ⟨fc, mv, h, _⟩ := hM; rw [hn] at h; simp at h, hrc⟩
    refine ca_enter Tryz.func167 rfl Tryz.ntmps167 rfl ?_
    refine cd_sr ?_
    refine ln_alloc tiimpl_Tree rfl rfl (fun b1 => ?_)
    refine ln_cd ?_
    refine cd_seq ?_
    refine cd_sr ?_
    refine ln_pv (pv_move rfl) rfl ?_
    refine ln_pv (pv_eqP Tryz.underlying174 rfl rfl) rfl ?_
    refine ln_cd ?_
    refine cd_ff rfl ?_
    refine cd_skip ?_
    refine at_cd ?_
    refine cd_sr ?_
    refine ln_pv (pv_move rfl) rfl ?_
    refine ln_callA en_222 rfl (fun u hu => tell_ConsumerGroupHeartbeatResponseAssignment u g 0 y pc (hrn.mv hu).2 (RMp.mv hM hu) (hg hz)) rfl (fun u1 v1 ht1 hR1 => ?_)
    have hrn := hrn.mv ht1
    have hM := hM.mv ht1
    obtain ⟨dsF, rfl, hdF⟩ := hR1
    refine ln_storeW (i := 0) rfl rfl rfl rfl (tiimpl_Tree).size hdF.len hdF.cells ?_
    refine ln_cd ?_
    refine cd_ret ?_
    refine at_retC (i := 0) rfl rfl rfl Tryz.underlying37 rfl tiimpl_Tree.size hdF.len (fun w hS => ?_)
    exact ⟨_, rfl, RT.mv hdF hS.trFin⟩
theorem tclo_ConsumerGroupHeartbeatResponse (b3 : Nat) (c0 c1 c2 c3 : Value) (us : Tags) (hk : ∀ y ∈ us, y.1 < 4294967296) (hl : ∀ y ∈ us, y.2.length ≤ 4398046511104) (hlen : us.length ≤ 1099511627776) : ∀ j (hj : j < us.length) (u : Vw) (z : Value × List Value × Nat) (tv : Value), Iv (TInv us) j u z → RSv u tv (us[j]'hj).2 → HF [TA b3 c0 c1 c2 c3 z, TB z] u.w → (∀ q ∈ blks [TA b3 c0 c1 c2 c3 z, TB z], u.av q) → (blks [TA b3 c0 c1 c2 c3 z, TB z]).Nodup → CH Tryz.prog 168 [.int .u32 ((us[j]'hj).1 : Int), tv, .pointer (some ⟨b3, 0, none⟩)] u [TA b3 c0 c1 c2 c3 z, TB z] fun u r E' => ∃ z', E' = [TA b3 c0 c1 c2 c3 z', TB z'] ∧ Iv (TInv us) (j + 1) u z' := by
  rintro j hj u ⟨vU, cs, k⟩ tv hz htv hok hav hnd
  obtain ⟨hk0, hR⟩ := hz.get
  dsimp only at hk0 hR
  subst hk0
  have hbl := hl _ (List.getElem_mem hj)
  obtain ⟨adV, cV, rfl, hleV⟩ := htv.shape
  refine ch_enter Tryz.func168 rfl Tryz.ntmps168 rfl hok hav hnd ?_
  refine cd_draw' [0] [0, 1, 2, 3, 5, 8] [0, 1, 2, 3, 4, 5, 6, 7, 8, 9] mixed (by kernel_rfl) ?_
  refine lo_pv rfl rfl (sk_js (Tr.refl _) [0] rfl) (pv_fieldAddr (off := 4) (r := 4) Tryz.underlying37 rfl (tiSl_impl_Tag).size rfl rfl rfl) rfl ?_
  refine lo_pv rfl rfl (sk_js (Tr.refl _) [0] rfl) (pv_ldo (i := 0) rfl Tryz.underlying35 rfl rfl rfl) rfl ?_
  refine lo_pv rfl rfl (sk_js (Tr.refl _) [0] rfl) (pv_move rfl) rfl ?_
  refine lo_pv rfl rfl (sk_js (Tr.refl _) [0] rfl) (pv_move rfl) rfl ?_
  refine lo_eff rfl rfl ?_
  refine ln_nilrow 5 1 ?_
  refine ln_append (i := 0) rfl Tryz.underlying22 tiuint8 rfl (by decide) rfl rfl (RS.src htv) (by simp only [maxLen]; omega) (by omega) rfl (k' := (us[k]'hj).2.length) (xs' := u8s (us[k]'hj).2) (by omega) (by simp) (fun vc hvc => ?_)
  refine ln_free1 (fun q h => by simpa using h) (fun s1 ht1 hK1 => ?_)
  have hcp : RSv s1 vc (us[k]'hj).2 := Known.rs hK1 (u8s_one _)
  clear hK1
  have htv := htv.mv ht1
  have hR := RUs.mv ht1 hR
  refine lo_back (sk_js ht1 [0] rfl) ?_
  refine lo_pv rfl rfl (sk_js ht1 [0] rfl) (pv_struct [(0, 1), (1, 1)] (l := [_, _]) rfl Tryz.underlying69 tiimpl_Tag (by kernel_rfl) rfl (by simp [okL, Nat.ble_eq, Value.cells, hvc.2])) rfl ?_
  refine lo_eff rfl rfl ?_
  refine ln_lit (vs := [_]) Tryz.underlying35 tiimpl_Tag rfl (by decide) rfl rfl rfl rfl rfl rfl (fun b1 => ?_)
  refine lo_back (sk_js ht1 [1] rfl) ?_
  refine lo_eff rfl rfl ?_
  refine ln_append (i := 2) rfl Tryz.underlying35 tiimpl_Tag rfl (by decide) rfl rfl (src_obj (j := 0) rfl rfl (by simp [flat, Value.cells, hvc.2])) (by first | omega | (simp only [maxLen]; omega)) (by first | omega | (simp only [maxLen]; omega)) rfl (k' := (k + 1)) (xs' := cs ++ [.int .u32 ((us[k]'hj).1 : Int), vc]) rfl (by simp [flat, Value.cells]) (fun v1 hv1 => ?_)
  refine lo_back (sk_js ht1 [1] rfl) ?_
  refine lo_pv rfl rfl (sk_js ht1 [1] rfl) (pv_fieldAddr (off := 4) (r := 4) Tryz.underlying37 rfl (tiSl_impl_Tag).size rfl rfl rfl) rfl ?_
  refine lo_eff rfl rfl ?_
  refine ln_store1 (i := 1) rfl rfl rfl hv1.2 (tiSl_impl_Tag).size rfl ?_
  refine lo_last (by kernel_rfl) ?_
  refine lo_nil ?_
  refine at_retH0 [TA b3 c0 c1 c2 c3 (v1, cs ++ [.int .u32 ((us[k]'hj).1 : Int), vc], k + 1), TB (v1, cs ++ [.int .u32 ((us[k]'hj).1 : Int), vc], k + 1)] (.cons _ (.cons_cons _ (.cons_cons _ .slnil))) rfl (fun w hS => ⟨(v1, cs ++ [.int .u32 ((us[k]'hj).1 : Int), vc], k + 1), rfl, fun w2 hw2 => ⟨rfl, ?_⟩⟩)
  rw [take_snoc' hj]
  have hq := (hS.trFinH _ _).trans hw2
  exact RUs.append (RUs.mv hq hR) (RUs.one_ (hk _ (List.getElem_mem hj)) (RSv.mv hcp hq))
theorem tlT_ConsumerGroupHeartbeatResponse (y : Tre) : tlT F_ConsumerGroupHeartbeatResponse y = .mk 0 [] false [.mk (IntKind.i32.wrap (y.at_ 0).n) [] false [] [], .mk (IntKind.i16.wrap (y.at_ 1).n) [] false [] [], .mk 0 (if (y.at_ 2).z then [] else (y.at_ 2).s) (y.at_ 2).z [] [], .mk 0 (if (y.at_ 3).z then [] else (y.at_ 3).s) (y.at_ 3).z [] [], .mk (IntKind.i32.wrap (y.at_ 4).n) [] false [] [], .mk (IntKind.i32.wrap (y.at_ 5).n) [] false [] [], tlP 0 F_sConsumerGroupHeartbeatResponseAssignment (y.at_ 6)] y.u := rfl
set_option maxHeartbeats 2000000 in
theorem tell_ConsumerGroupHeartbeatResponse (t : Vw) (b : Nat) (v : Int) (y : Tre) (cells : List Value) (hrc : RC t b 0 (.int .i16 v :: cells)) (hM : RMp t F_ConsumerGroupHeartbeatResponse y cells) (htg : tgT F_ConsumerGroupHeartbeatResponse y) : CA Tryz.prog 107 [.pointer (some ⟨b, 0, none⟩)] t fun u r => ∃ ds, r = .agg ds.toArray ∧ RT u (tlT F_ConsumerGroupHeartbeatResponse y) ds := by
  rw [tlT_ConsumerGroupHeartbeatResponse]
  obtain ⟨⟨hsrt, hkeys, hlens, hlen⟩, htl⟩ := htg
  simp only [F_ConsumerGroupHeartbeatResponse, tgL] at htl
  obtain ⟨qg0, qg1, qg2, qg3, qg4, qg5, qg6, _⟩ := htl
  obtain ⟨fc1, mv1, hce1, hfl1, hTg1⟩ := hM
  simp only [F_ConsumerGroupHeartbeatResponse, RMl] at hfl1
  obtain ⟨x1_0, z1_0, e1_0, g1_0, x1_1, z1_1, e1_1, g1_1, x1_2, z1_2, e1_2, g1_2, x1_3, z1_3, e1_3, g1_3, x1_4, z1_4, e1_4, g1_4, x1_5, z1_5, e1_5, g1_5, x1_6, z1_6, e1_6, g1_6, hend1⟩ := hfl1
  obtain rfl := RMf_i32.1 g1_0
  obtain rfl := RMf_i16.1 g1_1
  obtain ⟨d1_2, rfl, Gg1_2⟩ := (RMf_txt (by decide)).1 g1_2
  obtain ⟨d1_3, rfl, Gg1_3⟩ := (RMf_txt (by decide)).1 g1_3
  obtain rfl := RMf_i32.1 g1_4
  obtain rfl := RMf_i32.1 g1_5
  obtain ⟨d1_6, rfl, Gg1_6⟩ := (RMf_ptr (by decide)).1 g1_6
  subst hend1
  subst e1_6
  subst e1_5
  subst e1_4
  subst e1_3
  subst e1_2
  subst e1_1
  subst e1_0
  rw [hce1] at hrc
  simp only [List.cons_append, List.nil_append, List.append_assoc] at hrc
  have hf2 := Gg1_2
  have hf3 := Gg1_3
  have hf6 := Gg1_6
  obtain ⟨lt, hMK, hRK⟩ := hTg1
  have hrt : RC1 t b (0 + 8) mv1 := hrc.sub 8 (c1 := [_, _, _, _, _, _, _, _]) (c2 := [mv1]) (c3 := []) rfl rfl
  have hrc : RCx t b 0 _ _ := hrc
  refine ca_enter Tryz.func107 rfl Tryz.ntmps107 rfl ?_
  refine cd_sr ?_
  refine ln_alloc tiimpl_Tree rfl rfl (fun b1 => ?_)
  refine ln_cd ?_
  refine cd_sr ?_
  refine ln_makeN (m := 7) (l := [.int .i64 0, .slice none 0 0, .bool false, .slice none 0 0, .slice none 0 0, .int .i64 0, .slice none 0 0, .bool false, .slice none 0 0, .slice none 0 0, .int .i64 0, .slice none 0 0, .bool false, .slice none 0 0, .slice none 0 0, .int .i64 0, .slice none 0 0, .bool false, .slice none 0 0, .slice none 0 0, .int .i64 0, .slice none 0 0, .bool false, .slice none 0 0, .slice none 0 0, .int .i64 0, .slice none 0 0, .bool false, .slice none 0 0, .slice none 0 0, .int .i64 0, .slice none 0 0, .bool false, .slice none 0 0, .slice none 0 0]) Tryz.underlying34 tiimpl_Tree rfl rfl (by kernel_rfl) (by decide) (by decide) rfl (fun bL => ?_)
  refine ln_pv (pv_struct [(0, 1), (1, 1), (2, 1), (3, 1), (4, 1)] (l := [_, _, _, _, _]) rfl Tryz.underlying37 tiimpl_Tree (by kernel_rfl) rfl rfl) rfl ?_
  refine ln_alloc tiimpl_Tree rfl rfl (fun b2 => ?_)
  refine ln_storeW (i := 0) rfl rfl rfl rfl (tiimpl_Tree).size rfl (by simp []) ?_
  refine ln_cd ?_
  refine cd_dr' [0, 1, 2] [0, 1, 2, 3, 4, 5, 6, 7, 8] [0, 1, 2, 3, 4, 5, 6, 7, 8, 9] mixed (by kernel_rfl) ?_
  refine lo_pv rfl rfl (sk_js (Tr.refl _) [0, 1, 2] rfl) (pv_fieldAddr (off := 3) (r := 3) Tryz.underlying37 rfl (tiSl_impl_Tree).size rfl rfl rfl) rfl ?_
  refine lo_pv rfl rfl (sk_js (Tr.refl _) [0, 1, 2] rfl) (pv_ldo (i := 0) rfl Tryz.underlying34 rfl rfl rfl) rfl ?_
  refine lo_pv rfl rfl (sk_js (Tr.refl _) [0, 1, 2] rfl) (pv_move rfl) rfl ?_
  refine lo_pv rfl rfl (sk_js (Tr.refl _) [0, 1, 2] rfl) (pv_nilCheck rfl) rfl ?_
  refine lo_pv rfl rfl (sk_js (Tr.refl _) [0, 1, 2] rfl) (pv_fieldAddr (off := 1)  Tryz.underlying176 rfl (tiint32).size rfl rfl rfl) rfl ?_
  refine lo_pv rfl rfl (sk_js (Tr.refl _) [0, 1, 2] rfl) (pv_ldr (j := 1) hrc Tryz.underlying21 rfl rfl rfl) rfl ?_
  refine lo_pv rfl rfl (sk_js (Tr.refl _) [0, 1, 2] rfl) (pv_conv' Tryz.underlying21 Tryz.underlying2 rfl (w64_i32 _)) rfl ?_
  refine lo_pv rfl rfl (sk_js (Tr.refl _) [0, 1, 2] rfl) (pv_struct [(0, 1), (1, 1), (2, 1), (3, 1), (4, 1)] (l := [_, _, _, _, _]) rfl Tryz.underlying37 tiimpl_Tree (by kernel_rfl) rfl rfl) rfl ?_
  refine lo_pv rfl rfl (sk_js (Tr.refl _) [0, 1, 2] rfl) (pv_ixN (o := 0) (i := 0) Tryz.underlying34 (tiimpl_Tree).size rfl rfl (by decide)) rfl ?_
  refine lo_eff rfl rfl ?_
  refine ln_store (i := 1) (vs := [_, _, _, _, _]) rfl rfl rfl rfl (tiimpl_Tree).size rfl rfl rfl ?_
  refine lo_last (by kernel_rfl) ?_
  refine lo_cd ?_
  refine cd_dr' [0, 1, 2] [0, 1, 2, 3, 4, 5, 6, 7, 8] [0, 1, 2, 3, 4, 5, 6, 7, 8, 9] mixed (by kernel_rfl) ?_
  refine lo_pv rfl rfl (sk_js (Tr.refl _) [0, 1, 2] rfl) (pv_fieldAddr (off := 3) (r := 3) Tryz.underlying37 rfl (tiSl_impl_Tree).size rfl rfl rfl) rfl ?_
  refine lo_pv rfl rfl (sk_js (Tr.refl _) [0, 1, 2] rfl) (pv_ldo (i := 0) rfl Tryz.underlying34 rfl rfl rfl) rfl ?_
  refine lo_pv rfl rfl (sk_js (Tr.refl _) [0, 1, 2] rfl) (pv_move rfl) rfl ?_
  refine lo_pv rfl rfl (sk_js (Tr.refl _) [0, 1, 2] rfl) (pv_nilCheck rfl) rfl ?_
  refine lo_pv rfl rfl (sk_js (Tr.refl _) [0, 1, 2] rfl) (pv_fieldAddr (off := 2)  Tryz.underlying176 rfl (tiint16).size rfl rfl rfl) rfl ?_
  refine lo_pv rfl rfl (sk_js (Tr.refl _) [0, 1, 2] rfl) (pv_ldr (j := 2) hrc Tryz.underlying46 rfl rfl rfl) rfl ?_
  refine lo_pv rfl rfl (sk_js (Tr.refl _) [0, 1, 2] rfl) (pv_conv' Tryz.underlying46 Tryz.underlying2 rfl (w64_i16 _)) rfl ?_
  refine lo_pv rfl rfl (sk_js (Tr.refl _) [0, 1, 2] rfl) (pv_struct [(0, 1), (1, 1), (2, 1), (3, 1), (4, 1)] (l := [_, _, _, _, _]) rfl Tryz.underlying37 tiimpl_Tree (by kernel_rfl) rfl rfl) rfl ?_
  refine lo_pv rfl rfl (sk_js (Tr.refl _) [0, 1, 2] rfl) (pv_ixN (o := 0) (i := 1) Tryz.underlying34 (tiimpl_Tree).size rfl rfl (by decide)) rfl ?_
  refine lo_eff rfl rfl ?_
  refine ln_store (i := 1) (vs := [_, _, _, _, _]) rfl rfl rfl rfl (tiimpl_Tree).size rfl rfl rfl ?_
  refine lo_last (by kernel_rfl) ?_
  refine lo_cd ?_
  refine cd_dr' [0, 1, 2] [0, 1, 2, 3, 4, 5, 7] [0, 1, 2, 3, 4, 5, 6, 7, 8] mixed (by kernel_rfl) ?_
  refine lo_pv rfl rfl (sk_js (Tr.refl _) [0, 1, 2] rfl) (pv_fieldAddr (off := 3) (r := 3) Tryz.underlying37 rfl (tiSl_impl_Tree).size rfl rfl rfl) rfl ?_
  refine lo_pv rfl rfl (sk_js (Tr.refl _) [0, 1, 2] rfl) (pv_ldo (i := 0) rfl Tryz.underlying34 rfl rfl rfl) rfl ?_
  refine lo_pv rfl rfl (sk_js (Tr.refl _) [0, 1, 2] rfl) (pv_move rfl) rfl ?_
  refine lo_pv rfl rfl (sk_js (Tr.refl _) [0, 1, 2] rfl) (pv_nilCheck rfl) rfl ?_
  refine lo_pv rfl rfl (sk_js (Tr.refl _) [0, 1, 2] rfl) (pv_fieldAddr (off := 3)  Tryz.underlying176 rfl (tiPt_string).size rfl rfl rfl) rfl ?_
  refine lo_pv rfl rfl (sk_js (Tr.refl _) [0, 1, 2] rfl) (pv_ldr (j := 3) hrc Tryz.underlying107 rfl rfl rfl) rfl ?_
  refine lo_eff rfl rfl ?_
  refine ln_callA en_152 rfl (fun u hu => text_tree u _ _ (Txt.mv hf2 hu)) rfl (fun u1 v1 ht1 hR1 => ?_)
  have hrc := hrc.mv ht1
  have hrt := hrt.mv ht1
  have hMK := hMK.mv ht1
  have hRK := hRK.mv ht1
  have hf2 := hf2.mv ht1
  have hf3 := hf3.mv ht1
  have hf6 := hf6.mv ht1
  obtain ⟨ds, rfl, hd2⟩ := hR1
  obtain ⟨qS2, qL2, qU2, rfl, _, hqS2, ⟨_, hqL2, _⟩, ⟨_, hqU2, _⟩⟩ := hd2.open
  refine lo_back (sk_js ht1 [0, 1, 2] rfl) ?_
  refine lo_pv rfl rfl (sk_js ht1 [0, 1, 2] rfl) (pv_ixN (o := 0) (i := 2) Tryz.underlying34 (tiimpl_Tree).size rfl rfl (by decide)) rfl ?_
  refine lo_eff rfl rfl ?_
  refine ln_store (i := 1) (vs := [_, _, _, _, _]) rfl rfl rfl rfl (tiimpl_Tree).size rfl (by simp [(RS.one hqL2), (RS.one hqS2), (RS.one hqU2)]) rfl ?_
  refine lo_last (by kernel_rfl) ?_
  refine lo_cd ?_
  refine cd_dr' [0, 1, 2] [0, 1, 2, 3, 4, 5, 7] [0, 1, 2, 3, 4, 5, 6, 7, 8] mixed (by kernel_rfl) ?_
  refine lo_pv rfl rfl (sk_js (Tr.refl _) [0, 1, 2] rfl) (pv_fieldAddr (off := 3) (r := 3) Tryz.underlying37 rfl (tiSl_impl_Tree).size rfl rfl rfl) rfl ?_
  refine lo_pv rfl rfl (sk_js (Tr.refl _) [0, 1, 2] rfl) (pv_ldo (i := 0) rfl Tryz.underlying34 rfl rfl rfl) rfl ?_
  refine lo_pv rfl rfl (sk_js (Tr.refl _) [0, 1, 2] rfl) (pv_move rfl) rfl ?_
  refine lo_pv rfl rfl (sk_js (Tr.refl _) [0, 1, 2] rfl) (pv_nilCheck rfl) rfl ?_
  refine lo_pv rfl rfl (sk_js (Tr.refl _) [0, 1, 2] rfl) (pv_fieldAddr (off := 4)  Tryz.underlying176 rfl (tiPt_string).size rfl rfl rfl) rfl ?_
  refine lo_pv rfl rfl (sk_js (Tr.refl _) [0, 1, 2] rfl) (pv_ldr (j := 4) hrc Tryz.underlying107 rfl rfl rfl) rfl ?_
  refine lo_eff rfl rfl ?_
  refine ln_callA en_152 rfl (fun u hu => text_tree u _ _ (Txt.mv hf3 hu)) rfl (fun u2 v2 ht2 hR2 => ?_)
  have hrc := hrc.mv ht2
  have hrt := hrt.mv ht2
  have hMK := hMK.mv ht2
  have hRK := hRK.mv ht2
  have hf2 := hf2.mv ht2
  have hf3 := hf3.mv ht2
  have hf6 := hf6.mv ht2
  have hd2 := hd2.mv ht2
  obtain ⟨ds, rfl, hd3⟩ := hR2
  obtain ⟨qS3, qL3, qU3, rfl, _, hqS3, ⟨_, hqL3, _⟩, ⟨_, hqU3, _⟩⟩ := hd3.open
  refine lo_back (sk_js ht2 [0, 1, 2] rfl) ?_
  refine lo_pv rfl rfl (sk_js ht2 [0, 1, 2] rfl) (pv_ixN (o := 0) (i := 3) Tryz.underlying34 (tiimpl_Tree).size rfl rfl (by decide)) rfl ?_
  refine lo_eff rfl rfl ?_
  refine ln_store (i := 1) (vs := [_, _, _, _, _]) rfl rfl rfl rfl (tiimpl_Tree).size rfl (by simp [(RS.one hqL3), (RS.one hqS3), (RS.one hqU3)]) rfl ?_
  refine lo_last (by kernel_rfl) ?_
  refine lo_cd ?_
  refine cd_dr' [0, 1, 2] [0, 1, 2, 3, 4, 5, 6, 7, 8] [0, 1, 2, 3, 4, 5, 6, 7, 8, 9] mixed (by kernel_rfl) ?_
  refine lo_pv rfl rfl (sk_js (Tr.refl _) [0, 1, 2] rfl) (pv_fieldAddr (off := 3) (r := 3) Tryz.underlying37 rfl (tiSl_impl_Tree).size rfl rfl rfl) rfl ?_
  refine lo_pv rfl rfl (sk_js (Tr.refl _) [0, 1, 2] rfl) (pv_ldo (i := 0) rfl Tryz.underlying34 rfl rfl rfl) rfl ?_
  refine lo_pv rfl rfl (sk_js (Tr.refl _) [0, 1, 2] rfl) (pv_move rfl) rfl ?_
  refine lo_pv rfl rfl (sk_js (Tr.refl _) [0, 1, 2] rfl) (pv_nilCheck rfl) rfl ?_
  refine lo_pv rfl rfl (sk_js (Tr.refl _) [0, 1, 2] rfl) (pv_fieldAddr (off := 5)  Tryz.underlying176 rfl (tiint32).size rfl rfl rfl) rfl ?_
  refine lo_pv rfl rfl (sk_js (Tr.refl _) [0, 1, 2] rfl) (pv_ldr (j := 5) hrc Tryz.underlying21 rfl rfl rfl) rfl ?_
  refine lo_pv rfl rfl (sk_js (Tr.refl _) [0, 1, 2] rfl) (pv_conv' Tryz.underlying21 Tryz.underlying2 rfl (w64_i32 _)) rfl ?_
  refine lo_pv rfl rfl (sk_js (Tr.refl _) [0, 1, 2] rfl) (pv_struct [(0, 1), (1, 1), (2, 1), (3, 1), (4, 1)] (l := [_, _, _, _, _]) rfl Tryz.underlying37 tiimpl_Tree (by kernel_rfl) rfl rfl) rfl ?_
  refine lo_pv rfl rfl (sk_js (Tr.refl _) [0, 1, 2] rfl) (pv_ixN (o := 0) (i := 4) Tryz.underlying34 (tiimpl_Tree).size rfl rfl (by decide)) rfl ?_
  refine lo_eff rfl rfl ?_
  refine ln_store (i := 1) (vs := [_, _, _, _, _]) rfl rfl rfl rfl (tiimpl_Tree).size rfl rfl rfl ?_
  refine lo_last (by kernel_rfl) ?_
  refine lo_cd ?_
  refine cd_dr' [0, 1, 2] [0, 1, 2, 3, 4, 5, 6, 7, 8] [0, 1, 2, 3, 4, 5, 6, 7, 8, 9] mixed (by kernel_rfl) ?_
  refine lo_pv rfl rfl (sk_js (Tr.refl _) [0, 1, 2] rfl) (pv_fieldAddr (off := 3) (r := 3) Tryz.underlying37 rfl (tiSl_impl_Tree).size rfl rfl rfl) rfl ?_
  refine lo_pv rfl rfl (sk_js (Tr.refl _) [0, 1, 2] rfl) (pv_ldo (i := 0) rfl Tryz.underlying34 rfl rfl rfl) rfl ?_
  refine lo_pv rfl rfl (sk_js (Tr.refl _) [0, 1, 2] rfl) (pv_move rfl) rfl ?_
  refine lo_pv rfl rfl (sk_js (Tr.refl _) [0, 1, 2] rfl) (pv_nilCheck rfl) rfl ?_
  refine lo_pv rfl rfl (sk_js (Tr.refl _) [0, 1, 2] rfl) (pv_fieldAddr (off := 6)  Tryz.underlying176 rfl (tiint32).size rfl rfl rfl) rfl ?_
  refine lo_pv rfl rfl (sk_js (Tr.refl _) [0, 1, 2] rfl) (pv_ldr (j := 6) hrc Tryz.underlying21 rfl rfl rfl) rfl ?_
  refine lo_pv rfl rfl (sk_js (Tr.refl _) [0, 1, 2] rfl) (pv_conv' Tryz.underlying21 Tryz.underlying2 rfl (w64_i32 _)) rfl ?_
  refine lo_pv rfl rfl (sk_js (Tr.refl _) [0, 1, 2] rfl) (pv_struct [(0, 1), (1, 1), (2, 1), (3, 1), (4, 1)] (l := [_, _, _, _, _]) rfl Tryz.underlying37 tiimpl_Tree (by kernel_rfl) rfl rfl) rfl ?_
  refine lo_pv rfl rfl (sk_js (Tr.refl _) [0, 1, 2] rfl) (pv_ixN (o := 0) (i := 5) Tryz.underlying34 (tiimpl_Tree).size rfl rfl (by decide)) rfl ?_
  refine lo_eff rfl rfl ?_
  refine ln_store (i := 1) (vs := [_, _, _, _, _]) rfl rfl rfl rfl (tiimpl_Tree).size rfl rfl rfl ?_
  refine lo_last (by kernel_rfl) ?_
  refine lo_cd ?_
  refine cd_dr' [0, 1, 2] [0, 1, 2, 3, 4, 5, 7] [0, 1, 2, 3, 4, 5, 6, 7, 8] mixed (by kernel_rfl) ?_
  refine lo_pv rfl rfl (sk_js (Tr.refl _) [0, 1, 2] rfl) (pv_fieldAddr (off := 3) (r := 3) Tryz.underlying37 rfl (tiSl_impl_Tree).size rfl rfl rfl) rfl ?_
  refine lo_pv rfl rfl (sk_js (Tr.refl _) [0, 1, 2] rfl) (pv_ldo (i := 0) rfl Tryz.underlying34 rfl rfl rfl) rfl ?_
  refine lo_pv rfl rfl (sk_js (Tr.refl _) [0, 1, 2] rfl) (pv_move rfl) rfl ?_
  refine lo_pv rfl rfl (sk_js (Tr.refl _) [0, 1, 2] rfl) (pv_nilCheck rfl) rfl ?_
  refine lo_pv rfl rfl (sk_js (Tr.refl _) [0, 1, 2] rfl) (pv_fieldAddr (off := 7)  Tryz.underlying176 rfl (tiPt_kmsg_ConsumerGroupHeartbeatResponseAssignment).size rfl rfl rfl) rfl ?_
  refine lo_pv rfl rfl (sk_js (Tr.refl _) [0, 1, 2] rfl) (pv_ldr (j := 7) hrc Tryz.underlying174 rfl rfl rfl) rfl ?_
  refine lo_eff rfl rfl ?_
  refine ln_callA en_167 rfl (fun u hu => tellptr_ConsumerGroupHeartbeatResponseAssignment u _ 0 (y.at_ 6) (RPt.mv hf6 hu) (by decide) (fun hz => by have h := qg6; rw [tgF_part, if_neg (fun q => by rw [hz] at q; cases q.2)] at h; exact h)) rfl (fun u3 v3 ht3 hR3 => ?_)
  have hrc := hrc.mv ht3
  have hrt := hrt.mv ht3
  have hMK := hMK.mv ht3
  have hRK := hRK.mv ht3
  have hf2 := hf2.mv ht3
  have hf3 := hf3.mv ht3
  have hf6 := hf6.mv ht3
  have hd2 := hd2.mv ht3
  have hd3 := hd3.mv ht3
  obtain ⟨ds, rfl, hd6⟩ := hR3
  obtain ⟨qS6, qL6, qU6, rfl, _, hqS6, ⟨_, hqL6, _⟩, ⟨_, hqU6, _⟩⟩ := hd6.open
  refine lo_back (sk_js ht3 [0, 1, 2] rfl) ?_
  refine lo_pv rfl rfl (sk_js ht3 [0, 1, 2] rfl) (pv_ixN (o := 0) (i := 6) Tryz.underlying34 (tiimpl_Tree).size rfl rfl (by decide)) rfl ?_
  refine lo_eff rfl rfl ?_
  refine ln_store (i := 1) (vs := [_, _, _, _, _]) rfl rfl rfl rfl (tiimpl_Tree).size rfl (by simp [(RS.one hqL6), (RS.one hqS6), (RS.one hqU6)]) rfl ?_
  refine lo_last (by kernel_rfl) ?_
  refine lo_cd ?_
  refine cd_sr ?_
  refine ln_pv (pv_move rfl) rfl ?_
  refine ln_pv (pv_nilCheck rfl) rfl ?_
  refine ln_pv (pv_fieldAddr (off := 8)  Tryz.underlying176 rfl (tipub_kmsg_Tags).size rfl rfl rfl) rfl ?_
  refine ln_pv (pv_makeFunc (vf := #[]) (vc := #[.pointer (some ⟨b2, 0, none⟩)]) (by rw [List.map_toArray, List.map_toArray]; rfl) (by rw [List.map_toArray, List.map_toArray]; rfl)) rfl ?_
  refine ln_nilrow 69 2 ?_
  have hst := tclo_ConsumerGroupHeartbeatResponse b2 (.int .i64 0) (.slice none 0 0) (.bool false) (.slice (some ⟨bL, 0, none⟩) 7 7) y.u hkeys hlens (Nat.le_of_lt hlen)
  have hEa := fun (u : Vw) hr hm hk h0 hok hav hnd => tags_EachG (fun z => TA b2 (.int .i64 0) (.slice none 0 0) (.bool false) (.slice (some ⟨bL, 0, none⟩) 7 7) z) TB (TInv y.u) 168 (.pointer (some ⟨b2, 0, none⟩)) en_168 u b (0 + 8) mv1 lt y.u (.slice none 0 0, [], 0) hr hm hk hsrt (by omega) h0 hst hok hav hnd
  refine ln_callH (E := [TA b2 (.int .i64 0) (.slice none 0 0) (.bool false) (.slice (some ⟨bL, 0, none⟩) 7 7) (.slice none 0 0, [], 0), TB (.slice none 0 0, [], 0)]) (H0 := [_, _]) (List.perm_middle (l₁ := [_])) en_125 rfl (fun u hu hok hav hnd => hEa u (RC1.mv hrt hu) (hMK.mv hu) (RK.mv hu hRK) (fun w hw => ⟨rfl, by rw [List.take_zero]; rfl⟩) hok hav hnd) rfl ?_
  rintro u4 v4 _ ht4 ⟨xu4, ⟨⟨vU, csU, kU⟩, rfl, hzU⟩, hxu4⟩
  obtain ⟨hkU, hRU⟩ := (hzU.mv hxu4).get
  dsimp only at hkU hRU
  subst hkU
  rw [List.take_length] at hRU
  have hrc := hrc.mv ht4
  have hrt := hrt.mv ht4
  have hMK := hMK.mv ht4
  have hRK := hRK.mv ht4
  have hf2 := hf2.mv ht4
  have hf3 := hf3.mv ht4
  have hf6 := hf6.mv ht4
  have hd2 := hd2.mv ht4
  have hd3 := hd3.mv ht4
  have hd6 := hd6.mv ht4
  refine ln_cd ?_
  refine cd_sr ?_
  refine ln_pv (pv_fieldAddr (off := 4) (r := 4) Tryz.underlying37 rfl (tiSl_impl_Tag).size rfl rfl rfl) rfl ?_
  refine ln_pv (pv_ldo (i := 0) rfl Tryz.underlying35 rfl rfl rfl) rfl ?_
  refine ln_callT (i := 1) en_127 rfl rfl (fun u hu hok hav => impl_sorted u vU y.u csU hsrt (by omega) (RUs.cells hRU).1 (fun i hi => by obtain ⟨c1, tv, c3, he, hc, _, _⟩ := RUs.at_ hi hRU; rw [he, List.append_assoc, List.getElem?_append_right (by omega), hc]; simp) hok hav) rfl ?_
  rintro u5 v5 _ ht5 ⟨_, rfl, _⟩
  have hrc := hrc.mv ht5
  have hrt := hrt.mv ht5
  have hMK := hMK.mv ht5
  have hRK := hRK.mv ht5
  have hf2 := hf2.mv ht5
  have hf3 := hf3.mv ht5
  have hf6 := hf6.mv ht5
  have hd2 := hd2.mv ht5
  have hd3 := hd3.mv ht5
  have hd6 := hd6.mv ht5
  have hRU := hRU.mv ht5
  refine ln_cd ?_
  refine cd_rowone (i := 1) rfl (fun hoU => ?_)
  refine cd_sr ?_
  refine ln_pv (pv_ldO (i := 0) rfl Tryz.underlying37 rfl (tiimpl_Tree).size rfl rfl) rfl ?_
  refine ln_storeW (i := 3) rfl rfl rfl rfl (tiimpl_Tree).size rfl (by simp [hoU]) ?_
  refine ln_cd ?_
  refine cd_ret ?_
  refine at_retC (i := 3) rfl rfl rfl Tryz.underlying37 rfl tiimpl_Tree.size rfl (fun w hS => ?_)
  have hRTs : RTs hS.fin [.mk (IntKind.i32.wrap (y.at_ 0).n) [] false [] [], .mk (IntKind.i16.wrap (y.at_ 1).n) [] false [] [], .mk 0 (if (y.at_ 2).z then [] else (y.at_ 2).s) (y.at_ 2).z [] [], .mk 0 (if (y.at_ 3).z then [] else (y.at_ 3).s) (y.at_ 3).z [] [], .mk (IntKind.i32.wrap (y.at_ 4).n) [] false [] [], .mk (IntKind.i32.wrap (y.at_ 5).n) [] false [] [], tlP 0 F_sConsumerGroupHeartbeatResponseAssignment (y.at_ 6)] _ := ⟨[.int .i64 (IntKind.i32.wrap (y.at_ 0).n), .slice none 0 0, .bool false, .slice none 0 0, .slice none 0 0], _, rfl, RT_num (I64_i32 _), ⟨[.int .i64 (IntKind.i16.wrap (y.at_ 1).n), .slice none 0 0, .bool false, .slice none 0 0, .slice none 0 0], _, rfl, RT_num (I64_i16 _), ⟨[_, _, _, _, _], _, rfl, RT.mv hd2 hS.trFin, ⟨[_, _, _, _, _], _, rfl, RT.mv hd3 hS.trFin, ⟨[.int .i64 (IntKind.i32.wrap (y.at_ 4).n), .slice none 0 0, .bool false, .slice none 0 0, .slice none 0 0], _, rfl, RT_num (I64_i32 _), ⟨[.int .i64 (IntKind.i32.wrap (y.at_ 5).n), .slice none 0 0, .bool false, .slice none 0 0, .slice none 0 0], _, rfl, RT_num (I64_i32 _), ⟨[_, _, _, _, _], _, rfl, RT.mv hd6 hS.trFin, rfl⟩⟩⟩⟩⟩⟩⟩
  refine ⟨_, rfl, RT.shut ⟨_, _, _, rfl, (show I64 0 from by unfold I64; omega), RS_nil 1, ⟨_, obj_rsS hS (i := 2) (sz := 5) (m := 7) rfl rfl (RTs.cells hRTs), hRTs⟩, ⟨csU, row_rs hS (j := 1) rfl (RUs.cells hRU).2, RUs.mv hS.trFin hRU⟩⟩⟩
end K
end Go.Proofs.YtekafeogilbjmaaGreatDoor
