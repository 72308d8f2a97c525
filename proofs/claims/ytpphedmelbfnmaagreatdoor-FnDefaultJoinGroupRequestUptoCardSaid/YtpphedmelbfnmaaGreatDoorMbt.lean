import Derived.Test.YtpphedmelbfnmaaGreatDoorTm
import Derived.Test.YtpphedmelbfnmaaGreatDoorMbs
set_option linter.unusedVariables false
set_option linter.unusedSimpArgs false
namespace Go.Proofs.YtpphedmelbfnmaaGreatDoor
namespace K
open Go Go.Lib
theorem tclo_JoinGroupRequestProtocol (b3 : Nat) (c0 c1 c2 c3 : Value) (us : Tags) (hk : ∀ y ∈ us, y.1 < 4294967296) (hl : ∀ y ∈ us, y.2.length ≤ 4398046511104) (hlen : us.length ≤ 1099511627776) : ∀ j (hj : j < us.length) (u : Vw) (z : Value × List Value × Nat) (tv : Value), Iv (TInv us) j u z → RSv u tv (us[j]'hj).2 → HF [TA b3 c0 c1 c2 c3 z, TB z] u.w → (∀ q ∈ blks [TA b3 c0 c1 c2 c3 z, TB z], u.av q) → (blks [TA b3 c0 c1 c2 c3 z, TB z]).Nodup → CH Tryz.prog 117 [.int .u32 ((us[j]'hj).1 : Int), tv, .pointer (some ⟨b3, 0, none⟩)] u [TA b3 c0 c1 c2 c3 z, TB z] fun u r E' => ∃ z', E' = [TA b3 c0 c1 c2 c3 z', TB z'] ∧ Iv (TInv us) (j + 1) u z' := by
  rintro j hj u ⟨vU, cs, k⟩ tv hz htv hok hav hnd
  obtain ⟨hk0, hR⟩ := hz.get
  dsimp only at hk0 hR
  subst hk0
  have hbl := hl _ (List.getElem_mem hj)
  obtain ⟨adV, cV, rfl, hleV⟩ := htv.shape
  refine ch_enter Tryz.func117 rfl Tryz.ntmps117 rfl hok hav hnd ?_
  refine cd_draw' [0] [0, 1, 2, 3, 5, 8] [0, 1, 2, 3, 4, 5, 6, 7, 8, 9] mixed (by kernel_rfl) ?_
  refine lo_pv rfl rfl (sk_js (Tr.refl _) [0] rfl) (pv_fieldAddr (off := 4) (r := 4) Tryz.underlying42 rfl (tiSl_impl_Tag).size rfl rfl rfl) rfl ?_
  refine lo_pv rfl rfl (sk_js (Tr.refl _) [0] rfl) (pv_ldo (i := 0) rfl Tryz.underlying40 rfl rfl rfl) rfl ?_
  refine lo_pv rfl rfl (sk_js (Tr.refl _) [0] rfl) (pv_move rfl) rfl ?_
  refine lo_pv rfl rfl (sk_js (Tr.refl _) [0] rfl) (pv_move rfl) rfl ?_
  refine lo_eff rfl rfl ?_
  refine ln_nilrow 5 1 ?_
  refine ln_append (i := 0) rfl Tryz.underlying22 tiuint8 rfl (by decide) rfl rfl (RS.src htv) (by simp only [maxLen]; omega) (by omega) rfl (k' := (us[k]'hj).2.length) (xs' := u8s (us[k]'hj).2) (by omega) (by simp) (fun vc hvc => ?_)
  refine ln_free1 (fun q h => by simpa using h) (fun s1 ht1 hK1 => ?_)
  have hcp : RSv s1 vc (us[k]'hj).2 := Known.rs hK1 (u8s_one _)
  clear hK1
  have htv := htv.mv ht1
  have hR := RUs.mv ht1 hR
  refine lo_back (sk_js ht1 [0] rfl) ?_
  refine lo_pv rfl rfl (sk_js ht1 [0] rfl) (pv_struct [(0, 1), (1, 1)] (l := [_, _]) rfl Tryz.underlying69 tiimpl_Tag (by kernel_rfl) rfl (by simp [okL, Nat.ble_eq, Value.cells, hvc.2])) rfl ?_
  refine lo_eff rfl rfl ?_
  refine ln_lit (vs := [_]) Tryz.underlying40 tiimpl_Tag rfl (by decide) rfl rfl rfl rfl rfl rfl (fun b1 => ?_)
  refine lo_back (sk_js ht1 [1] rfl) ?_
  refine lo_eff rfl rfl ?_
  refine ln_append (i := 2) rfl Tryz.underlying40 tiimpl_Tag rfl (by decide) rfl rfl (src_obj (j := 0) rfl rfl (by simp [flat, Value.cells, hvc.2])) (by first | omega | (simp only [maxLen]; omega)) (by first | omega | (simp only [maxLen]; omega)) rfl (k' := (k + 1)) (xs' := cs ++ [.int .u32 ((us[k]'hj).1 : Int), vc]) rfl (by simp [flat, Value.cells]) (fun v1 hv1 => ?_)
  refine lo_back (sk_js ht1 [1] rfl) ?_
  refine lo_pv rfl rfl (sk_js ht1 [1] rfl) (pv_fieldAddr (off := 4) (r := 4) Tryz.underlying42 rfl (tiSl_impl_Tag).size rfl rfl rfl) rfl ?_
  refine lo_eff rfl rfl ?_
  refine ln_store1 (i := 1) rfl rfl rfl hv1.2 (tiSl_impl_Tag).size rfl ?_
  refine lo_last (by kernel_rfl) ?_
  refine lo_nil ?_
  refine at_retH0 [TA b3 c0 c1 c2 c3 (v1, cs ++ [.int .u32 ((us[k]'hj).1 : Int), vc], k + 1), TB (v1, cs ++ [.int .u32 ((us[k]'hj).1 : Int), vc], k + 1)] (.cons _ (.cons_cons _ (.cons_cons _ .slnil))) rfl (fun w hS => ⟨(v1, cs ++ [.int .u32 ((us[k]'hj).1 : Int), vc], k + 1), rfl, fun w2 hw2 => ⟨rfl, ?_⟩⟩)
  rw [take_snoc' hj]
  have hq := (hS.trFinH _ _).trans hw2
  exact RUs.append (RUs.mv hq hR) (RUs.one_ (hk _ (List.getElem_mem hj)) (RSv.mv hcp hq))
theorem tlT_JoinGroupRequestProtocol (y : Tre) : tlT F_sJoinGroupRequestProtocol y = .mk 0 [] false [.mk 0 (y.at_ 0).s false [] [], .mk 0 (if (y.at_ 1).z then [] else (y.at_ 1).s) (y.at_ 1).z [] []] y.u := rfl
set_option maxHeartbeats 2000000 in
theorem tell_JoinGroupRequestProtocol (t : Vw) (b o : Nat) (y : Tre) (cells : List Value) (hrc : RC t b o cells) (hM : RMp t F_sJoinGroupRequestProtocol y cells) (htg : tgT F_sJoinGroupRequestProtocol y) : CA Tryz.prog 73 [.pointer (some ⟨b, o, none⟩)] t fun u r => ∃ ds, r = .agg ds.toArray ∧ RT u (tlT F_sJoinGroupRequestProtocol y) ds := by
  rw [tlT_JoinGroupRequestProtocol]
  obtain ⟨⟨hsrt, hkeys, hlens, hlen⟩, htl⟩ := htg
  simp only [F_sJoinGroupRequestProtocol, tgL] at htl
  obtain ⟨qg0, qg1, _⟩ := htl
  have hoct1 : (y.at_ 1).s.length ≤ 4398046511104 := Nat.le_trans ((tgF_sc (by decide) (by decide)).1 qg1) (by decide)
  obtain ⟨fc1, mv1, hce1, hfl1, hTg1⟩ := hM
  simp only [F_sJoinGroupRequestProtocol, RMl] at hfl1
  obtain ⟨x1_0, z1_0, e1_0, g1_0, x1_1, z1_1, e1_1, g1_1, hend1⟩ := hfl1
  obtain rfl := (RMf_str (by decide)).1 g1_0
  obtain ⟨d1_1, rfl, Gg1_1⟩ := RMf_oct.1 g1_1
  subst hend1
  subst e1_1
  subst e1_0
  rw [hce1] at hrc
  simp only [List.cons_append, List.nil_append, List.append_assoc] at hrc
  have hf1 := Gg1_1
  obtain ⟨lt, hMK, hRK⟩ := hTg1
  have hrt : RC1 t b (o + 2) mv1 := hrc.sub 2 (c1 := [_, _]) (c2 := [mv1]) (c3 := []) rfl rfl
  have hrc : RCx t b o _ _ := hrc
  refine ca_enter Tryz.func73 rfl Tryz.ntmps73 rfl ?_
  refine cd_sr ?_
  refine ln_alloc tiimpl_Tree rfl rfl (fun b1 => ?_)
  refine ln_cd ?_
  refine cd_sr ?_
  refine ln_makeN (m := 2) (l := [.int .i64 0, .slice none 0 0, .bool false, .slice none 0 0, .slice none 0 0, .int .i64 0, .slice none 0 0, .bool false, .slice none 0 0, .slice none 0 0]) Tryz.underlying39 tiimpl_Tree rfl rfl (by kernel_rfl) (by decide) (by decide) rfl (fun bL => ?_)
  refine ln_pv (pv_struct [(0, 1), (1, 1), (2, 1), (3, 1), (4, 1)] (l := [_, _, _, _, _]) rfl Tryz.underlying42 tiimpl_Tree (by kernel_rfl) rfl rfl) rfl ?_
  refine ln_alloc tiimpl_Tree rfl rfl (fun b2 => ?_)
  refine ln_storeW (i := 0) rfl rfl rfl rfl (tiimpl_Tree).size rfl (by simp []) ?_
  refine ln_cd ?_
  refine cd_dr' [0, 1, 2] [0, 1, 2, 3, 4, 5, 7, 8] [0, 1, 2, 3, 4, 5, 6, 7, 8, 9] mixed (by kernel_rfl) ?_
  refine lo_pv rfl rfl (sk_js (Tr.refl _) [0, 1, 2] rfl) (pv_fieldAddr (off := 3) (r := 3) Tryz.underlying42 rfl (tiSl_impl_Tree).size rfl rfl rfl) rfl ?_
  refine lo_pv rfl rfl (sk_js (Tr.refl _) [0, 1, 2] rfl) (pv_ldo (i := 0) rfl Tryz.underlying39 rfl rfl rfl) rfl ?_
  refine lo_pv rfl rfl (sk_js (Tr.refl _) [0, 1, 2] rfl) (pv_move rfl) rfl ?_
  refine lo_pv rfl rfl (sk_js (Tr.refl _) [0, 1, 2] rfl) (pv_nilCheck rfl) rfl ?_
  refine lo_pv rfl rfl (sk_js (Tr.refl _) [0, 1, 2] rfl) (pv_fieldAddr (off := 0)  Tryz.underlying119 rfl (tistring).size rfl rfl rfl) rfl ?_
  refine lo_pv rfl rfl (sk_js (Tr.refl _) [0, 1, 2] rfl) (pv_ldr (j := 0) hrc Tryz.underlying9 rfl rfl rfl) rfl ?_
  refine lo_eff rfl rfl ?_
  refine ln_s2b Tryz.underlying9 Tryz.underlying22 Tryz.underlying5 rfl rfl (fun bS1 cS1 zS1 fS1 hcS1 => ?_)
  refine ln_free1 (fun q h => h.elim) (fun sS1 htS1 hKS1 => ?_)
  have hsS1 := rs_of_obj hKS1 hcS1
  clear hKS1
  have hrc := hrc.mv htS1
  have hrt := hrt.mv htS1
  have hMK := hMK.mv htS1
  have hRK := hRK.mv htS1
  have hf1 := hf1.mv htS1
  refine lo_back (sk_js htS1 [0, 1, 2] rfl) ?_
  refine lo_pv rfl rfl (sk_js htS1 [0, 1, 2] rfl) (pv_struct [(0, 1), (1, 1), (2, 1), (3, 1), (4, 1)] (l := [_, _, _, _, _]) rfl Tryz.underlying42 tiimpl_Tree (by kernel_rfl) rfl (by simp [okL, Nat.ble_eq, Value.cells, (RS.one hsS1)])) rfl ?_
  refine lo_pv rfl rfl (sk_js htS1 [0, 1, 2] rfl) (pv_ixN (o := 0) (i := 0) Tryz.underlying39 (tiimpl_Tree).size rfl rfl (by decide)) rfl ?_
  refine lo_eff rfl rfl ?_
  refine ln_store (i := 1) (vs := [_, _, _, _, _]) rfl rfl rfl rfl (tiimpl_Tree).size rfl (by simp [(RS.one hsS1)]) rfl ?_
  refine lo_last (by kernel_rfl) ?_
  refine lo_cd ?_
  refine cd_dr' [0, 1, 2] [0, 1, 2, 3, 4, 5, 7] [0, 1, 2, 3, 4, 5, 6, 7, 8] mixed (by kernel_rfl) ?_
  refine lo_pv rfl rfl (sk_js (Tr.refl _) [0, 1, 2] rfl) (pv_fieldAddr (off := 3) (r := 3) Tryz.underlying42 rfl (tiSl_impl_Tree).size rfl rfl rfl) rfl ?_
  refine lo_pv rfl rfl (sk_js (Tr.refl _) [0, 1, 2] rfl) (pv_ldo (i := 0) rfl Tryz.underlying39 rfl rfl rfl) rfl ?_
  refine lo_pv rfl rfl (sk_js (Tr.refl _) [0, 1, 2] rfl) (pv_move rfl) rfl ?_
  refine lo_pv rfl rfl (sk_js (Tr.refl _) [0, 1, 2] rfl) (pv_nilCheck rfl) rfl ?_
  refine lo_pv rfl rfl (sk_js (Tr.refl _) [0, 1, 2] rfl) (pv_fieldAddr (off := 1)  Tryz.underlying119 rfl (tiSl_uint8).size rfl rfl rfl) rfl ?_
  refine lo_pv rfl rfl (sk_js (Tr.refl _) [0, 1, 2] rfl) (pv_ldr (j := 1) hrc Tryz.underlying22 rfl rfl rfl) rfl ?_
  refine lo_eff rfl rfl ?_
  refine ln_callA en_116 rfl (fun u hu => octets_tree u _ _ (Octs.mv hf1 hu) (hoct1)) rfl (fun u2 v2 ht2 hR2 => ?_)
  have hrc := hrc.mv ht2
  have hrt := hrt.mv ht2
  have hMK := hMK.mv ht2
  have hRK := hRK.mv ht2
  have hf1 := hf1.mv ht2
  have hsS1 := hsS1.mv ht2
  obtain ⟨ds, rfl, hd1⟩ := hR2
  obtain ⟨qS1, qL1, qU1, rfl, _, hqS1, ⟨_, hqL1, _⟩, ⟨_, hqU1, _⟩⟩ := hd1.open
  refine lo_back (sk_js ht2 [0, 1, 2] rfl) ?_
  refine lo_pv rfl rfl (sk_js ht2 [0, 1, 2] rfl) (pv_ixN (o := 0) (i := 1) Tryz.underlying39 (tiimpl_Tree).size rfl rfl (by decide)) rfl ?_
  refine lo_eff rfl rfl ?_
  refine ln_store (i := 1) (vs := [_, _, _, _, _]) rfl rfl rfl rfl (tiimpl_Tree).size rfl (by simp [(RS.one hqL1), (RS.one hqS1), (RS.one hqU1)]) rfl ?_
  refine lo_last (by kernel_rfl) ?_
  refine lo_cd ?_
  refine cd_sr ?_
  refine ln_pv (pv_move rfl) rfl ?_
  refine ln_pv (pv_nilCheck rfl) rfl ?_
  refine ln_pv (pv_fieldAddr (off := 2)  Tryz.underlying119 rfl (tipub_kmsg_Tags).size rfl rfl rfl) rfl ?_
  refine ln_pv (pv_makeFunc (vf := #[]) (vc := #[.pointer (some ⟨b2, 0, none⟩)]) (by rw [List.map_toArray, List.map_toArray]; rfl) (by rw [List.map_toArray, List.map_toArray]; rfl)) rfl ?_
  refine ln_nilrow 69 2 ?_
  have hst := tclo_JoinGroupRequestProtocol b2 (.int .i64 0) (.slice none 0 0) (.bool false) (.slice (some ⟨bL, 0, none⟩) 2 2) y.u hkeys hlens (Nat.le_of_lt hlen)
  have hEa := fun (u : Vw) hr hm hk h0 hok hav hnd => tags_EachG (fun z => TA b2 (.int .i64 0) (.slice none 0 0) (.bool false) (.slice (some ⟨bL, 0, none⟩) 2 2) z) TB (TInv y.u) 117 (.pointer (some ⟨b2, 0, none⟩)) en_117 u b (o + 2) mv1 lt y.u (.slice none 0 0, [], 0) hr hm hk hsrt (by omega) h0 hst hok hav hnd
  refine ln_callH (E := [TA b2 (.int .i64 0) (.slice none 0 0) (.bool false) (.slice (some ⟨bL, 0, none⟩) 2 2) (.slice none 0 0, [], 0), TB (.slice none 0 0, [], 0)]) (H0 := [_, _]) (List.perm_middle (l₁ := [_])) en_69 rfl (fun u hu hok hav hnd => hEa u (RC1.mv hrt hu) (hMK.mv hu) (RK.mv hu hRK) (fun w hw => ⟨rfl, by rw [List.take_zero]; rfl⟩) hok hav hnd) rfl ?_
  rintro u3 v3 _ ht3 ⟨xu3, ⟨⟨vU, csU, kU⟩, rfl, hzU⟩, hxu3⟩
  obtain ⟨hkU, hRU⟩ := (hzU.mv hxu3).get
  dsimp only at hkU hRU
  subst hkU
  rw [List.take_length] at hRU
  have hrc := hrc.mv ht3
  have hrt := hrt.mv ht3
  have hMK := hMK.mv ht3
  have hRK := hRK.mv ht3
  have hf1 := hf1.mv ht3
  have hsS1 := hsS1.mv ht3
  have hd1 := hd1.mv ht3
  refine ln_cd ?_
  refine cd_sr ?_
  refine ln_pv (pv_fieldAddr (off := 4) (r := 4) Tryz.underlying42 rfl (tiSl_impl_Tag).size rfl rfl rfl) rfl ?_
  refine ln_pv (pv_ldo (i := 0) rfl Tryz.underlying40 rfl rfl rfl) rfl ?_
  refine ln_callT (i := 1) en_71 rfl rfl (fun u hu hok hav => impl_sorted u vU y.u csU hsrt (by omega) (RUs.cells hRU).1 (fun i hi => by obtain ⟨c1, tv, c3, he, hc, _, _⟩ := RUs.at_ hi hRU; rw [he, List.append_assoc, List.getElem?_append_right (by omega), hc]; simp) hok hav) rfl ?_
  rintro u4 v4 _ ht4 ⟨_, rfl, _⟩
  have hrc := hrc.mv ht4
  have hrt := hrt.mv ht4
  have hMK := hMK.mv ht4
  have hRK := hRK.mv ht4
  have hf1 := hf1.mv ht4
  have hsS1 := hsS1.mv ht4
  have hd1 := hd1.mv ht4
  have hRU := hRU.mv ht4
  refine ln_cd ?_
  refine cd_rowone (i := 1) rfl (fun hoU => ?_)
  refine cd_sr ?_
  refine ln_pv (pv_ldO (i := 0) rfl Tryz.underlying42 rfl (tiimpl_Tree).size rfl rfl) rfl ?_
  refine ln_storeW (i := 3) rfl rfl rfl rfl (tiimpl_Tree).size rfl (by simp [hoU]) ?_
  refine ln_cd ?_
  refine cd_ret ?_
  refine at_retC (i := 3) rfl rfl rfl Tryz.underlying42 rfl tiimpl_Tree.size rfl (fun w hS => ?_)
  have hRTs : RTs hS.fin [.mk 0 (y.at_ 0).s false [] [], .mk 0 (if (y.at_ 1).z then [] else (y.at_ 1).s) (y.at_ 1).z [] []] _ := ⟨[_, _, _, _, _], _, rfl, RT_str (RSv.mv hsS1 hS.trFin), ⟨[_, _, _, _, _], _, rfl, RT.mv hd1 hS.trFin, rfl⟩⟩
  refine ⟨_, rfl, RT.shut ⟨_, _, _, rfl, (show I64 0 from by unfold I64; omega), RS_nil 1, ⟨_, obj_rsS hS (i := 2) (sz := 5) (m := 2) rfl rfl (RTs.cells hRTs), hRTs⟩, ⟨csU, row_rs hS (j := 1) rfl (RUs.cells hRU).2, RUs.mv hS.trFin hRU⟩⟩⟩
theorem tclo_JoinGroupRequest (b3 : Nat) (c0 c1 c2 c3 : Value) (us : Tags) (hk : ∀ y ∈ us, y.1 < 4294967296) (hl : ∀ y ∈ us, y.2.length ≤ 4398046511104) (hlen : us.length ≤ 1099511627776) : ∀ j (hj : j < us.length) (u : Vw) (z : Value × List Value × Nat) (tv : Value), Iv (TInv us) j u z → RSv u tv (us[j]'hj).2 → HF [TA b3 c0 c1 c2 c3 z, TB z] u.w → (∀ q ∈ blks [TA b3 c0 c1 c2 c3 z, TB z], u.av q) → (blks [TA b3 c0 c1 c2 c3 z, TB z]).Nodup → CH Tryz.prog 74 [.int .u32 ((us[j]'hj).1 : Int), tv, .pointer (some ⟨b3, 0, none⟩)] u [TA b3 c0 c1 c2 c3 z, TB z] fun u r E' => ∃ z', E' = [TA b3 c0 c1 c2 c3 z', TB z'] ∧ Iv (TInv us) (j + 1) u z' := by
  rintro j hj u ⟨vU, cs, k⟩ tv hz htv hok hav hnd
  obtain ⟨hk0, hR⟩ := hz.get
  dsimp only at hk0 hR
  subst hk0
  have hbl := hl _ (List.getElem_mem hj)
  obtain ⟨adV, cV, rfl, hleV⟩ := htv.shape
  refine ch_enter Tryz.func74 rfl Tryz.ntmps74 rfl hok hav hnd ?_
  refine cd_draw' [0] [0, 1, 2, 3, 5, 8] [0, 1, 2, 3, 4, 5, 6, 7, 8, 9] mixed (by kernel_rfl) ?_
  refine lo_pv rfl rfl (sk_js (Tr.refl _) [0] rfl) (pv_fieldAddr (off := 4) (r := 4) Tryz.underlying42 rfl (tiSl_impl_Tag).size rfl rfl rfl) rfl ?_
  refine lo_pv rfl rfl (sk_js (Tr.refl _) [0] rfl) (pv_ldo (i := 0) rfl Tryz.underlying40 rfl rfl rfl) rfl ?_
  refine lo_pv rfl rfl (sk_js (Tr.refl _) [0] rfl) (pv_move rfl) rfl ?_
  refine lo_pv rfl rfl (sk_js (Tr.refl _) [0] rfl) (pv_move rfl) rfl ?_
  refine lo_eff rfl rfl ?_
  refine ln_nilrow 5 1 ?_
  refine ln_append (i := 0) rfl Tryz.underlying22 tiuint8 rfl (by decide) rfl rfl (RS.src htv) (by simp only [maxLen]; omega) (by omega) rfl (k' := (us[k]'hj).2.length) (xs' := u8s (us[k]'hj).2) (by omega) (by simp) (fun vc hvc => ?_)
  refine ln_free1 (fun q h => by simpa using h) (fun s1 ht1 hK1 => ?_)
  have hcp : RSv s1 vc (us[k]'hj).2 := Known.rs hK1 (u8s_one _)
  clear hK1
  have htv := htv.mv ht1
  have hR := RUs.mv ht1 hR
  refine lo_back (sk_js ht1 [0] rfl) ?_
  refine lo_pv rfl rfl (sk_js ht1 [0] rfl) (pv_struct [(0, 1), (1, 1)] (l := [_, _]) rfl Tryz.underlying69 tiimpl_Tag (by kernel_rfl) rfl (by simp [okL, Nat.ble_eq, Value.cells, hvc.2])) rfl ?_
  refine lo_eff rfl rfl ?_
  refine ln_lit (vs := [_]) Tryz.underlying40 tiimpl_Tag rfl (by decide) rfl rfl rfl rfl rfl rfl (fun b1 => ?_)
  refine lo_back (sk_js ht1 [1] rfl) ?_
  refine lo_eff rfl rfl ?_
  refine ln_append (i := 2) rfl Tryz.underlying40 tiimpl_Tag rfl (by decide) rfl rfl (src_obj (j := 0) rfl rfl (by simp [flat, Value.cells, hvc.2])) (by first | omega | (simp only [maxLen]; omega)) (by first | omega | (simp only [maxLen]; omega)) rfl (k' := (k + 1)) (xs' := cs ++ [.int .u32 ((us[k]'hj).1 : Int), vc]) rfl (by simp [flat, Value.cells]) (fun v1 hv1 => ?_)
  refine lo_back (sk_js ht1 [1] rfl) ?_
  refine lo_pv rfl rfl (sk_js ht1 [1] rfl) (pv_fieldAddr (off := 4) (r := 4) Tryz.underlying42 rfl (tiSl_impl_Tag).size rfl rfl rfl) rfl ?_
  refine lo_eff rfl rfl ?_
  refine ln_store1 (i := 1) rfl rfl rfl hv1.2 (tiSl_impl_Tag).size rfl ?_
  refine lo_last (by kernel_rfl) ?_
  refine lo_nil ?_
  refine at_retH0 [TA b3 c0 c1 c2 c3 (v1, cs ++ [.int .u32 ((us[k]'hj).1 : Int), vc], k + 1), TB (v1, cs ++ [.int .u32 ((us[k]'hj).1 : Int), vc], k + 1)] (.cons _ (.cons_cons _ (.cons_cons _ .slnil))) rfl (fun w hS => ⟨(v1, cs ++ [.int .u32 ((us[k]'hj).1 : Int), vc], k + 1), rfl, fun w2 hw2 => ⟨rfl, ?_⟩⟩)
  rw [take_snoc' hj]
  have hq := (hS.trFinH _ _).trans hw2
  exact RUs.append (RUs.mv hq hR) (RUs.one_ (hk _ (List.getElem_mem hj)) (RSv.mv hcp hq))
theorem tlT_JoinGroupRequest (y : Tre) : tlT F_JoinGroupRequest y = .mk 0 [] false [.mk 0 (y.at_ 0).s false [] [], .mk (IntKind.i32.wrap (y.at_ 1).n) [] false [] [], .mk (IntKind.i32.wrap (y.at_ 2).n) [] false [] [], .mk 0 (y.at_ 3).s false [] [], .mk 0 (if (y.at_ 4).z then [] else (y.at_ 4).s) (y.at_ 4).z [] [], .mk 0 (y.at_ 5).s false [] [], .mk 0 [] (y.at_ 6).z ((els (y.at_ 6)).map (tlT F_sJoinGroupRequestProtocol)) [], .mk 0 (if (y.at_ 7).z then [] else (y.at_ 7).s) (y.at_ 7).z [] []] y.u := rfl
set_option maxHeartbeats 2000000 in
theorem tell_JoinGroupRequest (t : Vw) (b : Nat) (v : Int) (y : Tre) (cells : List Value) (hrc : RC t b 0 (.int .i16 v :: cells)) (hM : RMp t F_JoinGroupRequest y cells) (htg : tgT F_JoinGroupRequest y) : CA Tryz.prog 44 [.pointer (some ⟨b, 0, none⟩)] t fun u r => ∃ ds, r = .agg ds.toArray ∧ RT u (tlT F_JoinGroupRequest y) ds := by
  rw [tlT_JoinGroupRequest]
  obtain ⟨⟨hsrt, hkeys, hlens, hlen⟩, htl⟩ := htg
  simp only [F_JoinGroupRequest, tgL] at htl
  obtain ⟨qg0, qg1, qg2, qg3, qg4, qg5, qg6, qg7, _⟩ := htl
  obtain ⟨fc1, mv1, hce1, hfl1, hTg1⟩ := hM
  simp only [F_JoinGroupRequest, RMl] at hfl1
  obtain ⟨x1_0, z1_0, e1_0, g1_0, x1_1, z1_1, e1_1, g1_1, x1_2, z1_2, e1_2, g1_2, x1_3, z1_3, e1_3, g1_3, x1_4, z1_4, e1_4, g1_4, x1_5, z1_5, e1_5, g1_5, x1_6, z1_6, e1_6, g1_6, x1_7, z1_7, e1_7, g1_7, hend1⟩ := hfl1
  obtain rfl := (RMf_str (by decide)).1 g1_0
  obtain rfl := RMf_i32.1 g1_1
  obtain rfl := RMf_i32.1 g1_2
  obtain rfl := (RMf_str (by decide)).1 g1_3
  obtain ⟨d1_4, rfl, Gg1_4⟩ := (RMf_txt (by decide)).1 g1_4
  obtain rfl := (RMf_str (by decide)).1 g1_5
  obtain ⟨_, rfl, Gg1_6⟩ := RMf_list.1 g1_6
  obtain ⟨ad1_6, cap1_6, rfl, hnil1_6, Hg1_6⟩ := Gg1_6.els
  obtain ⟨d1_7, rfl, Gg1_7⟩ := (RMf_txt (by decide)).1 g1_7
  subst hend1
  subst e1_7
  subst e1_6
  subst e1_5
  subst e1_4
  subst e1_3
  subst e1_2
  subst e1_1
  subst e1_0
  rw [hce1] at hrc
  simp only [List.cons_append, List.nil_append, List.append_assoc] at hrc
  have hf4 := Gg1_4
  have hLs_6 := LsF.of Hg1_6
  have hll_6 : (els (y.at_ 6)).length ≤ 32767 := (tgF_list.1 qg6).1
  have hf7 := Gg1_7
  obtain ⟨lt, hMK, hRK⟩ := hTg1
  have hrt : RC1 t b (0 + 9) mv1 := hrc.sub 9 (c1 := [_, _, _, _, _, _, _, _, _]) (c2 := [mv1]) (c3 := []) rfl rfl
  have hrc : RCx t b 0 _ _ := hrc
  refine ca_enter Tryz.func44 rfl Tryz.ntmps44 rfl ?_
  refine cd_sr ?_
  refine ln_alloc tiimpl_Tree rfl rfl (fun b1 => ?_)
  refine ln_cd ?_
  refine cd_sr ?_
  refine ln_makeN (m := 8) (l := [.int .i64 0, .slice none 0 0, .bool false, .slice none 0 0, .slice none 0 0, .int .i64 0, .slice none 0 0, .bool false, .slice none 0 0, .slice none 0 0, .int .i64 0, .slice none 0 0, .bool false, .slice none 0 0, .slice none 0 0, .int .i64 0, .slice none 0 0, .bool false, .slice none 0 0, .slice none 0 0, .int .i64 0, .slice none 0 0, .bool false, .slice none 0 0, .slice none 0 0, .int .i64 0, .slice none 0 0, .bool false, .slice none 0 0, .slice none 0 0, .int .i64 0, .slice none 0 0, .bool false, .slice none 0 0, .slice none 0 0, .int .i64 0, .slice none 0 0, .bool false, .slice none 0 0, .slice none 0 0]) Tryz.underlying39 tiimpl_Tree rfl rfl (by kernel_rfl) (by decide) (by decide) rfl (fun bL => ?_)
  refine ln_pv (pv_struct [(0, 1), (1, 1), (2, 1), (3, 1), (4, 1)] (l := [_, _, _, _, _]) rfl Tryz.underlying42 tiimpl_Tree (by kernel_rfl) rfl rfl) rfl ?_
  refine ln_alloc tiimpl_Tree rfl rfl (fun b2 => ?_)
  refine ln_storeW (i := 0) rfl rfl rfl rfl (tiimpl_Tree).size rfl (by simp []) ?_
  refine ln_cd ?_
  refine cd_dr' [0, 1, 2] [0, 1, 2, 3, 4, 5, 7, 8] [0, 1, 2, 3, 4, 5, 6, 7, 8, 9] mixed (by kernel_rfl) ?_
  refine lo_pv rfl rfl (sk_js (Tr.refl _) [0, 1, 2] rfl) (pv_fieldAddr (off := 3) (r := 3) Tryz.underlying42 rfl (tiSl_impl_Tree).size rfl rfl rfl) rfl ?_
  refine lo_pv rfl rfl (sk_js (Tr.refl _) [0, 1, 2] rfl) (pv_ldo (i := 0) rfl Tryz.underlying39 rfl rfl rfl) rfl ?_
  refine lo_pv rfl rfl (sk_js (Tr.refl _) [0, 1, 2] rfl) (pv_move rfl) rfl ?_
  refine lo_pv rfl rfl (sk_js (Tr.refl _) [0, 1, 2] rfl) (pv_nilCheck rfl) rfl ?_
  refine lo_pv rfl rfl (sk_js (Tr.refl _) [0, 1, 2] rfl) (pv_fieldAddr (off := 1)  Tryz.underlying115 rfl (tistring).size rfl rfl rfl) rfl ?_
  refine lo_pv rfl rfl (sk_js (Tr.refl _) [0, 1, 2] rfl) (pv_ldr (j := 1) hrc Tryz.underlying9 rfl rfl rfl) rfl ?_
  refine lo_eff rfl rfl ?_
  refine ln_s2b Tryz.underlying9 Tryz.underlying22 Tryz.underlying5 rfl rfl (fun bS1 cS1 zS1 fS1 hcS1 => ?_)
  refine ln_free1 (fun q h => h.elim) (fun sS1 htS1 hKS1 => ?_)
  have hsS1 := rs_of_obj hKS1 hcS1
  clear hKS1
  have hrc := hrc.mv htS1
  have hrt := hrt.mv htS1
  have hMK := hMK.mv htS1
  have hRK := hRK.mv htS1
  have hf4 := hf4.mv htS1
  have hLs_6 := hLs_6.mv htS1
  have hf7 := hf7.mv htS1
  refine lo_back (sk_js htS1 [0, 1, 2] rfl) ?_
  refine lo_pv rfl rfl (sk_js htS1 [0, 1, 2] rfl) (pv_struct [(0, 1), (1, 1), (2, 1), (3, 1), (4, 1)] (l := [_, _, _, _, _]) rfl Tryz.underlying42 tiimpl_Tree (by kernel_rfl) rfl (by simp [okL, Nat.ble_eq, Value.cells, (RS.one hsS1)])) rfl ?_
  refine lo_pv rfl rfl (sk_js htS1 [0, 1, 2] rfl) (pv_ixN (o := 0) (i := 0) Tryz.underlying39 (tiimpl_Tree).size rfl rfl (by decide)) rfl ?_
  refine lo_eff rfl rfl ?_
  refine ln_store (i := 1) (vs := [_, _, _, _, _]) rfl rfl rfl rfl (tiimpl_Tree).size rfl (by simp [(RS.one hsS1)]) rfl ?_
  refine lo_last (by kernel_rfl) ?_
  refine lo_cd ?_
  refine cd_dr' [0, 1, 2] [0, 1, 2, 3, 4, 5, 6, 7, 8] [0, 1, 2, 3, 4, 5, 6, 7, 8, 9] mixed (by kernel_rfl) ?_
  refine lo_pv rfl rfl (sk_js (Tr.refl _) [0, 1, 2] rfl) (pv_fieldAddr (off := 3) (r := 3) Tryz.underlying42 rfl (tiSl_impl_Tree).size rfl rfl rfl) rfl ?_
  refine lo_pv rfl rfl (sk_js (Tr.refl _) [0, 1, 2] rfl) (pv_ldo (i := 0) rfl Tryz.underlying39 rfl rfl rfl) rfl ?_
  refine lo_pv rfl rfl (sk_js (Tr.refl _) [0, 1, 2] rfl) (pv_move rfl) rfl ?_
  refine lo_pv rfl rfl (sk_js (Tr.refl _) [0, 1, 2] rfl) (pv_nilCheck rfl) rfl ?_
  refine lo_pv rfl rfl (sk_js (Tr.refl _) [0, 1, 2] rfl) (pv_fieldAddr (off := 2)  Tryz.underlying115 rfl (tiint32).size rfl rfl rfl) rfl ?_
  refine lo_pv rfl rfl (sk_js (Tr.refl _) [0, 1, 2] rfl) (pv_ldr (j := 2) hrc Tryz.underlying21 rfl rfl rfl) rfl ?_
  refine lo_pv rfl rfl (sk_js (Tr.refl _) [0, 1, 2] rfl) (pv_conv' Tryz.underlying21 Tryz.underlying2 rfl (w64_i32 _)) rfl ?_
  refine lo_pv rfl rfl (sk_js (Tr.refl _) [0, 1, 2] rfl) (pv_struct [(0, 1), (1, 1), (2, 1), (3, 1), (4, 1)] (l := [_, _, _, _, _]) rfl Tryz.underlying42 tiimpl_Tree (by kernel_rfl) rfl rfl) rfl ?_
  refine lo_pv rfl rfl (sk_js (Tr.refl _) [0, 1, 2] rfl) (pv_ixN (o := 0) (i := 1) Tryz.underlying39 (tiimpl_Tree).size rfl rfl (by decide)) rfl ?_
  refine lo_eff rfl rfl ?_
  refine ln_store (i := 1) (vs := [_, _, _, _, _]) rfl rfl rfl rfl (tiimpl_Tree).size rfl rfl rfl ?_
  refine lo_last (by kernel_rfl) ?_
  refine lo_cd ?_
  refine cd_dr' [0, 1, 2] [0, 1, 2, 3, 4, 5, 6, 7, 8] [0, 1, 2, 3, 4, 5, 6, 7, 8, 9] mixed (by kernel_rfl) ?_
  refine lo_pv rfl rfl (sk_js (Tr.refl _) [0, 1, 2] rfl) (pv_fieldAddr (off := 3) (r := 3) Tryz.underlying42 rfl (tiSl_impl_Tree).size rfl rfl rfl) rfl ?_
  refine lo_pv rfl rfl (sk_js (Tr.refl _) [0, 1, 2] rfl) (pv_ldo (i := 0) rfl Tryz.underlying39 rfl rfl rfl) rfl ?_
  refine lo_pv rfl rfl (sk_js (Tr.refl _) [0, 1, 2] rfl) (pv_move rfl) rfl ?_
  refine lo_pv rfl rfl (sk_js (Tr.refl _) [0, 1, 2] rfl) (pv_nilCheck rfl) rfl ?_
  refine lo_pv rfl rfl (sk_js (Tr.refl _) [0, 1, 2] rfl) (pv_fieldAddr (off := 3)  Tryz.underlying115 rfl (tiint32).size rfl rfl rfl) rfl ?_
  refine lo_pv rfl rfl (sk_js (Tr.refl _) [0, 1, 2] rfl) (pv_ldr (j := 3) hrc Tryz.underlying21 rfl rfl rfl) rfl ?_
  refine lo_pv rfl rfl (sk_js (Tr.refl _) [0, 1, 2] rfl) (pv_conv' Tryz.underlying21 Tryz.underlying2 rfl (w64_i32 _)) rfl ?_
  refine lo_pv rfl rfl (sk_js (Tr.refl _) [0, 1, 2] rfl) (pv_struct [(0, 1), (1, 1), (2, 1), (3, 1), (4, 1)] (l := [_, _, _, _, _]) rfl Tryz.underlying42 tiimpl_Tree (by kernel_rfl) rfl rfl) rfl ?_
  refine lo_pv rfl rfl (sk_js (Tr.refl _) [0, 1, 2] rfl) (pv_ixN (o := 0) (i := 2) Tryz.underlying39 (tiimpl_Tree).size rfl rfl (by decide)) rfl ?_
  refine lo_eff rfl rfl ?_
  refine ln_store (i := 1) (vs := [_, _, _, _, _]) rfl rfl rfl rfl (tiimpl_Tree).size rfl rfl rfl ?_
  refine lo_last (by kernel_rfl) ?_
  refine lo_cd ?_
  refine cd_dr' [0, 1, 2] [0, 1, 2, 3, 4, 5, 7, 8] [0, 1, 2, 3, 4, 5, 6, 7, 8, 9] mixed (by kernel_rfl) ?_
  refine lo_pv rfl rfl (sk_js (Tr.refl _) [0, 1, 2] rfl) (pv_fieldAddr (off := 3) (r := 3) Tryz.underlying42 rfl (tiSl_impl_Tree).size rfl rfl rfl) rfl ?_
  refine lo_pv rfl rfl (sk_js (Tr.refl _) [0, 1, 2] rfl) (pv_ldo (i := 0) rfl Tryz.underlying39 rfl rfl rfl) rfl ?_
  refine lo_pv rfl rfl (sk_js (Tr.refl _) [0, 1, 2] rfl) (pv_move rfl) rfl ?_
  refine lo_pv rfl rfl (sk_js (Tr.refl _) [0, 1, 2] rfl) (pv_nilCheck rfl) rfl ?_
  refine lo_pv rfl rfl (sk_js (Tr.refl _) [0, 1, 2] rfl) (pv_fieldAddr (off := 4)  Tryz.underlying115 rfl (tistring).size rfl rfl rfl) rfl ?_
  refine lo_pv rfl rfl (sk_js (Tr.refl _) [0, 1, 2] rfl) (pv_ldr (j := 4) hrc Tryz.underlying9 rfl rfl rfl) rfl ?_
  refine lo_eff rfl rfl ?_
  refine ln_s2b Tryz.underlying9 Tryz.underlying22 Tryz.underlying5 rfl rfl (fun bS2 cS2 zS2 fS2 hcS2 => ?_)
  refine ln_free1 (fun q h => h.elim) (fun sS2 htS2 hKS2 => ?_)
  have hsS2 := rs_of_obj hKS2 hcS2
  clear hKS2
  have hrc := hrc.mv htS2
  have hrt := hrt.mv htS2
  have hMK := hMK.mv htS2
  have hRK := hRK.mv htS2
  have hf4 := hf4.mv htS2
  have hLs_6 := hLs_6.mv htS2
  have hf7 := hf7.mv htS2
  have hsS1 := hsS1.mv htS2
  refine lo_back (sk_js htS2 [0, 1, 2] rfl) ?_
  refine lo_pv rfl rfl (sk_js htS2 [0, 1, 2] rfl) (pv_struct [(0, 1), (1, 1), (2, 1), (3, 1), (4, 1)] (l := [_, _, _, _, _]) rfl Tryz.underlying42 tiimpl_Tree (by kernel_rfl) rfl (by simp [okL, Nat.ble_eq, Value.cells, (RS.one hsS2)])) rfl ?_
  refine lo_pv rfl rfl (sk_js htS2 [0, 1, 2] rfl) (pv_ixN (o := 0) (i := 3) Tryz.underlying39 (tiimpl_Tree).size rfl rfl (by decide)) rfl ?_
  refine lo_eff rfl rfl ?_
  refine ln_store (i := 1) (vs := [_, _, _, _, _]) rfl rfl rfl rfl (tiimpl_Tree).size rfl (by simp [(RS.one hsS2)]) rfl ?_
  refine lo_last (by kernel_rfl) ?_
  refine lo_cd ?_
  refine cd_dr' [0, 1, 2] [0, 1, 2, 3, 4, 5, 7] [0, 1, 2, 3, 4, 5, 6, 7, 8] mixed (by kernel_rfl) ?_
  refine lo_pv rfl rfl (sk_js (Tr.refl _) [0, 1, 2] rfl) (pv_fieldAddr (off := 3) (r := 3) Tryz.underlying42 rfl (tiSl_impl_Tree).size rfl rfl rfl) rfl ?_
  refine lo_pv rfl rfl (sk_js (Tr.refl _) [0, 1, 2] rfl) (pv_ldo (i := 0) rfl Tryz.underlying39 rfl rfl rfl) rfl ?_
  refine lo_pv rfl rfl (sk_js (Tr.refl _) [0, 1, 2] rfl) (pv_move rfl) rfl ?_
  refine lo_pv rfl rfl (sk_js (Tr.refl _) [0, 1, 2] rfl) (pv_nilCheck rfl) rfl ?_
  refine lo_pv rfl rfl (sk_js (Tr.refl _) [0, 1, 2] rfl) (pv_fieldAddr (off := 5)  Tryz.underlying115 rfl (tiPt_string).size rfl rfl rfl) rfl ?_
  refine lo_pv rfl rfl (sk_js (Tr.refl _) [0, 1, 2] rfl) (pv_ldr (j := 5) hrc Tryz.underlying97 rfl rfl rfl) rfl ?_
  refine lo_eff rfl rfl ?_
  refine ln_callA en_67 rfl (fun u hu => text_tree u _ _ (Txt.mv hf4 hu)) rfl (fun u3 v3 ht3 hR3 => ?_)
  have hrc := hrc.mv ht3
  have hrt := hrt.mv ht3
  have hMK := hMK.mv ht3
  have hRK := hRK.mv ht3
  have hf4 := hf4.mv ht3
  have hLs_6 := hLs_6.mv ht3
  have hf7 := hf7.mv ht3
  have hsS1 := hsS1.mv ht3
  have hsS2 := hsS2.mv ht3
  obtain ⟨ds, rfl, hd4⟩ := hR3
  obtain ⟨qS4, qL4, qU4, rfl, _, hqS4, ⟨_, hqL4, _⟩, ⟨_, hqU4, _⟩⟩ := hd4.open
  refine lo_back (sk_js ht3 [0, 1, 2] rfl) ?_
  refine lo_pv rfl rfl (sk_js ht3 [0, 1, 2] rfl) (pv_ixN (o := 0) (i := 4) Tryz.underlying39 (tiimpl_Tree).size rfl rfl (by decide)) rfl ?_
  refine lo_eff rfl rfl ?_
  refine ln_store (i := 1) (vs := [_, _, _, _, _]) rfl rfl rfl rfl (tiimpl_Tree).size rfl (by simp [(RS.one hqL4), (RS.one hqS4), (RS.one hqU4)]) rfl ?_
  refine lo_last (by kernel_rfl) ?_
  refine lo_cd ?_
  refine cd_dr' [0, 1, 2] [0, 1, 2, 3, 4, 5, 7, 8] [0, 1, 2, 3, 4, 5, 6, 7, 8, 9] mixed (by kernel_rfl) ?_
  refine lo_pv rfl rfl (sk_js (Tr.refl _) [0, 1, 2] rfl) (pv_fieldAddr (off := 3) (r := 3) Tryz.underlying42 rfl (tiSl_impl_Tree).size rfl rfl rfl) rfl ?_
  refine lo_pv rfl rfl (sk_js (Tr.refl _) [0, 1, 2] rfl) (pv_ldo (i := 0) rfl Tryz.underlying39 rfl rfl rfl) rfl ?_
  refine lo_pv rfl rfl (sk_js (Tr.refl _) [0, 1, 2] rfl) (pv_move rfl) rfl ?_
  refine lo_pv rfl rfl (sk_js (Tr.refl _) [0, 1, 2] rfl) (pv_nilCheck rfl) rfl ?_
  refine lo_pv rfl rfl (sk_js (Tr.refl _) [0, 1, 2] rfl) (pv_fieldAddr (off := 6)  Tryz.underlying115 rfl (tistring).size rfl rfl rfl) rfl ?_
  refine lo_pv rfl rfl (sk_js (Tr.refl _) [0, 1, 2] rfl) (pv_ldr (j := 6) hrc Tryz.underlying9 rfl rfl rfl) rfl ?_
  refine lo_eff rfl rfl ?_
  refine ln_s2b Tryz.underlying9 Tryz.underlying22 Tryz.underlying5 rfl rfl (fun bS4 cS4 zS4 fS4 hcS4 => ?_)
  refine ln_free1 (fun q h => h.elim) (fun sS4 htS4 hKS4 => ?_)
  have hsS4 := rs_of_obj hKS4 hcS4
  clear hKS4
  have hrc := hrc.mv htS4
  have hrt := hrt.mv htS4
  have hMK := hMK.mv htS4
  have hRK := hRK.mv htS4
  have hf4 := hf4.mv htS4
  have hLs_6 := hLs_6.mv htS4
  have hf7 := hf7.mv htS4
  have hsS1 := hsS1.mv htS4
  have hsS2 := hsS2.mv htS4
  have hd4 := hd4.mv htS4
  refine lo_back (sk_js htS4 [0, 1, 2] rfl) ?_
  refine lo_pv rfl rfl (sk_js htS4 [0, 1, 2] rfl) (pv_struct [(0, 1), (1, 1), (2, 1), (3, 1), (4, 1)] (l := [_, _, _, _, _]) rfl Tryz.underlying42 tiimpl_Tree (by kernel_rfl) rfl (by simp [okL, Nat.ble_eq, Value.cells, (RS.one hsS4)])) rfl ?_
  refine lo_pv rfl rfl (sk_js htS4 [0, 1, 2] rfl) (pv_ixN (o := 0) (i := 5) Tryz.underlying39 (tiimpl_Tree).size rfl rfl (by decide)) rfl ?_
  refine lo_eff rfl rfl ?_
  refine ln_store (i := 1) (vs := [_, _, _, _, _]) rfl rfl rfl rfl (tiimpl_Tree).size rfl (by simp [(RS.one hsS4)]) rfl ?_
  refine lo_last (by kernel_rfl) ?_
  refine lo_cd ?_
  refine cd_dr' [0, 1, 2] [0, 1, 2, 3, 4, 5, 6, 8] [0, 1, 2, 3, 4, 5, 6, 7, 8, 9] mixed (by kernel_rfl) ?_
  refine lo_pv rfl rfl (sk_js (Tr.refl _) [0, 1, 2] rfl) (pv_fieldAddr (off := 3) (r := 3) Tryz.underlying42 rfl (tiSl_impl_Tree).size rfl rfl rfl) rfl ?_
  refine lo_pv rfl rfl (sk_js (Tr.refl _) [0, 1, 2] rfl) (pv_ldo (i := 0) rfl Tryz.underlying39 rfl rfl rfl) rfl ?_
  refine lo_pv rfl rfl (sk_js (Tr.refl _) [0, 1, 2] rfl) (pv_move rfl) rfl ?_
  refine lo_pv rfl rfl (sk_js (Tr.refl _) [0, 1, 2] rfl) (pv_nilCheck rfl) rfl ?_
  refine lo_pv rfl rfl (sk_js (Tr.refl _) [0, 1, 2] rfl) (pv_fieldAddr (off := 7)  Tryz.underlying115 rfl (tiSl_kmsg_JoinGroupRequestProtocol).size rfl rfl rfl) rfl ?_
  refine lo_pv rfl rfl (sk_js (Tr.refl _) [0, 1, 2] rfl) (pv_ldr (j := 7) hrc Tryz.underlying113 rfl rfl rfl) rfl ?_
  refine lo_pv rfl rfl (sk_js (Tr.refl _) [0, 1, 2] rfl) (pv_eqS Tryz.underlying113 rfl rfl) rfl ?_
  refine lo_eff rfl rfl ?_
  refine ln_pv (pv_ixN (o := 0) (i := 6) Tryz.underlying39 (tiimpl_Tree).size rfl rfl (by decide)) rfl ?_
  refine lo_back (sk_js (Tr.refl _) [0, 1, 2] rfl) ?_
  refine lo_pv rfl rfl (sk_js (Tr.refl _) [0, 1, 2] rfl) (pv_fieldAddr (off := 2) (r := 32) Tryz.underlying42 rfl (tibool).size rfl rfl rfl) rfl ?_
  refine lo_eff rfl rfl ?_
  refine ln_store1 (i := 1) rfl rfl rfl rfl (tibool).size rfl ?_
  refine lo_last (by kernel_rfl) ?_
  refine lo_cd ?_
  refine cd_seq ?_
  refine cd_nilrow 42 5 ?_
  refine cd_sr ?_
  refine ln_pv (pv_move rfl) rfl ?_
  refine ln_pv (pv_nilCheck rfl) rfl ?_
  refine ln_pv (pv_fieldAddr (off := 7)  Tryz.underlying115 rfl (tiSl_kmsg_JoinGroupRequestProtocol).size rfl rfl rfl) rfl ?_
  refine ln_pv (pv_ldr (j := 7) hrc Tryz.underlying113 rfl rfl rfl) rfl ?_
  refine ln_pv (pv_len_slice Tryz.underlying113 rfl) rfl ?_
  refine ln_pv (pv_move rfl) rfl ?_
  refine ln_cd ?_
  refine cd_block ?_
  refine cd_loop (⟨fun (z : Nat × List Value × Value) => [(0, .pointer (some ⟨b, 0, none⟩)), (2, .pointer (some ⟨b1, 0, none⟩)), (3, .pointer (some ⟨b2, 0, none⟩)), (73, .int .i64 ((els (y.at_ 6)).length : Int)), (74, .int .i64 ((z.1 : Nat) : Int))], fun (z : Nat × List Value × Value) => [.row z.2.2 42 5 ((els (y.at_ 6)).take z.1).length z.2.1, .obj b2 (.cells [.int .i64 0, .slice none 0 0, .bool false, .slice (some ⟨bL, 0, none⟩) 8 8, .slice none 0 0].toArray 42), .obj bL (.cells [.int .i64 0, .slice (some ⟨bS1, 0, none⟩) (ByteArray.size ⟨((y.at_ 0)).s.toArray⟩) cS1, .bool false, .slice none 0 0, .slice none 0 0, .int .i64 (IntKind.i32.wrap (y.at_ 1).n), .slice none 0 0, .bool false, .slice none 0 0, .slice none 0 0, .int .i64 (IntKind.i32.wrap (y.at_ 2).n), .slice none 0 0, .bool false, .slice none 0 0, .slice none 0 0, .int .i64 0, .slice (some ⟨bS2, 0, none⟩) (ByteArray.size ⟨((y.at_ 3)).s.toArray⟩) cS2, .bool false, .slice none 0 0, .slice none 0 0, .int .i64 (Tre.mk 0 (if (y.at_ 4).z then [] else (y.at_ 4).s) (y.at_ 4).z [] []).n, qS4, .bool (Tre.mk 0 (if (y.at_ 4).z then [] else (y.at_ 4).s) (y.at_ 4).z [] []).z, qL4, qU4, .int .i64 0, .slice (some ⟨bS4, 0, none⟩) (ByteArray.size ⟨((y.at_ 5)).s.toArray⟩) cS4, .bool false, .slice none 0 0, .slice none 0 0, .int .i64 0, .slice none 0 0, .bool ad1_6.isNone, z.2.2, .slice none 0 0, .int .i64 0, .slice none 0 0, .bool false, .slice none 0 0, .slice none 0 0].toArray 42), .obj b1 (.cells [.int .i64 0, .slice none 0 0, .bool false, .slice none 0 0, .slice none 0 0].toArray 42)], fun (z : Nat × List Value × Value) s => z.1 ≤ (els (y.at_ 6)).length ∧ RTs s (((els (y.at_ 6)).take z.1).map (tlT F_sJoinGroupRequestProtocol)) z.2.1, fun (z : Nat × List Value × Value) => (els (y.at_ 6)).length - z.1⟩ : Lp (Nat × List Value × Value)) (0, [], .slice none 0 0) ?_ ?_ ?_ ?_
  · intro s0 hs0
    exact ⟨Nat.zero_le _, rfl⟩
  · exact ⟨rfl, rfl, rfl, rfl, rfl,  trivial⟩
  · exact (.cons_cons _ (.cons_cons _ (.cons_cons _ (.cons_cons _ .slnil))))
  intro z s1 hl1 hI
  obtain ⟨i_6, ys_6, vv_6⟩ := z
  dsimp only at hI ⊢
  have hrc := hrc.mv hl1
  have hrt := hrt.mv hl1
  have hMK := hMK.mv hl1
  have hRK := hRK.mv hl1
  have hf4 := hf4.mv hl1
  have hLs_6 := hLs_6.mv hl1
  have hf7 := hf7.mv hl1
  have hsS1 := hsS1.mv hl1
  have hsS2 := hsS2.mv hl1
  have hd4 := hd4.mv hl1
  have hsS4 := hsS4.mv hl1
  obtain ⟨hI_6, hIr_6⟩ := hI
  refine cd_sr ?_
  refine ln_pv (pv_lss rfl rfl) rfl ?_
  refine ln_cd ?_
  refine cd_seq ?_
  refine cd_if rfl (fun hc1 => ?_) (fun hc1 => ?_)
  · -- yes
    refine cd_skip ?_
    refine at_cd ?_
    refine cd_seq ?_
    refine cd_block ?_
    have hi_6 : i_6 < (els (y.at_ 6)).length := by omega
    have hsl_6 : ((els (y.at_ 6)).take (i_6 + 1)).length = ((els (y.at_ 6)).take i_6).length + 1 := by simp only [List.length_take]; omega
    have hil_6 : ((els (y.at_ 6)).take i_6).length = i_6 := by rw [List.length_take]; omega
    obtain ⟨gE_6, oE_6, cE_6, hadE_6, hrce_6, hme_6⟩ := hLs_6.at_ hi_6 (show esl _ _ = 3 by kernel_rfl)
    subst hadE_6
    have hme_6 := RE_part hme_6
    have htge_6 : tgT F_sJoinGroupRequestProtocol (els (y.at_ 6))[i_6] := by have h := (tgF_list.1 qg6).2 _ (List.getElem_mem hi_6); rw [if_pos rfl] at h; exact h
    refine cd_sr ?_
    refine ln_pv (pv_move rfl) rfl ?_
    refine ln_pv (pv_assign rfl) rfl ?_
    refine ln_cd ?_
    refine cd_dr3 [1, 2, 3] [] [0] 1 2 [2, 3] [1, 3] mixed (by kernel_rfl) ?_
    refine lo_eff rfl rfl ?_
    refine ln_alloc tibool rfl rfl (fun b3 => ?_)
    refine lo_last (by kernel_rfl) ?_
    refine lo_nil (at_two ?_ ?_)
    · skip
      refine lo_eff rfl rfl ?_
      refine ln_store1 (i := 0) rfl rfl rfl rfl (tibool).size rfl ?_
      refine lo_last (by kernel_rfl) ?_
      refine lo_eff rfl rfl ?_
      refine ln_store1 (i := 0) rfl rfl rfl rfl (tibool).size rfl ?_
      refine lo_last (by kernel_rfl) ?_
      refine lo_eff rfl rfl ?_
      refine ln_pv (pv_ldo (i := 0) rfl Tryz.underlying4 rfl rfl rfl) rfl ?_
      refine lo_last (by kernel_rfl) ?_
      refine lo_cd ?_
      refine cd_ff rfl ?_
      refine cd_draw' [0, 2, 3, 4] [0, 1, 2, 3, 4, 5, 6, 7, 8, 9, 10, 11, 12, 17] [0, 1, 2, 3, 4, 5, 6, 7, 8, 9, 10, 11, 12, 13, 14, 15, 16, 17, 18] mixed (by kernel_rfl) ?_
      refine lo_pv rfl rfl (sk_js (Tr.refl _) [0, 2, 3, 4] rfl) (pv_fieldAddr (off := 3) (r := 3) Tryz.underlying42 rfl (tiSl_impl_Tree).size rfl rfl rfl) rfl ?_
      refine lo_pv rfl rfl (sk_js (Tr.refl _) [0, 2, 3, 4] rfl) (pv_ldo (i := 1) rfl Tryz.underlying39 rfl rfl rfl) rfl ?_
      refine lo_pv rfl rfl (sk_js (Tr.refl _) [0, 2, 3, 4] rfl) (pv_fieldAddr (off := 3) (r := 3) Tryz.underlying42 rfl (tiSl_impl_Tree).size rfl rfl rfl) rfl ?_
      refine lo_pv rfl rfl (sk_js (Tr.refl _) [0, 2, 3, 4] rfl) (pv_ldo (i := 1) rfl Tryz.underlying39 rfl rfl rfl) rfl ?_
      refine lo_pv rfl rfl (sk_js (Tr.refl _) [0, 2, 3, 4] rfl) (pv_ixN (o := 0) (i := 6) Tryz.underlying39 (tiimpl_Tree).size rfl rfl (by decide)) rfl ?_
      refine lo_pv rfl rfl (sk_js (Tr.refl _) [0, 2, 3, 4] rfl) (pv_fieldAddr (off := 3) (r := 33) Tryz.underlying42 rfl (tiSl_impl_Tree).size rfl rfl rfl) rfl ?_
      refine lo_pv rfl rfl (sk_js (Tr.refl _) [0, 2, 3, 4] rfl) (pv_ldo (i := 2) rfl Tryz.underlying39 rfl rfl rfl) rfl ?_
      refine lo_pv rfl rfl (sk_js (Tr.refl _) [0, 2, 3, 4] rfl) (pv_move rfl) rfl ?_
      refine lo_pv rfl rfl (sk_js (Tr.refl _) [0, 2, 3, 4] rfl) (pv_nilCheck rfl) rfl ?_
      refine lo_pv rfl rfl (sk_js (Tr.refl _) [0, 2, 3, 4] rfl) (pv_fieldAddr (off := 7)  Tryz.underlying115 rfl (tiSl_kmsg_JoinGroupRequestProtocol).size rfl rfl rfl) rfl ?_
      refine lo_pv rfl rfl (sk_js (Tr.refl _) [0, 2, 3, 4] rfl) (pv_ldr (j := 7) hrc Tryz.underlying113 rfl rfl rfl) rfl ?_
      refine lo_pv rfl rfl (sk_js (Tr.refl _) [0, 2, 3, 4] rfl) (pv_move rfl) rfl ?_
      refine lo_pv rfl rfl (sk_js (Tr.refl _) [0, 2, 3, 4] rfl) (pv_ixN Tryz.underlying113 (tipub_kmsg_JoinGroupRequestProtocol).size rfl rfl hi_6) rfl ?_
      refine lo_eff rfl rfl ?_
      refine ln_callA en_73 rfl (fun u hu => tell_JoinGroupRequestProtocol u gE_6 (oE_6 + i_6 * 3) (els (y.at_ 6))[i_6] cE_6 (hrce_6.mv hu).2 (RMp.mv hme_6 hu) htge_6) rfl (fun u5 v5 ht5 hR5 => ?_)
      have hrc := hrc.mv ht5
      have hrt := hrt.mv ht5
      have hMK := hMK.mv ht5
      have hRK := hRK.mv ht5
      have hf4 := hf4.mv ht5
      have hLs_6 := hLs_6.mv ht5
      have hf7 := hf7.mv ht5
      have hsS1 := hsS1.mv ht5
      have hsS2 := hsS2.mv ht5
      have hd4 := hd4.mv ht5
      have hsS4 := hsS4.mv ht5
      have hIr_6 := hIr_6.mv ht5
      have hrce_6 := hrce_6.mv ht5
      have hme_6 := hme_6.mv ht5
      obtain ⟨dsF6, rfl, hdF6⟩ := hR5
      refine lo_back (sk_js ht5 [0, 2, 3, 4] rfl) ?_
      refine lo_eff rfl rfl ?_
      refine ln_lit (vs := [_]) Tryz.underlying39 tiimpl_Tree rfl (by decide) rfl rfl rfl (by simp [partsOk, Value.cells, hdF6.len]; try exact .inl rfl) rfl rfl (fun b4 => ?_)
      refine lo_back (sk_js ht5 [1, 3, 4, 5] rfl) ?_
      refine lo_eff rfl rfl ?_
      refine ln_append (i := 2) rfl Tryz.underlying39 tiimpl_Tree rfl (by decide) rfl rfl (src_obj (j := 0) rfl (by simp [flat, Value.cells, hdF6.len]) (List.all_eq_true.2 (by simpa [flat, Value.cells] using hdF6.cells))) (by rw [hil_6]; first | omega | (simp only [maxLen]; omega)) (by rw [hil_6]; first | omega | (simp only [maxLen]; omega)) rfl (k' := ((els (y.at_ 6)).take (i_6 + 1)).length) (xs' := ys_6 ++ dsF6) hsl_6.symm (by simp [flat, Value.cells]) (fun v6 hv6 => ?_)
      refine lo_back (sk_js ht5 [1, 3, 4, 5] rfl) ?_
      refine lo_eff rfl rfl ?_
      refine ln_pv (pv_ixN (o := 0) (i := 6) Tryz.underlying39 (tiimpl_Tree).size rfl rfl (by decide)) rfl ?_
      refine lo_back (sk_js ht5 [1, 3, 4, 5] rfl) ?_
      refine lo_pv rfl rfl (sk_js ht5 [1, 3, 4, 5] rfl) (pv_fieldAddr (off := 3) (r := 33) Tryz.underlying42 rfl (tiSl_impl_Tree).size rfl rfl rfl) rfl ?_
      refine lo_eff rfl rfl ?_
      refine ln_store1 (i := 4) rfl rfl rfl hv6.2 (tiSl_impl_Tree).size rfl ?_
      refine lo_last (by kernel_rfl) ?_
      refine lo_nil ?_
      refine at_cd ?_
      refine cd_region ?_
      refine ln_pv (pv_add' rfl rfl (wrap_succ (by omega))) rfl ?_
      refine ln_pv (pv_move rfl) rfl ?_
      refine ln_nil ?_
      refine at_rnd (i_6 + 1, ys_6 ++ dsF6, v6) (hl1.trans ht5) ?_ ?_ ⟨rfl, rfl, rfl, rfl, rfl,  trivial⟩ (.cons _ (.cons _ (.cons_cons _ (.cons_cons _ (.cons_cons _ (.cons_cons _ .slnil))))))
      · intro s9 hs9
        exact ⟨by dsimp only; omega, RTs_snoc hi_6 (RTs.mv hIr_6 hs9) (RT.mv hdF6 hs9)⟩
      · dsimp only; omega
    · skip
      refine lo_eff rfl rfl ?_
      refine ln_store1 (i := 0) rfl rfl rfl rfl (tibool).size rfl ?_
      refine lo_last (by kernel_rfl) ?_
      refine lo_eff rfl rfl ?_
      refine ln_store1 (i := 0) rfl rfl rfl rfl (tibool).size rfl ?_
      refine lo_last (by kernel_rfl) ?_
      refine lo_eff rfl rfl ?_
      refine ln_pv (pv_ldo (i := 0) rfl Tryz.underlying4 rfl rfl rfl) rfl ?_
      refine lo_last (by kernel_rfl) ?_
      refine lo_cd ?_
      refine cd_tt rfl ?_
      refine cd_rowshape (i := 1) rfl (fun adR_6 cpR_6 hvR_6 hleR_6 hposR_6 => ?_)
      subst hvR_6
      refine cd_dr2 [0, 2, 3, 4] [0, 1, 2, 3, 4, 5, 6, 7, 8, 9, 10, 12, 16] [0, 1, 2, 3, 4, 5, 6, 7, 8, 9, 10, 12] 11 13 [13, 14, 15, 16, 17] [11, 14, 15, 16, 17] mixed (by kernel_rfl) ?_
      refine lo_pv rfl rfl (sk_js (Tr.refl _) [0, 2, 3, 4] rfl) (pv_fieldAddr (off := 3) (r := 3) Tryz.underlying42 rfl (tiSl_impl_Tree).size rfl rfl rfl) rfl ?_
      refine lo_pv rfl rfl (sk_js (Tr.refl _) [0, 2, 3, 4] rfl) (pv_ldo (i := 1) rfl Tryz.underlying39 rfl rfl rfl) rfl ?_
      refine lo_pv rfl rfl (sk_js (Tr.refl _) [0, 2, 3, 4] rfl) (pv_ixN (o := 0) (i := 6) Tryz.underlying39 (tiimpl_Tree).size rfl rfl (by decide)) rfl ?_
      refine lo_pv rfl rfl (sk_js (Tr.refl _) [0, 2, 3, 4] rfl) (pv_fieldAddr (off := 3) (r := 33) Tryz.underlying42 rfl (tiSl_impl_Tree).size rfl rfl rfl) rfl ?_
      refine lo_pv rfl rfl (sk_js (Tr.refl _) [0, 2, 3, 4] rfl) (pv_ldo (i := 2) rfl Tryz.underlying39 rfl rfl rfl) rfl ?_
      refine lo_pv rfl rfl (sk_js (Tr.refl _) [0, 2, 3, 4] rfl) (pv_move rfl) rfl ?_
      refine lo_pv rfl rfl (sk_js (Tr.refl _) [0, 2, 3, 4] rfl) (pv_nilCheck rfl) rfl ?_
      refine lo_pv rfl rfl (sk_js (Tr.refl _) [0, 2, 3, 4] rfl) (pv_fieldAddr (off := 7)  Tryz.underlying115 rfl (tiSl_kmsg_JoinGroupRequestProtocol).size rfl rfl rfl) rfl ?_
      refine lo_pv rfl rfl (sk_js (Tr.refl _) [0, 2, 3, 4] rfl) (pv_ldr (j := 7) hrc Tryz.underlying113 rfl rfl rfl) rfl ?_
      refine lo_pv rfl rfl (sk_js (Tr.refl _) [0, 2, 3, 4] rfl) (pv_move rfl) rfl ?_
      refine lo_pv rfl rfl (sk_js (Tr.refl _) [0, 2, 3, 4] rfl) (pv_ixN Tryz.underlying113 (tipub_kmsg_JoinGroupRequestProtocol).size rfl rfl hi_6) rfl ?_
      refine lo_pv rfl rfl (sk_js (Tr.refl _) [0, 2, 3, 4] rfl) (pv_len_slice Tryz.underlying39 rfl) rfl ?_
      refine lo_nil (at_two ?_ ?_)
      · skip
        refine lo_eff rfl rfl ?_
        refine ln_callA en_73 rfl (fun u hu => tell_JoinGroupRequestProtocol u gE_6 (oE_6 + i_6 * 3) (els (y.at_ 6))[i_6] cE_6 (hrce_6.mv hu).2 (RMp.mv hme_6 hu) htge_6) rfl (fun u7 v7 ht7 hR7 => ?_)
        have hrc := hrc.mv ht7
        have hrt := hrt.mv ht7
        have hMK := hMK.mv ht7
        have hRK := hRK.mv ht7
        have hf4 := hf4.mv ht7
        have hLs_6 := hLs_6.mv ht7
        have hf7 := hf7.mv ht7
        have hsS1 := hsS1.mv ht7
        have hsS2 := hsS2.mv ht7
        have hd4 := hd4.mv ht7
        have hsS4 := hsS4.mv ht7
        have hIr_6 := hIr_6.mv ht7
        have hrce_6 := hrce_6.mv ht7
        have hme_6 := hme_6.mv ht7
        obtain ⟨dsF6, rfl, hdF6⟩ := hR7
        refine lo_back (sk_js ht7 [0, 2, 3, 4] rfl) ?_
        refine lo_eff rfl rfl ?_
        refine ln_lit (vs := [_]) Tryz.underlying39 tiimpl_Tree rfl (by decide) rfl rfl rfl rfl rfl rfl (fun b5 => ?_)
        refine lo_back (sk_js ht7 [1, 3, 4, 5] rfl) ?_
        refine lo_eff rfl rfl ?_
        refine ln_append (i := 2) rfl Tryz.underlying39 tiimpl_Tree rfl (by decide) rfl rfl (src_obj (j := 0) rfl rfl rfl) (by rw [hil_6]; first | omega | (simp only [maxLen]; omega)) (by rw [hil_6]; first | omega | (simp only [maxLen]; omega)) rfl (k' := ((els (y.at_ 6)).take (i_6 + 1)).length) (xs' := ys_6 ++ [.int .i64 0, .slice none 0 0, .bool false, .slice none 0 0, .slice none 0 0]) hsl_6.symm (by simp [flat, Value.cells]) (fun v8 hv8 => ?_)
        refine lo_back (sk_js ht7 [1, 3, 4, 5] rfl) ?_
        refine lo_eff rfl rfl ?_
        refine ln_pv (pv_ixN (o := 0) (i := 6) Tryz.underlying39 (tiimpl_Tree).size rfl rfl (by decide)) rfl ?_
        refine lo_back (sk_js ht7 [1, 3, 4, 5] rfl) ?_
        refine lo_pv rfl rfl (sk_js ht7 [1, 3, 4, 5] rfl) (pv_fieldAddr (off := 3) (r := 33) Tryz.underlying42 rfl (tiSl_impl_Tree).size rfl rfl rfl) rfl ?_
        refine lo_eff rfl rfl ?_
        refine ln_store1 (i := 4) rfl rfl rfl hv8.2 (tiSl_impl_Tree).size rfl ?_
        refine lo_last (by kernel_rfl) ?_
        refine lo_cd ?_
        refine cd_region ?_
        refine ln_rowshp (i := 2) rfl (fun ad2_6 cp2_6 hv2_6 hle2_6 hpos2_6 => ?_)
        subst hv2_6
        obtain ⟨g2_6, rfl⟩ := hpos2_6 (by omega)
        refine ln_pv (pv_ixN Tryz.underlying39 tiimpl_Tree.size rfl rfl (by omega)) rfl ?_
        refine ln_storeR (i := 2) (vs := dsF6) (xs' := ys_6 ++ dsF6) rfl rfl rfl rfl (by rw [show List.length _ = 5 from hdF6.len]; exact tiimpl_Tree.size) (by have h5 : List.length (dsF6) = 5 := hdF6.len; omega) hdF6.cells (wr_end (show 5 = List.length _ from Eq.symm hdF6.len) (by have h6 := (RTs.len5 hIr_6); simp only [List.length_map] at h6; omega)) ?_
        refine ln_nil ?_
        refine at_cd ?_
        refine cd_region ?_
        refine ln_pv (pv_add' rfl rfl (wrap_succ (by omega))) rfl ?_
        refine ln_pv (pv_move rfl) rfl ?_
        refine ln_nil ?_
        refine at_rnd (i_6 + 1, ys_6 ++ dsF6, (.slice (some ⟨g2_6, 0, none⟩) ((els (y.at_ 6)).take (i_6 + 1)).length cp2_6)) (hl1.trans ht7) ?_ ?_ ⟨rfl, rfl, rfl, rfl, rfl,  trivial⟩ (.cons _ (.cons _ (.cons_cons _ (.cons_cons _ (.cons_cons _ (.cons_cons _ .slnil))))))
        · intro s9 hs9
          exact ⟨by dsimp only; omega, RTs_snoc hi_6 (RTs.mv hIr_6 hs9) (RT.mv hdF6 hs9)⟩
        · dsimp only; omega
      · skip
        refine lo_eff rfl rfl ?_
        refine ln_lit (vs := [_]) Tryz.underlying39 tiimpl_Tree rfl (by decide) rfl rfl rfl rfl rfl rfl (fun b6 => ?_)
        refine lo_back (sk_js (Tr.refl _) [1, 3, 4, 5] rfl) ?_
        refine lo_eff rfl rfl ?_
        refine ln_callA en_73 rfl (fun u hu => tell_JoinGroupRequestProtocol u gE_6 (oE_6 + i_6 * 3) (els (y.at_ 6))[i_6] cE_6 (hrce_6.mv hu).2 (RMp.mv hme_6 hu) htge_6) rfl (fun u10 v10 ht10 hR10 => ?_)
        have hrc := hrc.mv ht10
        have hrt := hrt.mv ht10
        have hMK := hMK.mv ht10
        have hRK := hRK.mv ht10
        have hf4 := hf4.mv ht10
        have hLs_6 := hLs_6.mv ht10
        have hf7 := hf7.mv ht10
        have hsS1 := hsS1.mv ht10
        have hsS2 := hsS2.mv ht10
        have hd4 := hd4.mv ht10
        have hsS4 := hsS4.mv ht10
        have hIr_6 := hIr_6.mv ht10
        have hrce_6 := hrce_6.mv ht10
        have hme_6 := hme_6.mv ht10
        obtain ⟨dsF6, rfl, hdF6⟩ := hR10
        refine lo_back (sk_js ht10 [1, 3, 4, 5] rfl) ?_
        refine lo_eff rfl rfl ?_
        refine ln_append (i := 2) rfl Tryz.underlying39 tiimpl_Tree rfl (by decide) rfl rfl (src_obj (j := 0) rfl rfl rfl) (by rw [hil_6]; first | omega | (simp only [maxLen]; omega)) (by rw [hil_6]; first | omega | (simp only [maxLen]; omega)) rfl (k' := ((els (y.at_ 6)).take (i_6 + 1)).length) (xs' := ys_6 ++ [.int .i64 0, .slice none 0 0, .bool false, .slice none 0 0, .slice none 0 0]) hsl_6.symm (by simp [flat, Value.cells]) (fun v11 hv11 => ?_)
        refine lo_back (sk_js ht10 [1, 3, 4, 5] rfl) ?_
        refine lo_eff rfl rfl ?_
        refine ln_pv (pv_ixN (o := 0) (i := 6) Tryz.underlying39 (tiimpl_Tree).size rfl rfl (by decide)) rfl ?_
        refine lo_back (sk_js ht10 [1, 3, 4, 5] rfl) ?_
        refine lo_pv rfl rfl (sk_js ht10 [1, 3, 4, 5] rfl) (pv_fieldAddr (off := 3) (r := 33) Tryz.underlying42 rfl (tiSl_impl_Tree).size rfl rfl rfl) rfl ?_
        refine lo_eff rfl rfl ?_
        refine ln_store1 (i := 4) rfl rfl rfl hv11.2 (tiSl_impl_Tree).size rfl ?_
        refine lo_last (by kernel_rfl) ?_
        refine lo_cd ?_
        refine cd_region ?_
        refine ln_rowshp (i := 2) rfl (fun ad2_6 cp2_6 hv2_6 hle2_6 hpos2_6 => ?_)
        subst hv2_6
        obtain ⟨g2_6, rfl⟩ := hpos2_6 (by omega)
        refine ln_pv (pv_ixN Tryz.underlying39 tiimpl_Tree.size rfl rfl (by omega)) rfl ?_
        refine ln_storeR (i := 2) (vs := dsF6) (xs' := ys_6 ++ dsF6) rfl rfl rfl rfl (by rw [show List.length _ = 5 from hdF6.len]; exact tiimpl_Tree.size) (by have h5 : List.length (dsF6) = 5 := hdF6.len; omega) hdF6.cells (wr_end (show 5 = List.length _ from Eq.symm hdF6.len) (by have h6 := (RTs.len5 hIr_6); simp only [List.length_map] at h6; omega)) ?_
        refine ln_nil ?_
        refine at_cd ?_
        refine cd_region ?_
        refine ln_pv (pv_add' rfl rfl (wrap_succ (by omega))) rfl ?_
        refine ln_pv (pv_move rfl) rfl ?_
        refine ln_nil ?_
        refine at_rnd (i_6 + 1, ys_6 ++ dsF6, (.slice (some ⟨g2_6, 0, none⟩) ((els (y.at_ 6)).take (i_6 + 1)).length cp2_6)) (hl1.trans ht10) ?_ ?_ ⟨rfl, rfl, rfl, rfl, rfl,  trivial⟩ (.cons _ (.cons _ (.cons_cons _ (.cons_cons _ (.cons_cons _ (.cons_cons _ .slnil))))))
        · intro s9 hs9
          exact ⟨by dsimp only; omega, RTs_snoc hi_6 (RTs.mv hIr_6 hs9) (RT.mv hdF6 hs9)⟩
        · dsimp only; omega
  · -- no
    refine cd_exit rfl ?_
    refine at_cd ?_
    have hq_6 : i_6 = (els (y.at_ 6)).length := by omega
    subst hq_6
    rw [List.take_length] at hIr_6
    refine cd_row (i := 0) (m' := ((els (y.at_ 6)).map (tlT F_sJoinGroupRequestProtocol)).length) (xs' := ys_6) rfl (by simp) rfl ?_
    refine cd_dr' [1, 2, 3] [0, 1, 2, 3, 4, 5, 7] [0, 1, 2, 3, 4, 5, 6, 7, 8] mixed (by kernel_rfl) ?_
    refine lo_pv rfl rfl (sk_js (Tr.refl _) [1, 2, 3] rfl) (pv_fieldAddr (off := 3) (r := 3) Tryz.underlying42 rfl (tiSl_impl_Tree).size rfl rfl rfl) rfl ?_
    refine lo_pv rfl rfl (sk_js (Tr.refl _) [1, 2, 3] rfl) (pv_ldo (i := 0) rfl Tryz.underlying39 rfl rfl rfl) rfl ?_
    refine lo_pv rfl rfl (sk_js (Tr.refl _) [1, 2, 3] rfl) (pv_move rfl) rfl ?_
    refine lo_pv rfl rfl (sk_js (Tr.refl _) [1, 2, 3] rfl) (pv_nilCheck rfl) rfl ?_
    refine lo_pv rfl rfl (sk_js (Tr.refl _) [1, 2, 3] rfl) (pv_fieldAddr (off := 8)  Tryz.underlying115 rfl (tiPt_string).size rfl rfl rfl) rfl ?_
    refine lo_pv rfl rfl (sk_js (Tr.refl _) [1, 2, 3] rfl) (pv_ldr (j := 8) hrc Tryz.underlying97 rfl rfl rfl) rfl ?_
    refine lo_eff rfl rfl ?_
    refine ln_callA en_67 rfl (fun u hu => text_tree u _ _ (Txt.mv hf7 hu)) rfl (fun u13 v13 ht13 hR13 => ?_)
    have hrc := hrc.mv ht13
    have hrt := hrt.mv ht13
    have hMK := hMK.mv ht13
    have hRK := hRK.mv ht13
    have hf4 := hf4.mv ht13
    have hLs_6 := hLs_6.mv ht13
    have hf7 := hf7.mv ht13
    have hsS1 := hsS1.mv ht13
    have hsS2 := hsS2.mv ht13
    have hd4 := hd4.mv ht13
    have hsS4 := hsS4.mv ht13
    have hIr_6 := hIr_6.mv ht13
    obtain ⟨ds, rfl, hd7⟩ := hR13
    obtain ⟨qS7, qL7, qU7, rfl, _, hqS7, ⟨_, hqL7, _⟩, ⟨_, hqU7, _⟩⟩ := hd7.open
    refine lo_back (sk_js ht13 [1, 2, 3] rfl) ?_
    refine lo_pv rfl rfl (sk_js ht13 [1, 2, 3] rfl) (pv_ixN (o := 0) (i := 7) Tryz.underlying39 (tiimpl_Tree).size rfl rfl (by decide)) rfl ?_
    refine lo_eff rfl rfl ?_
    refine ln_store (i := 2) (vs := [_, _, _, _, _]) rfl rfl rfl rfl (tiimpl_Tree).size rfl (by simp [(RS.one hqL7), (RS.one hqS7), (RS.one hqU7)]) rfl ?_
    refine lo_last (by kernel_rfl) ?_
    refine lo_cd ?_
    refine cd_sr ?_
    refine ln_pv (pv_move rfl) rfl ?_
    refine ln_pv (pv_nilCheck rfl) rfl ?_
    refine ln_pv (pv_fieldAddr (off := 9)  Tryz.underlying115 rfl (tipub_kmsg_Tags).size rfl rfl rfl) rfl ?_
    refine ln_pv (pv_makeFunc (vf := #[]) (vc := #[.pointer (some ⟨b2, 0, none⟩)]) (by rw [List.map_toArray, List.map_toArray]; rfl) (by rw [List.map_toArray, List.map_toArray]; rfl)) rfl ?_
    refine ln_nilrow 69 2 ?_
    have hst := tclo_JoinGroupRequest b2 (.int .i64 0) (.slice none 0 0) (.bool false) (.slice (some ⟨bL, 0, none⟩) 8 8) y.u hkeys hlens (Nat.le_of_lt hlen)
    have hEa := fun (u : Vw) hr hm hk h0 hok hav hnd => tags_EachG (fun z => TA b2 (.int .i64 0) (.slice none 0 0) (.bool false) (.slice (some ⟨bL, 0, none⟩) 8 8) z) TB (TInv y.u) 74 (.pointer (some ⟨b2, 0, none⟩)) en_74 u b (0 + 9) mv1 lt y.u (.slice none 0 0, [], 0) hr hm hk hsrt (by omega) h0 hst hok hav hnd
    refine ln_callH (E := [TA b2 (.int .i64 0) (.slice none 0 0) (.bool false) (.slice (some ⟨bL, 0, none⟩) 8 8) (.slice none 0 0, [], 0), TB (.slice none 0 0, [], 0)]) (H0 := [_, _, _]) (List.perm_middle (l₁ := [_, _])) en_69 rfl (fun u hu hok hav hnd => hEa u (RC1.mv hrt hu) (hMK.mv hu) (RK.mv hu hRK) (fun w hw => ⟨rfl, by rw [List.take_zero]; rfl⟩) hok hav hnd) rfl ?_
    rintro u14 v14 _ ht14 ⟨xu14, ⟨⟨vU, csU, kU⟩, rfl, hzU⟩, hxu14⟩
    obtain ⟨hkU, hRU⟩ := (hzU.mv hxu14).get
    dsimp only at hkU hRU
    subst hkU
    rw [List.take_length] at hRU
    have hrc := hrc.mv ht14
    have hrt := hrt.mv ht14
    have hMK := hMK.mv ht14
    have hRK := hRK.mv ht14
    have hf4 := hf4.mv ht14
    have hLs_6 := hLs_6.mv ht14
    have hf7 := hf7.mv ht14
    have hsS1 := hsS1.mv ht14
    have hsS2 := hsS2.mv ht14
    have hd4 := hd4.mv ht14
    have hsS4 := hsS4.mv ht14
    have hIr_6 := hIr_6.mv ht14
    have hd7 := hd7.mv ht14
    refine ln_cd ?_
    refine cd_sr ?_
    refine ln_pv (pv_fieldAddr (off := 4) (r := 4) Tryz.underlying42 rfl (tiSl_impl_Tag).size rfl rfl rfl) rfl ?_
    refine ln_pv (pv_ldo (i := 0) rfl Tryz.underlying40 rfl rfl rfl) rfl ?_
    refine ln_callT (i := 1) en_71 rfl rfl (fun u hu hok hav => impl_sorted u vU y.u csU hsrt (by omega) (RUs.cells hRU).1 (fun i hi => by obtain ⟨c1, tv, c3, he, hc, _, _⟩ := RUs.at_ hi hRU; rw [he, List.append_assoc, List.getElem?_append_right (by omega), hc]; simp) hok hav) rfl ?_
    rintro u15 v15 _ ht15 ⟨_, rfl, _⟩
    have hrc := hrc.mv ht15
    have hrt := hrt.mv ht15
    have hMK := hMK.mv ht15
    have hRK := hRK.mv ht15
    have hf4 := hf4.mv ht15
    have hLs_6 := hLs_6.mv ht15
    have hf7 := hf7.mv ht15
    have hsS1 := hsS1.mv ht15
    have hsS2 := hsS2.mv ht15
    have hd4 := hd4.mv ht15
    have hsS4 := hsS4.mv ht15
    have hIr_6 := hIr_6.mv ht15
    have hd7 := hd7.mv ht15
    have hRU := hRU.mv ht15
    refine ln_cd ?_
    refine cd_rowone (i := 1) rfl (fun hoU => ?_)
    refine cd_sr ?_
    refine ln_pv (pv_ldO (i := 0) rfl Tryz.underlying42 rfl (tiimpl_Tree).size rfl rfl) rfl ?_
    refine ln_storeW (i := 4) rfl rfl rfl rfl (tiimpl_Tree).size rfl (by simp [hoU]) ?_
    refine ln_cd ?_
    refine cd_ret ?_
    refine at_retC (i := 4) rfl rfl rfl Tryz.underlying42 rfl tiimpl_Tree.size rfl (fun w hS => ?_)
    have hRTs : RTs hS.fin [.mk 0 (y.at_ 0).s false [] [], .mk (IntKind.i32.wrap (y.at_ 1).n) [] false [] [], .mk (IntKind.i32.wrap (y.at_ 2).n) [] false [] [], .mk 0 (y.at_ 3).s false [] [], .mk 0 (if (y.at_ 4).z then [] else (y.at_ 4).s) (y.at_ 4).z [] [], .mk 0 (y.at_ 5).s false [] [], .mk 0 [] (y.at_ 6).z ((els (y.at_ 6)).map (tlT F_sJoinGroupRequestProtocol)) [], .mk 0 (if (y.at_ 7).z then [] else (y.at_ 7).s) (y.at_ 7).z [] []] _ := ⟨[_, _, _, _, _], _, rfl, RT_str (RSv.mv hsS1 hS.trFin), ⟨[.int .i64 (IntKind.i32.wrap (y.at_ 1).n), .slice none 0 0, .bool false, .slice none 0 0, .slice none 0 0], _, rfl, RT_num (I64_i32 _), ⟨[.int .i64 (IntKind.i32.wrap (y.at_ 2).n), .slice none 0 0, .bool false, .slice none 0 0, .slice none 0 0], _, rfl, RT_num (I64_i32 _), ⟨[_, _, _, _, _], _, rfl, RT_str (RSv.mv hsS2 hS.trFin), ⟨[_, _, _, _, _], _, rfl, RT.mv hd4 hS.trFin, ⟨[_, _, _, _, _], _, rfl, RT_str (RSv.mv hsS4 hS.trFin), ⟨[_, _, _, _, _], _, rfl, RT_list hnil1_6 rfl (row_rs hS (j := 2) rfl (RTs.cells hIr_6)) (RTs.mv hIr_6 hS.trFin), ⟨[_, _, _, _, _], _, rfl, RT.mv hd7 hS.trFin, rfl⟩⟩⟩⟩⟩⟩⟩⟩
    refine ⟨_, rfl, RT.shut ⟨_, _, _, rfl, (show I64 0 from by unfold I64; omega), RS_nil 1, ⟨_, obj_rsS hS (i := 3) (sz := 5) (m := 8) rfl rfl (RTs.cells hRTs), hRTs⟩, ⟨csU, row_rs hS (j := 1) rfl (RUs.cells hRU).2, RUs.mv hS.trFin hRU⟩⟩⟩
end K
end Go.Proofs.YtpphedmelbfnmaaGreatDoor
