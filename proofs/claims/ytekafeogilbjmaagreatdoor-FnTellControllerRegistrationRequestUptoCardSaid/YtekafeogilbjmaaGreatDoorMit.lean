import Derived.Test.YtekafeogilbjmaaGreatDoorTm
import Derived.Test.YtekafeogilbjmaaGreatDoorMis
set_option linter.unusedVariables false
set_option linter.unusedSimpArgs false
namespace Go.Proofs.YtekafeogilbjmaaGreatDoor
namespace K
open Go Go.Lib
theorem tclo_ControllerRegistrationRequestListener (b3 : Nat) (c0 c1 c2 c3 : Value) (us : Tags) (hk : ∀ y ∈ us, y.1 < 4294967296) (hl : ∀ y ∈ us, y.2.length ≤ 4398046511104) (hlen : us.length ≤ 1099511627776) : ∀ j (hj : j < us.length) (u : Vw) (z : Value × List Value × Nat) (tv : Value), Iv (TInv us) j u z → RSv u tv (us[j]'hj).2 → HF [TA b3 c0 c1 c2 c3 z, TB z] u.w → (∀ q ∈ blks [TA b3 c0 c1 c2 c3 z, TB z], u.av q) → (blks [TA b3 c0 c1 c2 c3 z, TB z]).Nodup → CH Tryz.prog 225 [.int .u32 ((us[j]'hj).1 : Int), tv, .pointer (some ⟨b3, 0, none⟩)] u [TA b3 c0 c1 c2 c3 z, TB z] fun u r E' => ∃ z', E' = [TA b3 c0 c1 c2 c3 z', TB z'] ∧ Iv (TInv us) (j + 1) u z' := by
  rintro j hj u ⟨vU, cs, k⟩ tv hz htv hok hav hnd
  obtain ⟨hk0, hR⟩ := hz.get
  dsimp only at hk0 hR
  subst hk0
  have hbl := hl _ (List.getElem_mem hj)
  obtain ⟨adV, cV, rfl, hleV⟩ := htv.shape
  refine ch_enter Tryz.func225 rfl Tryz.ntmps225 rfl hok hav hnd ?_
  refine cd_draw' [0] [0, 1, 2, 3, 5, 8] [0, 1, 2, 3, 4, 5, 6, 7, 8, 9] mixed (by kernel_rfl) ?_
  refine lo_pv rfl rfl (sk_js (Tr.refl _) [0] rfl) (pv_fieldAddr (off := 4) (r := 4) Tryz.underlying37 rfl (tiSl_impl_Tag).size rfl rfl rfl) rfl ?_
  refine lo_pv rfl rfl (sk_js (Tr.refl _) [0] rfl) (pv_ldo (i := 0) rfl Tryz.underlying35 rfl rfl rfl) rfl ?_
  refine lo_pv rfl rfl (sk_js (Tr.refl _) [0] rfl) (pv_move rfl) rfl ?_
  refine lo_pv rfl rfl (sk_js (Tr.refl _) [0] rfl) (pv_move rfl) rfl ?_
  refine lo_eff rfl rfl ?_
  refine ln_nilrow 5 1 ?_
  refine ln_append (i := 0) rfl Tryz.underlying22 tiuint8 rfl (by decide) rfl rfl (RS.src htv) (by simp only [maxLen]; omega) (by omega) rfl (k' := (us[k]'hj).2.length) (xs' := u8s (us[k]'hj).2) (by omega) (by simp) (fun vc hvc => ?_)
  refine ln_free1 (fun q h => by simpa using h) (fun s1 ht1 hK1 => ?_)
  have hcp : RSv s1 vc (us[k]'hj).2 := Known.rs hK1 (u8s_one _)
  clear hK1
  have htv := htv.mv ht1
  have hR := RUs.mv ht1 hR
  refine lo_back (sk_js ht1 [0] rfl) ?_
  refine lo_pv rfl rfl (sk_js ht1 [0] rfl) (pv_struct [(0, 1), (1, 1)] (l := [_, _]) rfl Tryz.underlying69 tiimpl_Tag (by kernel_rfl) rfl (by simp [okL, Nat.ble_eq, Value.cells, hvc.2])) rfl ?_
  refine lo_eff rfl rfl ?_
  refine ln_lit (vs := [_]) Tryz.underlying35 tiimpl_Tag rfl (by decide) rfl rfl rfl rfl rfl rfl (fun b1 => ?_)
  refine lo_back (sk_js ht1 [1] rfl) ?_
  refine lo_eff rfl rfl ?_
  refine ln_append (i := 2) rfl Tryz.underlying35 tiimpl_Tag rfl (by decide) rfl rfl (src_obj (j := 0) rfl rfl (by simp [flat, Value.cells, hvc.2])) (by first | omega | (simp only [maxLen]; omega)) (by first | omega | (simp only [maxLen]; omega)) rfl (k' := (k + 1)) (xs' := cs ++ [.int .u32 ((us[k]'hj).1 : Int), vc]) rfl (by simp [flat, Value.cells]) (fun v1 hv1 => ?_)
  refine lo_back (sk_js ht1 [1] rfl) ?_
  refine lo_pv rfl rfl (sk_js ht1 [1] rfl) (pv_fieldAddr (off := 4) (r := 4) Tryz.underlying37 rfl (tiSl_impl_Tag).size rfl rfl rfl) rfl ?_
  refine lo_eff rfl rfl ?_
  refine ln_store1 (i := 1) rfl rfl rfl hv1.2 (tiSl_impl_Tag).size rfl ?_
  refine lo_last (by kernel_rfl) ?_
  refine lo_nil ?_
  refine at_retH0 [TA b3 c0 c1 c2 c3 (v1, cs ++ [.int .u32 ((us[k]'hj).1 : Int), vc], k + 1), TB (v1, cs ++ [.int .u32 ((us[k]'hj).1 : Int), vc], k + 1)] (.cons _ (.cons_cons _ (.cons_cons _ .slnil))) rfl (fun w hS => ⟨(v1, cs ++ [.int .u32 ((us[k]'hj).1 : Int), vc], k + 1), rfl, fun w2 hw2 => ⟨rfl, ?_⟩⟩)
  rw [take_snoc' hj]
  have hq := (hS.trFinH _ _).trans hw2
  exact RUs.append (RUs.mv hq hR) (RUs.one_ (hk _ (List.getElem_mem hj)) (RSv.mv hcp hq))
theorem tlT_ControllerRegistrationRequestListener (y : Tre) : tlT F_sControllerRegistrationRequestListener y = .mk 0 [] false [.mk 0 (y.at_ 0).s false [] [], .mk 0 (y.at_ 1).s false [] [], .mk (IntKind.u16.wrap (y.at_ 2).n) [] false [] [], .mk (IntKind.i16.wrap (y.at_ 3).n) [] false [] []] y.u := rfl
set_option maxHeartbeats 2000000 in
theorem tell_ControllerRegistrationRequestListener (t : Vw) (b o : Nat) (y : Tre) (cells : List Value) (hrc : RC t b o cells) (hM : RMp t F_sControllerRegistrationRequestListener y cells) (htg : tgT F_sControllerRegistrationRequestListener y) : CA Tryz.prog 171 [.pointer (some ⟨b, o, none⟩)] t fun u r => ∃ ds, r = .agg ds.toArray ∧ RT u (tlT F_sControllerRegistrationRequestListener y) ds := by
  rw [tlT_ControllerRegistrationRequestListener]
  obtain ⟨⟨hsrt, hkeys, hlens, hlen⟩, htl⟩ := htg
  simp only [F_sControllerRegistrationRequestListener, tgL] at htl
  obtain ⟨qg0, qg1, qg2, qg3, _⟩ := htl
  obtain ⟨fc1, mv1, hce1, hfl1, hTg1⟩ := hM
  simp only [F_sControllerRegistrationRequestListener, RMl] at hfl1
  obtain ⟨x1_0, z1_0, e1_0, g1_0, x1_1, z1_1, e1_1, g1_1, x1_2, z1_2, e1_2, g1_2, x1_3, z1_3, e1_3, g1_3, hend1⟩ := hfl1
  obtain rfl := (RMf_str (by decide)).1 g1_0
  obtain rfl := (RMf_str (by decide)).1 g1_1
  obtain rfl := RMf_u16.1 g1_2
  obtain rfl := RMf_i16.1 g1_3
  subst hend1
  subst e1_3
  subst e1_2
  subst e1_1
  subst e1_0
  rw [hce1] at hrc
  simp only [List.cons_append, List.nil_append, List.append_assoc] at hrc
  obtain ⟨lt, hMK, hRK⟩ := hTg1
  have hrt : RC1 t b (o + 4) mv1 := hrc.sub 4 (c1 := [_, _, _, _]) (c2 := [mv1]) (c3 := []) rfl rfl
  have hrc : RCx t b o _ _ := hrc
  refine ca_enter Tryz.func171 rfl Tryz.ntmps171 rfl ?_
  refine cd_sr ?_
  refine ln_alloc tiimpl_Tree rfl rfl (fun b1 => ?_)
  refine ln_cd ?_
  refine cd_sr ?_
  refine ln_makeN (m := 4) (l := [.int .i64 0, .slice none 0 0, .bool false, .slice none 0 0, .slice none 0 0, .int .i64 0, .slice none 0 0, .bool false, .slice none 0 0, .slice none 0 0, .int .i64 0, .slice none 0 0, .bool false, .slice none 0 0, .slice none 0 0, .int .i64 0, .slice none 0 0, .bool false, .slice none 0 0, .slice none 0 0]) Tryz.underlying34 tiimpl_Tree rfl rfl (by kernel_rfl) (by decide) (by decide) rfl (fun bL => ?_)
  refine ln_pv (pv_struct [(0, 1), (1, 1), (2, 1), (3, 1), (4, 1)] (l := [_, _, _, _, _]) rfl Tryz.underlying37 tiimpl_Tree (by kernel_rfl) rfl rfl) rfl ?_
  refine ln_alloc tiimpl_Tree rfl rfl (fun b2 => ?_)
  refine ln_storeW (i := 0) rfl rfl rfl rfl (tiimpl_Tree).size rfl (by simp []) ?_
  refine ln_cd ?_
  refine cd_dr' [0, 1, 2] [0, 1, 2, 3, 4, 5, 7, 8] [0, 1, 2, 3, 4, 5, 6, 7, 8, 9] mixed (by kernel_rfl) ?_
  refine lo_pv rfl rfl (sk_js (Tr.refl _) [0, 1, 2] rfl) (pv_fieldAddr (off := 3) (r := 3) Tryz.underlying37 rfl (tiSl_impl_Tree).size rfl rfl rfl) rfl ?_
  refine lo_pv rfl rfl (sk_js (Tr.refl _) [0, 1, 2] rfl) (pv_ldo (i := 0) rfl Tryz.underlying34 rfl rfl rfl) rfl ?_
  refine lo_pv rfl rfl (sk_js (Tr.refl _) [0, 1, 2] rfl) (pv_move rfl) rfl ?_
  refine lo_pv rfl rfl (sk_js (Tr.refl _) [0, 1, 2] rfl) (pv_nilCheck rfl) rfl ?_
  refine lo_pv rfl rfl (sk_js (Tr.refl _) [0, 1, 2] rfl) (pv_fieldAddr (off := 0)  Tryz.underlying185 rfl (tistring).size rfl rfl rfl) rfl ?_
  refine lo_pv rfl rfl (sk_js (Tr.refl _) [0, 1, 2] rfl) (pv_ldr (j := 0) hrc Tryz.underlying9 rfl rfl rfl) rfl ?_
  refine lo_eff rfl rfl ?_
  refine ln_s2b Tryz.underlying9 Tryz.underlying22 Tryz.underlying5 rfl rfl (fun bS1 cS1 zS1 fS1 hcS1 => ?_)
  refine ln_free1 (fun q h => h.elim) (fun sS1 htS1 hKS1 => ?_)
  have hsS1 := rs_of_obj hKS1 hcS1
  clear hKS1
  have hrc := hrc.mv htS1
  have hrt := hrt.mv htS1
  have hMK := hMK.mv htS1
  have hRK := hRK.mv htS1
  refine lo_back (sk_js htS1 [0, 1, 2] rfl) ?_
  refine lo_pv rfl rfl (sk_js htS1 [0, 1, 2] rfl) (pv_struct [(0, 1), (1, 1), (2, 1), (3, 1), (4, 1)] (l := [_, _, _, _, _]) rfl Tryz.underlying37 tiimpl_Tree (by kernel_rfl) rfl (by simp [okL, Nat.ble_eq, Value.cells, (RS.one hsS1)])) rfl ?_
  refine lo_pv rfl rfl (sk_js htS1 [0, 1, 2] rfl) (pv_ixN (o := 0) (i := 0) Tryz.underlying34 (tiimpl_Tree).size rfl rfl (by decide)) rfl ?_
  refine lo_eff rfl rfl ?_
  refine ln_store (i := 1) (vs := [_, _, _, _, _]) rfl rfl rfl rfl (tiimpl_Tree).size rfl (by simp [(RS.one hsS1)]) rfl ?_
  refine lo_last (by kernel_rfl) ?_
  refine lo_cd ?_
  refine cd_dr' [0, 1, 2] [0, 1, 2, 3, 4, 5, 7, 8] [0, 1, 2, 3, 4, 5, 6, 7, 8, 9] mixed (by kernel_rfl) ?_
  refine lo_pv rfl rfl (sk_js (Tr.refl _) [0, 1, 2] rfl) (pv_fieldAddr (off := 3) (r := 3) Tryz.underlying37 rfl (tiSl_impl_Tree).size rfl rfl rfl) rfl ?_
  refine lo_pv rfl rfl (sk_js (Tr.refl _) [0, 1, 2] rfl) (pv_ldo (i := 0) rfl Tryz.underlying34 rfl rfl rfl) rfl ?_
  refine lo_pv rfl rfl (sk_js (Tr.refl _) [0, 1, 2] rfl) (pv_move rfl) rfl ?_
  refine lo_pv rfl rfl (sk_js (Tr.refl _) [0, 1, 2] rfl) (pv_nilCheck rfl) rfl ?_
  refine lo_pv rfl rfl (sk_js (Tr.refl _) [0, 1, 2] rfl) (pv_fieldAddr (off := 1)  Tryz.underlying185 rfl (tistring).size rfl rfl rfl) rfl ?_
  refine lo_pv rfl rfl (sk_js (Tr.refl _) [0, 1, 2] rfl) (pv_ldr (j := 1) hrc Tryz.underlying9 rfl rfl rfl) rfl ?_
  refine lo_eff rfl rfl ?_
  refine ln_s2b Tryz.underlying9 Tryz.underlying22 Tryz.underlying5 rfl rfl (fun bS2 cS2 zS2 fS2 hcS2 => ?_)
  refine ln_free1 (fun q h => h.elim) (fun sS2 htS2 hKS2 => ?_)
  have hsS2 := rs_of_obj hKS2 hcS2
  clear hKS2
  have hrc := hrc.mv htS2
  have hrt := hrt.mv htS2
  have hMK := hMK.mv htS2
  have hRK := hRK.mv htS2
  have hsS1 := hsS1.mv htS2
  refine lo_back (sk_js htS2 [0, 1, 2] rfl) ?_
  refine lo_pv rfl rfl (sk_js htS2 [0, 1, 2] rfl) (pv_struct [(0, 1), (1, 1), (2, 1), (3, 1), (4, 1)] (l := [_, _, _, _, _]) rfl Tryz.underlying37 tiimpl_Tree (by kernel_rfl) rfl (by simp [okL, Nat.ble_eq, Value.cells, (RS.one hsS2)])) rfl ?_
  refine lo_pv rfl rfl (sk_js htS2 [0, 1, 2] rfl) (pv_ixN (o := 0) (i := 1) Tryz.underlying34 (tiimpl_Tree).size rfl rfl (by decide)) rfl ?_
  refine lo_eff rfl rfl ?_
  refine ln_store (i := 1) (vs := [_, _, _, _, _]) rfl rfl rfl rfl (tiimpl_Tree).size rfl (by simp [(RS.one hsS2)]) rfl ?_
  refine lo_last (by kernel_rfl) ?_
  refine lo_cd ?_
  refine cd_dr' [0, 1, 2] [0, 1, 2, 3, 4, 5, 6, 7, 8] [0, 1, 2, 3, 4, 5, 6, 7, 8, 9] mixed (by kernel_rfl) ?_
  refine lo_pv rfl rfl (sk_js (Tr.refl _) [0, 1, 2] rfl) (pv_fieldAddr (off := 3) (r := 3) Tryz.underlying37 rfl (tiSl_impl_Tree).size rfl rfl rfl) rfl ?_
  refine lo_pv rfl rfl (sk_js (Tr.refl _) [0, 1, 2] rfl) (pv_ldo (i := 0) rfl Tryz.underlying34 rfl rfl rfl) rfl ?_
  refine lo_pv rfl rfl (sk_js (Tr.refl _) [0, 1, 2] rfl) (pv_move rfl) rfl ?_
  refine lo_pv rfl rfl (sk_js (Tr.refl _) [0, 1, 2] rfl) (pv_nilCheck rfl) rfl ?_
  refine lo_pv rfl rfl (sk_js (Tr.refl _) [0, 1, 2] rfl) (pv_fieldAddr (off := 2)  Tryz.underlying185 rfl (tiuint16).size rfl rfl rfl) rfl ?_
  refine lo_pv rfl rfl (sk_js (Tr.refl _) [0, 1, 2] rfl) (pv_ldr (j := 2) hrc Tryz.underlying170 rfl rfl rfl) rfl ?_
  refine lo_pv rfl rfl (sk_js (Tr.refl _) [0, 1, 2] rfl) (pv_conv' Tryz.underlying170 Tryz.underlying2 rfl (w64_u16 _)) rfl ?_
  refine lo_pv rfl rfl (sk_js (Tr.refl _) [0, 1, 2] rfl) (pv_struct [(0, 1), (1, 1), (2, 1), (3, 1), (4, 1)] (l := [_, _, _, _, _]) rfl Tryz.underlying37 tiimpl_Tree (by kernel_rfl) rfl rfl) rfl ?_
  refine lo_pv rfl rfl (sk_js (Tr.refl _) [0, 1, 2] rfl) (pv_ixN (o := 0) (i := 2) Tryz.underlying34 (tiimpl_Tree).size rfl rfl (by decide)) rfl ?_
  refine lo_eff rfl rfl ?_
  refine ln_store (i := 1) (vs := [_, _, _, _, _]) rfl rfl rfl rfl (tiimpl_Tree).size rfl rfl rfl ?_
  refine lo_last (by kernel_rfl) ?_
  refine lo_cd ?_
  refine cd_dr' [0, 1, 2] [0, 1, 2, 3, 4, 5, 6, 7, 8] [0, 1, 2, 3, 4, 5, 6, 7, 8, 9] mixed (by kernel_rfl) ?_
  refine lo_pv rfl rfl (sk_js (Tr.refl _) [0, 1, 2] rfl) (pv_fieldAddr (off := 3) (r := 3) Tryz.underlying37 rfl (tiSl_impl_Tree).size rfl rfl rfl) rfl ?_
  refine lo_pv rfl rfl (sk_js (Tr.refl _) [0, 1, 2] rfl) (pv_ldo (i := 0) rfl Tryz.underlying34 rfl rfl rfl) rfl ?_
  refine lo_pv rfl rfl (sk_js (Tr.refl _) [0, 1, 2] rfl) (pv_move rfl) rfl ?_
  refine lo_pv rfl rfl (sk_js (Tr.refl _) [0, 1, 2] rfl) (pv_nilCheck rfl) rfl ?_
  refine lo_pv rfl rfl (sk_js (Tr.refl _) [0, 1, 2] rfl) (pv_fieldAddr (off := 3)  Tryz.underlying185 rfl (tiint16).size rfl rfl rfl) rfl ?_
  refine lo_pv rfl rfl (sk_js (Tr.refl _) [0, 1, 2] rfl) (pv_ldr (j := 3) hrc Tryz.underlying46 rfl rfl rfl) rfl ?_
  refine lo_pv rfl rfl (sk_js (Tr.refl _) [0, 1, 2] rfl) (pv_conv' Tryz.underlying46 Tryz.underlying2 rfl (w64_i16 _)) rfl ?_
  refine lo_pv rfl rfl (sk_js (Tr.refl _) [0, 1, 2] rfl) (pv_struct [(0, 1), (1, 1), (2, 1), (3, 1), (4, 1)] (l := [_, _, _, _, _]) rfl Tryz.underlying37 tiimpl_Tree (by kernel_rfl) rfl rfl) rfl ?_
  refine lo_pv rfl rfl (sk_js (Tr.refl _) [0, 1, 2] rfl) (pv_ixN (o := 0) (i := 3) Tryz.underlying34 (tiimpl_Tree).size rfl rfl (by decide)) rfl ?_
  refine lo_eff rfl rfl ?_
  refine ln_store (i := 1) (vs := [_, _, _, _, _]) rfl rfl rfl rfl (tiimpl_Tree).size rfl rfl rfl ?_
  refine lo_last (by kernel_rfl) ?_
  refine lo_cd ?_
  refine cd_sr ?_
  refine ln_pv (pv_move rfl) rfl ?_
  refine ln_pv (pv_nilCheck rfl) rfl ?_
  refine ln_pv (pv_fieldAddr (off := 4)  Tryz.underlying185 rfl (tipub_kmsg_Tags).size rfl rfl rfl) rfl ?_
  refine ln_pv (pv_makeFunc (vf := #[]) (vc := #[.pointer (some ⟨b2, 0, none⟩)]) (by rw [List.map_toArray, List.map_toArray]; rfl) (by rw [List.map_toArray, List.map_toArray]; rfl)) rfl ?_
  refine ln_nilrow 69 2 ?_
  have hst := tclo_ControllerRegistrationRequestListener b2 (.int .i64 0) (.slice none 0 0) (.bool false) (.slice (some ⟨bL, 0, none⟩) 4 4) y.u hkeys hlens (Nat.le_of_lt hlen)
  have hEa := fun (u : Vw) hr hm hk h0 hok hav hnd => tags_EachG (fun z => TA b2 (.int .i64 0) (.slice none 0 0) (.bool false) (.slice (some ⟨bL, 0, none⟩) 4 4) z) TB (TInv y.u) 225 (.pointer (some ⟨b2, 0, none⟩)) en_225 u b (o + 4) mv1 lt y.u (.slice none 0 0, [], 0) hr hm hk hsrt (by omega) h0 hst hok hav hnd
  refine ln_callH (E := [TA b2 (.int .i64 0) (.slice none 0 0) (.bool false) (.slice (some ⟨bL, 0, none⟩) 4 4) (.slice none 0 0, [], 0), TB (.slice none 0 0, [], 0)]) (H0 := [_, _]) (List.perm_middle (l₁ := [_])) en_125 rfl (fun u hu hok hav hnd => hEa u (RC1.mv hrt hu) (hMK.mv hu) (RK.mv hu hRK) (fun w hw => ⟨rfl, by rw [List.take_zero]; rfl⟩) hok hav hnd) rfl ?_
  rintro u3 v3 _ ht3 ⟨xu3, ⟨⟨vU, csU, kU⟩, rfl, hzU⟩, hxu3⟩
  obtain ⟨hkU, hRU⟩ := (hzU.mv hxu3).get
  dsimp only at hkU hRU
  subst hkU
  rw [List.take_length] at hRU
  have hrc := hrc.mv ht3
  have hrt := hrt.mv ht3
  have hMK := hMK.mv ht3
  have hRK := hRK.mv ht3
  have hsS1 := hsS1.mv ht3
  have hsS2 := hsS2.mv ht3
  refine ln_cd ?_
  refine cd_sr ?_
  refine ln_pv (pv_fieldAddr (off := 4) (r := 4) Tryz.underlying37 rfl (tiSl_impl_Tag).size rfl rfl rfl) rfl ?_
  refine ln_pv (pv_ldo (i := 0) rfl Tryz.underlying35 rfl rfl rfl) rfl ?_
  refine ln_callT (i := 1) en_127 rfl rfl (fun u hu hok hav => impl_sorted u vU y.u csU hsrt (by omega) (RUs.cells hRU).1 (fun i hi => by obtain ⟨c1, tv, c3, he, hc, _, _⟩ := RUs.at_ hi hRU; rw [he, List.append_assoc, List.getElem?_append_right (by omega), hc]; simp) hok hav) rfl ?_
  rintro u4 v4 _ ht4 ⟨_, rfl, _⟩
  have hrc := hrc.mv ht4
  have hrt := hrt.mv ht4
  have hMK := hMK.mv ht4
  have hRK := hRK.mv ht4
  have hsS1 := hsS1.mv ht4
  have hsS2 := hsS2.mv ht4
  have hRU := hRU.mv ht4
  refine ln_cd ?_
  refine cd_rowone (i := 1) rfl (fun hoU => ?_)
  refine cd_sr ?_
  refine ln_pv (pv_ldO (i := 0) rfl Tryz.underlying37 rfl (tiimpl_Tree).size rfl rfl) rfl ?_
  refine ln_storeW (i := 3) rfl rfl rfl rfl (tiimpl_Tree).size rfl (by simp [hoU]) ?_
  refine ln_cd ?_
  refine cd_ret ?_
  refine at_retC (i := 3) rfl rfl rfl Tryz.underlying37 rfl tiimpl_Tree.size rfl (fun w hS => ?_)
  have hRTs : RTs hS.fin [.mk 0 (y.at_ 0).s false [] [], .mk 0 (y.at_ 1).s false [] [], .mk (IntKind.u16.wrap (y.at_ 2).n) [] false [] [], .mk (IntKind.i16.wrap (y.at_ 3).n) [] false [] []] _ := ⟨[_, _, _, _, _], _, rfl, RT_str (RSv.mv hsS1 hS.trFin), ⟨[_, _, _, _, _], _, rfl, RT_str (RSv.mv hsS2 hS.trFin), ⟨[.int .i64 (IntKind.u16.wrap (y.at_ 2).n), .slice none 0 0, .bool false, .slice none 0 0, .slice none 0 0], _, rfl, RT_num (I64_u16 _), ⟨[.int .i64 (IntKind.i16.wrap (y.at_ 3).n), .slice none 0 0, .bool false, .slice none 0 0, .slice none 0 0], _, rfl, RT_num (I64_i16 _), rfl⟩⟩⟩⟩
  refine ⟨_, rfl, RT.shut ⟨_, _, _, rfl, (show I64 0 from by unfold I64; omega), RS_nil 1, ⟨_, obj_rsS hS (i := 2) (sz := 5) (m := 4) rfl rfl (RTs.cells hRTs), hRTs⟩, ⟨csU, row_rs hS (j := 1) rfl (RUs.cells hRU).2, RUs.mv hS.trFin hRU⟩⟩⟩
theorem tclo_ControllerRegistrationRequestFeature (b3 : Nat) (c0 c1 c2 c3 : Value) (us : Tags) (hk : ∀ y ∈ us, y.1 < 4294967296) (hl : ∀ y ∈ us, y.2.length ≤ 4398046511104) (hlen : us.length ≤ 1099511627776) : ∀ j (hj : j < us.length) (u : Vw) (z : Value × List Value × Nat) (tv : Value), Iv (TInv us) j u z → RSv u tv (us[j]'hj).2 → HF [TA b3 c0 c1 c2 c3 z, TB z] u.w → (∀ q ∈ blks [TA b3 c0 c1 c2 c3 z, TB z], u.av q) → (blks [TA b3 c0 c1 c2 c3 z, TB z]).Nodup → CH Tryz.prog 226 [.int .u32 ((us[j]'hj).1 : Int), tv, .pointer (some ⟨b3, 0, none⟩)] u [TA b3 c0 c1 c2 c3 z, TB z] fun u r E' => ∃ z', E' = [TA b3 c0 c1 c2 c3 z', TB z'] ∧ Iv (TInv us) (j + 1) u z' := by
  rintro j hj u ⟨vU, cs, k⟩ tv hz htv hok hav hnd
  obtain ⟨hk0, hR⟩ := hz.get
  dsimp only at hk0 hR
  subst hk0
  have hbl := hl _ (List.getElem_mem hj)
  obtain ⟨adV, cV, rfl, hleV⟩ := htv.shape
  refine ch_enter Tryz.func226 rfl Tryz.ntmps226 rfl hok hav hnd ?_
  refine cd_draw' [0] [0, 1, 2, 3, 5, 8] [0, 1, 2, 3, 4, 5, 6, 7, 8, 9] mixed (by kernel_rfl) ?_
  refine lo_pv rfl rfl (sk_js (Tr.refl _) [0] rfl) (pv_fieldAddr (off := 4) (r := 4) Tryz.underlying37 rfl (tiSl_impl_Tag).size rfl rfl rfl) rfl ?_
  refine lo_pv rfl rfl (sk_js (Tr.refl _) [0] rfl) (pv_ldo (i := 0) rfl Tryz.underlying35 rfl rfl rfl) rfl ?_
  refine lo_pv rfl rfl (sk_js (Tr.refl _) [0] rfl) (pv_move rfl) rfl ?_
  refine lo_pv rfl rfl (sk_js (Tr.refl _) [0] rfl) (pv_move rfl) rfl ?_
  refine lo_eff rfl rfl ?_
  refine ln_nilrow 5 1 ?_
  refine ln_append (i := 0) rfl Tryz.underlying22 tiuint8 rfl (by decide) rfl rfl (RS.src htv) (by simp only [maxLen]; omega) (by omega) rfl (k' := (us[k]'hj).2.length) (xs' := u8s (us[k]'hj).2) (by omega) (by simp) (fun vc hvc => ?_)
  refine ln_free1 (fun q h => by simpa using h) (fun s1 ht1 hK1 => ?_)
  have hcp : RSv s1 vc (us[k]'hj).2 := Known.rs hK1 (u8s_one _)
  clear hK1
  have htv := htv.mv ht1
  have hR := RUs.mv ht1 hR
  refine lo_back (sk_js ht1 [0] rfl) ?_
  refine lo_pv rfl rfl (sk_js ht1 [0] rfl) (pv_struct [(0, 1), (1, 1)] (l := [_, _]) rfl Tryz.underlying69 tiimpl_Tag (by kernel_rfl) rfl (by simp [okL, Nat.ble_eq, Value.cells, hvc.2])) rfl ?_
  refine lo_eff rfl rfl ?_
  refine ln_lit (vs := [_]) Tryz.underlying35 tiimpl_Tag rfl (by decide) rfl rfl rfl rfl rfl rfl (fun b1 => ?_)
  refine lo_back (sk_js ht1 [1] rfl) ?_
  refine lo_eff rfl rfl ?_
  refine ln_append (i := 2) rfl Tryz.underlying35 tiimpl_Tag rfl (by decide) rfl rfl (src_obj (j := 0) rfl rfl (by simp [flat, Value.cells, hvc.2])) (by first | omega | (simp only [maxLen]; omega)) (by first | omega | (simp only [maxLen]; omega)) rfl (k' := (k + 1)) (xs' := cs ++ [.int .u32 ((us[k]'hj).1 : Int), vc]) rfl (by simp [flat, Value.cells]) (fun v1 hv1 => ?_)
  refine lo_back (sk_js ht1 [1] rfl) ?_
  refine lo_pv rfl rfl (sk_js ht1 [1] rfl) (pv_fieldAddr (off := 4) (r := 4) Tryz.underlying37 rfl (tiSl_impl_Tag).size rfl rfl rfl) rfl ?_
  refine lo_eff rfl rfl ?_
  refine ln_store1 (i := 1) rfl rfl rfl hv1.2 (tiSl_impl_Tag).size rfl ?_
  refine lo_last (by kernel_rfl) ?_
  refine lo_nil ?_
  refine at_retH0 [TA b3 c0 c1 c2 c3 (v1, cs ++ [.int .u32 ((us[k]'hj).1 : Int), vc], k + 1), TB (v1, cs ++ [.int .u32 ((us[k]'hj).1 : Int), vc], k + 1)] (.cons _ (.cons_cons _ (.cons_cons _ .slnil))) rfl (fun w hS => ⟨(v1, cs ++ [.int .u32 ((us[k]'hj).1 : Int), vc], k + 1), rfl, fun w2 hw2 => ⟨rfl, ?_⟩⟩)
  rw [take_snoc' hj]
  have hq := (hS.trFinH _ _).trans hw2
  exact RUs.append (RUs.mv hq hR) (RUs.one_ (hk _ (List.getElem_mem hj)) (RSv.mv hcp hq))
theorem tlT_ControllerRegistrationRequestFeature (y : Tre) : tlT F_sControllerRegistrationRequestFeature y = .mk 0 [] false [.mk 0 (y.at_ 0).s false [] [], .mk (IntKind.i16.wrap (y.at_ 1).n) [] false [] [], .mk (IntKind.i16.wrap (y.at_ 2).n) [] false [] []] y.u := rfl
set_option maxHeartbeats 2000000 in
theorem tell_ControllerRegistrationRequestFeature (t : Vw) (b o : Nat) (y : Tre) (cells : List Value) (hrc : RC t b o cells) (hM : RMp t F_sControllerRegistrationRequestFeature y cells) (htg : tgT F_sControllerRegistrationRequestFeature y) : CA Tryz.prog 172 [.pointer (some ⟨b, o, none⟩)] t fun u r => ∃ ds, r = .agg ds.toArray ∧ RT u (tlT F_sControllerRegistrationRequestFeature y) ds := by
  rw [tlT_ControllerRegistrationRequestFeature]
  obtain ⟨⟨hsrt, hkeys, hlens, hlen⟩, htl⟩ := htg
  simp only [F_sControllerRegistrationRequestFeature, tgL] at htl
  obtain ⟨qg0, qg1, qg2, _⟩ := htl
  obtain ⟨fc1, mv1, hce1, hfl1, hTg1⟩ := hM
  simp only [F_sControllerRegistrationRequestFeature, RMl] at hfl1
  obtain ⟨x1_0, z1_0, e1_0, g1_0, x1_1, z1_1, e1_1, g1_1, x1_2, z1_2, e1_2, g1_2, hend1⟩ := hfl1
  obtain rfl := (RMf_str (by decide)).1 g1_0
  obtain rfl := RMf_i16.1 g1_1
  obtain rfl := RMf_i16.1 g1_2
  subst hend1
  subst e1_2
  subst e1_1
  subst e1_0
  rw [hce1] at hrc
  simp only [List.cons_append, List.nil_append, List.append_assoc] at hrc
  obtain ⟨lt, hMK, hRK⟩ := hTg1
  have hrt : RC1 t b (o + 3) mv1 := hrc.sub 3 (c1 := [_, _, _]) (c2 := [mv1]) (c3 := []) rfl rfl
  have hrc : RCx t b o _ _ := hrc
  refine ca_enter Tryz.func172 rfl Tryz.ntmps172 rfl ?_
  refine cd_sr ?_
  refine ln_alloc tiimpl_Tree rfl rfl (fun b1 => ?_)
  refine ln_cd ?_
  refine cd_sr ?_
  refine ln_makeN (m := 3) (l := [.int .i64 0, .slice none 0 0, .bool false, .slice none 0 0, .slice none 0 0, .int .i64 0, .slice none 0 0, .bool false, .slice none 0 0, .slice none 0 0, .int .i64 0, .slice none 0 0, .bool false, .slice none 0 0, .slice none 0 0]) Tryz.underlying34 tiimpl_Tree rfl rfl (by kernel_rfl) (by decide) (by decide) rfl (fun bL => ?_)
  refine ln_pv (pv_struct [(0, 1), (1, 1), (2, 1), (3, 1), (4, 1)] (l := [_, _, _, _, _]) rfl Tryz.underlying37 tiimpl_Tree (by kernel_rfl) rfl rfl) rfl ?_
  refine ln_alloc tiimpl_Tree rfl rfl (fun b2 => ?_)
  refine ln_storeW (i := 0) rfl rfl rfl rfl (tiimpl_Tree).size rfl (by simp []) ?_
  refine ln_cd ?_
  refine cd_dr' [0, 1, 2] [0, 1, 2, 3, 4, 5, 7, 8] [0, 1, 2, 3, 4, 5, 6, 7, 8, 9] mixed (by kernel_rfl) ?_
  refine lo_pv rfl rfl (sk_js (Tr.refl _) [0, 1, 2] rfl) (pv_fieldAddr (off := 3) (r := 3) Tryz.underlying37 rfl (tiSl_impl_Tree).size rfl rfl rfl) rfl ?_
  refine lo_pv rfl rfl (sk_js (Tr.refl _) [0, 1, 2] rfl) (pv_ldo (i := 0) rfl Tryz.underlying34 rfl rfl rfl) rfl ?_
  refine lo_pv rfl rfl (sk_js (Tr.refl _) [0, 1, 2] rfl) (pv_move rfl) rfl ?_
  refine lo_pv rfl rfl (sk_js (Tr.refl _) [0, 1, 2] rfl) (pv_nilCheck rfl) rfl ?_
  refine lo_pv rfl rfl (sk_js (Tr.refl _) [0, 1, 2] rfl) (pv_fieldAddr (off := 0)  Tryz.underlying189 rfl (tistring).size rfl rfl rfl) rfl ?_
  refine lo_pv rfl rfl (sk_js (Tr.refl _) [0, 1, 2] rfl) (pv_ldr (j := 0) hrc Tryz.underlying9 rfl rfl rfl) rfl ?_
  refine lo_eff rfl rfl ?_
  refine ln_s2b Tryz.underlying9 Tryz.underlying22 Tryz.underlying5 rfl rfl (fun bS1 cS1 zS1 fS1 hcS1 => ?_)
  refine ln_free1 (fun q h => h.elim) (fun sS1 htS1 hKS1 => ?_)
  have hsS1 := rs_of_obj hKS1 hcS1
  clear hKS1
  have hrc := hrc.mv htS1
  have hrt := hrt.mv htS1
  have hMK := hMK.mv htS1
  have hRK := hRK.mv htS1
  refine lo_back (sk_js htS1 [0, 1, 2] rfl) ?_
  refine lo_pv rfl rfl (sk_js htS1 [0, 1, 2] rfl) (pv_struct [(0, 1), (1, 1), (2, 1), (3, 1), (4, 1)] (l := [_, _, _, _, _]) rfl Tryz.underlying37 tiimpl_Tree (by kernel_rfl) rfl (by simp [okL, Nat.ble_eq, Value.cells, (RS.one hsS1)])) rfl ?_
  refine lo_pv rfl rfl (sk_js htS1 [0, 1, 2] rfl) (pv_ixN (o := 0) (i := 0) Tryz.underlying34 (tiimpl_Tree).size rfl rfl (by decide)) rfl ?_
  refine lo_eff rfl rfl ?_
  refine ln_store (i := 1) (vs := [_, _, _, _, _]) rfl rfl rfl rfl (tiimpl_Tree).size rfl (by simp [(RS.one hsS1)]) rfl ?_
  refine lo_last (by kernel_rfl) ?_
  refine lo_cd ?_
  refine cd_dr' [0, 1, 2] [0, 1, 2, 3, 4, 5, 6, 7, 8] [0, 1, 2, 3, 4, 5, 6, 7, 8, 9] mixed (by kernel_rfl) ?_
  refine lo_pv rfl rfl (sk_js (Tr.refl _) [0, 1, 2] rfl) (pv_fieldAddr (off := 3) (r := 3) Tryz.underlying37 rfl (tiSl_impl_Tree).size rfl rfl rfl) rfl ?_
  refine lo_pv rfl rfl (sk_js (Tr.refl _) [0, 1, 2] rfl) (pv_ldo (i := 0) rfl Tryz.underlying34 rfl rfl rfl) rfl ?_
  refine lo_pv rfl rfl (sk_js (Tr.refl _) [0, 1, 2] rfl) (pv_move rfl) rfl ?_
  refine lo_pv rfl rfl (sk_js (Tr.refl _) [0, 1, 2] rfl) (pv_nilCheck rfl) rfl ?_
  refine lo_pv rfl rfl (sk_js (Tr.refl _) [0, 1, 2] rfl) (pv_fieldAddr (off := 1)  Tryz.underlying189 rfl (tiint16).size rfl rfl rfl) rfl ?_
  refine lo_pv rfl rfl (sk_js (Tr.refl _) [0, 1, 2] rfl) (pv_ldr (j := 1) hrc Tryz.underlying46 rfl rfl rfl) rfl ?_
  refine lo_pv rfl rfl (sk_js (Tr.refl _) [0, 1, 2] rfl) (pv_conv' Tryz.underlying46 Tryz.underlying2 rfl (w64_i16 _)) rfl ?_
  refine lo_pv rfl rfl (sk_js (Tr.refl _) [0, 1, 2] rfl) (pv_struct [(0, 1), (1, 1), (2, 1), (3, 1), (4, 1)] (l := [_, _, _, _, _]) rfl Tryz.underlying37 tiimpl_Tree (by kernel_rfl) rfl rfl) rfl ?_
  refine lo_pv rfl rfl (sk_js (Tr.refl _) [0, 1, 2] rfl) (pv_ixN (o := 0) (i := 1) Tryz.underlying34 (tiimpl_Tree).size rfl rfl (by decide)) rfl ?_
  refine lo_eff rfl rfl ?_
  refine ln_store (i := 1) (vs := [_, _, _, _, _]) rfl rfl rfl rfl (tiimpl_Tree).size rfl rfl rfl ?_
  refine lo_last (by kernel_rfl) ?_
  refine lo_cd ?_
  refine cd_dr' [0, 1, 2] [0, 1, 2, 3, 4, 5, 6, 7, 8] [0, 1, 2, 3, 4, 5, 6, 7, 8, 9] mixed (by kernel_rfl) ?_
  refine lo_pv rfl rfl (sk_js (Tr.refl _) [0, 1, 2] rfl) (pv_fieldAddr (off := 3) (r := 3) Tryz.underlying37 rfl (tiSl_impl_Tree).size rfl rfl rfl) rfl ?_
  refine lo_pv rfl rfl (sk_js (Tr.refl _) [0, 1, 2] rfl) (pv_ldo (i := 0) rfl Tryz.underlying34 rfl rfl rfl) rfl ?_
  refine lo_pv rfl rfl (sk_js (Tr.refl _) [0, 1, 2] rfl) (pv_move rfl) rfl ?_
  refine lo_pv rfl rfl (sk_js (Tr.refl _) [0, 1, 2] rfl) (pv_nilCheck rfl) rfl ?_
  refine lo_pv rfl rfl (sk_js (Tr.refl _) [0, 1, 2] rfl) (pv_fieldAddr (off := 2)  Tryz.underlying189 rfl (tiint16).size rfl rfl rfl) rfl ?_
  refine lo_pv rfl rfl (sk_js (Tr.refl _) [0, 1, 2] rfl) (pv_ldr (j := 2) hrc Tryz.underlying46 rfl rfl rfl) rfl ?_
  refine lo_pv rfl rfl (sk_js (Tr.refl _) [0, 1, 2] rfl) (pv_conv' Tryz.underlying46 Tryz.underlying2 rfl (w64_i16 _)) rfl ?_
  refine lo_pv rfl rfl (sk_js (Tr.refl _) [0, 1, 2] rfl) (pv_struct [(0, 1), (1, 1), (2, 1), (3, 1), (4, 1)] (l := [_, _, _, _, _]) rfl Tryz.underlying37 tiimpl_Tree (by kernel_rfl) rfl rfl) rfl ?_
  refine lo_pv rfl rfl (sk_js (Tr.refl _) [0, 1, 2] rfl) (pv_ixN (o := 0) (i := 2) Tryz.underlying34 (tiimpl_Tree).size rfl rfl (by decide)) rfl ?_
  refine lo_eff rfl rfl ?_
  refine ln_store (i := 1) (vs := [_, _, _, _, _]) rfl rfl rfl rfl (tiimpl_Tree).size rfl rfl rfl ?_
  refine lo_last (by kernel_rfl) ?_
  refine lo_cd ?_
  refine cd_sr ?_
  refine ln_pv (pv_move rfl) rfl ?_
  refine ln_pv (pv_nilCheck rfl) rfl ?_
  refine ln_pv (pv_fieldAddr (off := 3)  Tryz.underlying189 rfl (tipub_kmsg_Tags).size rfl rfl rfl) rfl ?_
  refine ln_pv (pv_makeFunc (vf := #[]) (vc := #[.pointer (some ⟨b2, 0, none⟩)]) (by rw [List.map_toArray, List.map_toArray]; rfl) (by rw [List.map_toArray, List.map_toArray]; rfl)) rfl ?_
  refine ln_nilrow 69 2 ?_
  have hst := tclo_ControllerRegistrationRequestFeature b2 (.int .i64 0) (.slice none 0 0) (.bool false) (.slice (some ⟨bL, 0, none⟩) 3 3) y.u hkeys hlens (Nat.le_of_lt hlen)
  have hEa := fun (u : Vw) hr hm hk h0 hok hav hnd => tags_EachG (fun z => TA b2 (.int .i64 0) (.slice none 0 0) (.bool false) (.slice (some ⟨bL, 0, none⟩) 3 3) z) TB (TInv y.u) 226 (.pointer (some ⟨b2, 0, none⟩)) en_226 u b (o + 3) mv1 lt y.u (.slice none 0 0, [], 0) hr hm hk hsrt (by omega) h0 hst hok hav hnd
  refine ln_callH (E := [TA b2 (.int .i64 0) (.slice none 0 0) (.bool false) (.slice (some ⟨bL, 0, none⟩) 3 3) (.slice none 0 0, [], 0), TB (.slice none 0 0, [], 0)]) (H0 := [_, _]) (List.perm_middle (l₁ := [_])) en_125 rfl (fun u hu hok hav hnd => hEa u (RC1.mv hrt hu) (hMK.mv hu) (RK.mv hu hRK) (fun w hw => ⟨rfl, by rw [List.take_zero]; rfl⟩) hok hav hnd) rfl ?_
  rintro u2 v2 _ ht2 ⟨xu2, ⟨⟨vU, csU, kU⟩, rfl, hzU⟩, hxu2⟩
  obtain ⟨hkU, hRU⟩ := (hzU.mv hxu2).get
  dsimp only at hkU hRU
  subst hkU
  rw [List.take_length] at hRU
  have hrc := hrc.mv ht2
  have hrt := hrt.mv ht2
  have hMK := hMK.mv ht2
  have hRK := hRK.mv ht2
  have hsS1 := hsS1.mv ht2
  refine ln_cd ?_
  refine cd_sr ?_
  refine ln_pv (pv_fieldAddr (off := 4) (r := 4) Tryz.underlying37 rfl (tiSl_impl_Tag).size rfl rfl rfl) rfl ?_
  refine ln_pv (pv_ldo (i := 0) rfl Tryz.underlying35 rfl rfl rfl) rfl ?_
  refine ln_callT (i := 1) en_127 rfl rfl (fun u hu hok hav => impl_sorted u vU y.u csU hsrt (by omega) (RUs.cells hRU).1 (fun i hi => by obtain ⟨c1, tv, c3, he, hc, _, _⟩ := RUs.at_ hi hRU; rw [he, List.append_assoc, List.getElem?_append_right (by omega), hc]; simp) hok hav) rfl ?_
  rintro u3 v3 _ ht3 ⟨_, rfl, _⟩
  have hrc := hrc.mv ht3
  have hrt := hrt.mv ht3
  have hMK := hMK.mv ht3
  have hRK := hRK.mv ht3
  have hsS1 := hsS1.mv ht3
  have hRU := hRU.mv ht3
  refine ln_cd ?_
  refine cd_rowone (i := 1) rfl (fun hoU => ?_)
  refine cd_sr ?_
  refine ln_pv (pv_ldO (i := 0) rfl Tryz.underlying37 rfl (tiimpl_Tree).size rfl rfl) rfl ?_
  refine ln_storeW (i := 3) rfl rfl rfl rfl (tiimpl_Tree).size rfl (by simp [hoU]) ?_
  refine ln_cd ?_
  refine cd_ret ?_
  refine at_retC (i := 3) rfl rfl rfl Tryz.underlying37 rfl tiimpl_Tree.size rfl (fun w hS => ?_)
  have hRTs : RTs hS.fin [.mk 0 (y.at_ 0).s false [] [], .mk (IntKind.i16.wrap (y.at_ 1).n) [] false [] [], .mk (IntKind.i16.wrap (y.at_ 2).n) [] false [] []] _ := ⟨[_, _, _, _, _], _, rfl, RT_str (RSv.mv hsS1 hS.trFin), ⟨[.int .i64 (IntKind.i16.wrap (y.at_ 1).n), .slice none 0 0, .bool false, .slice none 0 0, .slice none 0 0], _, rfl, RT_num (I64_i16 _), ⟨[.int .i64 (IntKind.i16.wrap (y.at_ 2).n), .slice none 0 0, .bool false, .slice none 0 0, .slice none 0 0], _, rfl, RT_num (I64_i16 _), rfl⟩⟩⟩
  refine ⟨_, rfl, RT.shut ⟨_, _, _, rfl, (show I64 0 from by unfold I64; omega), RS_nil 1, ⟨_, obj_rsS hS (i := 2) (sz := 5) (m := 3) rfl rfl (RTs.cells hRTs), hRTs⟩, ⟨csU, row_rs hS (j := 1) rfl (RUs.cells hRU).2, RUs.mv hS.trFin hRU⟩⟩⟩
theorem tclo_ControllerRegistrationRequest (b3 : Nat) (c0 c1 c2 c3 : Value) (us : Tags) (hk : ∀ y ∈ us, y.1 < 4294967296) (hl : ∀ y ∈ us, y.2.length ≤ 4398046511104) (hlen : us.length ≤ 1099511627776) : ∀ j (hj : j < us.length) (u : Vw) (z : Value × List Value × Nat) (tv : Value), Iv (TInv us) j u z → RSv u tv (us[j]'hj).2 → HF [TA b3 c0 c1 c2 c3 z, TB z] u.w → (∀ q ∈ blks [TA b3 c0 c1 c2 c3 z, TB z], u.av q) → (blks [TA b3 c0 c1 c2 c3 z, TB z]).Nodup → CH Tryz.prog 173 [.int .u32 ((us[j]'hj).1 : Int), tv, .pointer (some ⟨b3, 0, none⟩)] u [TA b3 c0 c1 c2 c3 z, TB z] fun u r E' => ∃ z', E' = [TA b3 c0 c1 c2 c3 z', TB z'] ∧ Iv (TInv us) (j + 1) u z' := by
  rintro j hj u ⟨vU, cs, k⟩ tv hz htv hok hav hnd
  obtain ⟨hk0, hR⟩ := hz.get
  dsimp only at hk0 hR
  subst hk0
  have hbl := hl _ (List.getElem_mem hj)
  obtain ⟨adV, cV, rfl, hleV⟩ := htv.shape
  refine ch_enter Tryz.func173 rfl Tryz.ntmps173 rfl hok hav hnd ?_
  refine cd_draw' [0] [0, 1, 2, 3, 5, 8] [0, 1, 2, 3, 4, 5, 6, 7, 8, 9] mixed (by kernel_rfl) ?_
  refine lo_pv rfl rfl (sk_js (Tr.refl _) [0] rfl) (pv_fieldAddr (off := 4) (r := 4) Tryz.underlying37 rfl (tiSl_impl_Tag).size rfl rfl rfl) rfl ?_
  refine lo_pv rfl rfl (sk_js (Tr.refl _) [0] rfl) (pv_ldo (i := 0) rfl Tryz.underlying35 rfl rfl rfl) rfl ?_
  refine lo_pv rfl rfl (sk_js (Tr.refl _) [0] rfl) (pv_move rfl) rfl ?_
  refine lo_pv rfl rfl (sk_js (Tr.refl _) [0] rfl) (pv_move rfl) rfl ?_
  refine lo_eff rfl rfl ?_
  refine ln_nilrow 5 1 ?_
  refine ln_append (i := 0) rfl Tryz.underlying22 tiuint8 rfl (by decide) rfl rfl (RS.src htv) (by simp only [maxLen]; omega) (by omega) rfl (k' := (us[k]'hj).2.length) (xs' := u8s (us[k]'hj).2) (by omega) (by simp) (fun vc hvc => ?_)
  refine ln_free1 (fun q h => by simpa using h) (fun s1 ht1 hK1 => ?_)
  have hcp : RSv s1 vc (us[k]'hj).2 := Known.rs hK1 (u8s_one _)
  clear hK1
  have htv := htv.mv ht1
  have hR := RUs.mv ht1 hR
  refine lo_back (sk_js ht1 [0] rfl) ?_
  refine lo_pv rfl rfl (sk_js ht1 [0] rfl) (pv_struct [(0, 1), (1, 1)] (l := [_, _]) rfl Tryz.underlying69 tiimpl_Tag (by kernel_rfl) rfl (by simp [okL, Nat.ble_eq, Value.cells, hvc.2])) rfl ?_
  refine lo_eff rfl rfl ?_
  refine ln_lit (vs := [_]) Tryz.underlying35 tiimpl_Tag rfl (by decide) rfl rfl rfl rfl rfl rfl (fun b1 => ?_)
  refine lo_back (sk_js ht1 [1] rfl) ?_
  refine lo_eff rfl rfl ?_
  refine ln_append (i := 2) rfl Tryz.underlying35 tiimpl_Tag rfl (by decide) rfl rfl (src_obj (j := 0) rfl rfl (by simp [flat, Value.cells, hvc.2])) (by first | omega | (simp only [maxLen]; omega)) (by first | omega | (simp only [maxLen]; omega)) rfl (k' := (k + 1)) (xs' := cs ++ [.int .u32 ((us[k]'hj).1 : Int), vc]) rfl (by simp [flat, Value.cells]) (fun v1 hv1 => ?_)
  refine lo_back (sk_js ht1 [1] rfl) ?_
  refine lo_pv rfl rfl (sk_js ht1 [1] rfl) (pv_fieldAddr (off := 4) (r := 4) Tryz.underlying37 rfl (tiSl_impl_Tag).size rfl rfl rfl) rfl ?_
  refine lo_eff rfl rfl ?_
  refine ln_store1 (i := 1) rfl rfl rfl hv1.2 (tiSl_impl_Tag).size rfl ?_
  refine lo_last (by kernel_rfl) ?_
  refine lo_nil ?_
  refine at_retH0 [TA b3 c0 c1 c2 c3 (v1, cs ++ [.int .u32 ((us[k]'hj).1 : Int), vc], k + 1), TB (v1, cs ++ [.int .u32 ((us[k]'hj).1 : Int), vc], k + 1)] (.cons _ (.cons_cons _ (.cons_cons _ .slnil))) rfl (fun w hS => ⟨(v1, cs ++ [.int .u32 ((us[k]'hj).1 : Int), vc], k + 1), rfl, fun w2 hw2 => ⟨rfl, ?_⟩⟩)
  rw [take_snoc' hj]
  have hq := (hS.trFinH _ _).trans hw2
  exact RUs.append (RUs.mv hq hR) (RUs.one_ (hk _ (List.getElem_mem hj)) (RSv.mv hcp hq))
theorem tlT_ControllerRegistrationRequest (y : Tre) : tlT F_ControllerRegistrationRequest y = .mk 0 [] false [.mk (IntKind.i32.wrap (y.at_ 0).n) [] false [] [], .mk 0 (uuid (y.at_ 1).s) false [] [], .mk (if decide ((y.at_ 2).n % 2 = 1) then 1 else 0) [] false [] [], .mk 0 [] (y.at_ 3).z ((els (y.at_ 3)).map (tlT F_sControllerRegistrationRequestListener)) [], .mk 0 [] (y.at_ 4).z ((els (y.at_ 4)).map (tlT F_sControllerRegistrationRequestFeature)) []] y.u := rfl
set_option maxHeartbeats 2000000 in
theorem tell_ControllerRegistrationRequest (t : Vw) (b : Nat) (v : Int) (y : Tre) (cells : List Value) (hrc : RC t b 0 (.int .i16 v :: cells)) (hM : RMp t F_ControllerRegistrationRequest y cells) (htg : tgT F_ControllerRegistrationRequest y) : CA Tryz.prog 114 [.pointer (some ⟨b, 0, none⟩)] t fun u r => ∃ ds, r = .agg ds.toArray ∧ RT u (tlT F_ControllerRegistrationRequest y) ds := by
  rw [tlT_ControllerRegistrationRequest]
  obtain ⟨⟨hsrt, hkeys, hlens, hlen⟩, htl⟩ := htg
  simp only [F_ControllerRegistrationRequest, tgL] at htl
  obtain ⟨qg0, qg1, qg2, qg3, qg4, _⟩ := htl
  obtain ⟨fc1, mv1, hce1, hfl1, hTg1⟩ := hM
  simp only [F_ControllerRegistrationRequest, RMl] at hfl1
  obtain ⟨x1_0, z1_0, e1_0, g1_0, x1_1, z1_1, e1_1, g1_1, x1_2, z1_2, e1_2, g1_2, x1_3, z1_3, e1_3, g1_3, x1_4, z1_4, e1_4, g1_4, hend1⟩ := hfl1
  obtain rfl := RMf_i32.1 g1_0
  have hq1_1 := RMf_uuid.1 g1_1
  obtain ⟨u1_1_0, u1_1_1, u1_1_2, u1_1_3, u1_1_4, u1_1_5, u1_1_6, u1_1_7, u1_1_8, u1_1_9, u1_1_10, u1_1_11, u1_1_12, u1_1_13, u1_1_14, u1_1_15, hu1_1⟩ := uuid16 (y.at_ 1).s
  rw [hu1_1] at hq1_1
  subst hq1_1
  obtain rfl := RMf_b.1 g1_2
  obtain ⟨_, rfl, Gg1_3⟩ := RMf_list.1 g1_3
  obtain ⟨ad1_3, cap1_3, rfl, hnil1_3, Hg1_3⟩ := Gg1_3.els
  obtain ⟨_, rfl, Gg1_4⟩ := RMf_list.1 g1_4
  obtain ⟨ad1_4, cap1_4, rfl, hnil1_4, Hg1_4⟩ := Gg1_4.els
  subst hend1
  subst e1_4
  subst e1_3
  subst e1_2
  subst e1_1
  subst e1_0
  rw [hce1] at hrc
  simp only [List.cons_append, List.nil_append, List.append_assoc] at hrc
  have huu_1 : RSv t (.slice (some ⟨b, 0 + 2, none⟩) 16 16) (uuid (y.at_ 1).s) := uuid_rs (hrc.sub 2 (c1 := [_, _]) (c2 := [u1_1_0, u1_1_1, u1_1_2, u1_1_3, u1_1_4, u1_1_5, u1_1_6, u1_1_7, u1_1_8, u1_1_9, u1_1_10, u1_1_11, u1_1_12, u1_1_13, u1_1_14, u1_1_15]) rfl rfl) hu1_1
  have hLs_3 := LsF.of Hg1_3
  have hll_3 : (els (y.at_ 3)).length ≤ 32767 := (tgF_list.1 qg3).1
  have hLs_4 := LsF.of Hg1_4
  have hll_4 : (els (y.at_ 4)).length ≤ 32767 := (tgF_list.1 qg4).1
  obtain ⟨lt, hMK, hRK⟩ := hTg1
  have hrt : RC1 t b (0 + 21) mv1 := hrc.sub 21 (c1 := [_, _, _, _, _, _, _, _, _, _, _, _, _, _, _, _, _, _, _, _, _]) (c2 := [mv1]) (c3 := []) rfl rfl
  have hrc : RCx t b 0 _ _ := hrc
  refine ca_enter Tryz.func114 rfl Tryz.ntmps114 rfl ?_
  refine cd_sr ?_
  refine ln_alloc tiimpl_Tree rfl rfl (fun b1 => ?_)
  refine ln_cd ?_
  refine cd_sr ?_
  refine ln_makeN (m := 5) (l := [.int .i64 0, .slice none 0 0, .bool false, .slice none 0 0, .slice none 0 0, .int .i64 0, .slice none 0 0, .bool false, .slice none 0 0, .slice none 0 0, .int .i64 0, .slice none 0 0, .bool false, .slice none 0 0, .slice none 0 0, .int .i64 0, .slice none 0 0, .bool false, .slice none 0 0, .slice none 0 0, .int .i64 0, .slice none 0 0, .bool false, .slice none 0 0, .slice none 0 0]) Tryz.underlying34 tiimpl_Tree rfl rfl (by kernel_rfl) (by decide) (by decide) rfl (fun bL => ?_)
  refine ln_pv (pv_struct [(0, 1), (1, 1), (2, 1), (3, 1), (4, 1)] (l := [_, _, _, _, _]) rfl Tryz.underlying37 tiimpl_Tree (by kernel_rfl) rfl rfl) rfl ?_
  refine ln_alloc tiimpl_Tree rfl rfl (fun b2 => ?_)
  refine ln_storeW (i := 0) rfl rfl rfl rfl (tiimpl_Tree).size rfl (by simp []) ?_
  refine ln_cd ?_
  refine cd_dr' [0, 1, 2] [0, 1, 2, 3, 4, 5, 6, 7, 8] [0, 1, 2, 3, 4, 5, 6, 7, 8, 9] mixed (by kernel_rfl) ?_
  refine lo_pv rfl rfl (sk_js (Tr.refl _) [0, 1, 2] rfl) (pv_fieldAddr (off := 3) (r := 3) Tryz.underlying37 rfl (tiSl_impl_Tree).size rfl rfl rfl) rfl ?_
  refine lo_pv rfl rfl (sk_js (Tr.refl _) [0, 1, 2] rfl) (pv_ldo (i := 0) rfl Tryz.underlying34 rfl rfl rfl) rfl ?_
  refine lo_pv rfl rfl (sk_js (Tr.refl _) [0, 1, 2] rfl) (pv_move rfl) rfl ?_
  refine lo_pv rfl rfl (sk_js (Tr.refl _) [0, 1, 2] rfl) (pv_nilCheck rfl) rfl ?_
  refine lo_pv rfl rfl (sk_js (Tr.refl _) [0, 1, 2] rfl) (pv_fieldAddr (off := 1)  Tryz.underlying181 rfl (tiint32).size rfl rfl rfl) rfl ?_
  refine lo_pv rfl rfl (sk_js (Tr.refl _) [0, 1, 2] rfl) (pv_ldr (j := 1) hrc Tryz.underlying21 rfl rfl rfl) rfl ?_
  refine lo_pv rfl rfl (sk_js (Tr.refl _) [0, 1, 2] rfl) (pv_conv' Tryz.underlying21 Tryz.underlying2 rfl (w64_i32 _)) rfl ?_
  refine lo_pv rfl rfl (sk_js (Tr.refl _) [0, 1, 2] rfl) (pv_struct [(0, 1), (1, 1), (2, 1), (3, 1), (4, 1)] (l := [_, _, _, _, _]) rfl Tryz.underlying37 tiimpl_Tree (by kernel_rfl) rfl rfl) rfl ?_
  refine lo_pv rfl rfl (sk_js (Tr.refl _) [0, 1, 2] rfl) (pv_ixN (o := 0) (i := 0) Tryz.underlying34 (tiimpl_Tree).size rfl rfl (by decide)) rfl ?_
  refine lo_eff rfl rfl ?_
  refine ln_store (i := 1) (vs := [_, _, _, _, _]) rfl rfl rfl rfl (tiimpl_Tree).size rfl rfl rfl ?_
  refine lo_last (by kernel_rfl) ?_
  refine lo_cd ?_
  refine cd_dr' [0, 1, 2] [0, 1, 2, 3, 4, 5, 7, 8] [0, 1, 2, 3, 4, 5, 6, 7, 8, 9] mixed (by kernel_rfl) ?_
  refine lo_pv rfl rfl (sk_js (Tr.refl _) [0, 1, 2] rfl) (pv_fieldAddr (off := 3) (r := 3) Tryz.underlying37 rfl (tiSl_impl_Tree).size rfl rfl rfl) rfl ?_
  refine lo_pv rfl rfl (sk_js (Tr.refl _) [0, 1, 2] rfl) (pv_ldo (i := 0) rfl Tryz.underlying34 rfl rfl rfl) rfl ?_
  refine lo_pv rfl rfl (sk_js (Tr.refl _) [0, 1, 2] rfl) (pv_move rfl) rfl ?_
  refine lo_pv rfl rfl (sk_js (Tr.refl _) [0, 1, 2] rfl) (pv_nilCheck rfl) rfl ?_
  refine lo_pv rfl rfl (sk_js (Tr.refl _) [0, 1, 2] rfl) (pv_fieldAddr (off := 2)  Tryz.underlying181 rfl (ti_16_uint8).size rfl rfl rfl) rfl ?_
  refine lo_pv rfl rfl (sk_js (Tr.refl _) [0, 1, 2] rfl) (pv_slice_arro Tryz.underlying136 (size_some (tiuint8 : TI Tryz.prog _ _ _ _).size) rfl) rfl ?_
  refine lo_eff rfl rfl ?_
  refine ln_nilrow 5 1 ?_
  refine ln_append (i := 0) rfl Tryz.underlying22 tiuint8 rfl (by decide) rfl rfl (RS.src huu_1) (by rw [uuid_length]; simp only [maxLen]; omega) (by rw [uuid_length]; omega) rfl (k' := (uuid (y.at_ 1).s).length) (xs' := u8s (uuid (y.at_ 1).s)) (by omega) (by simp) (fun vI1 hvI1 => ?_)
  refine ln_free1 (fun q h => h.elim) (fun sI1 htI1 hKI1 => ?_)
  have hcI1 : RSv sI1 vI1 (uuid (y.at_ 1).s) := Known.rs hKI1 (u8s_one _)
  clear hKI1
  have hrc := hrc.mv htI1
  have hrt := hrt.mv htI1
  have hMK := hMK.mv htI1
  have hRK := hRK.mv htI1
  have huu_1 := huu_1.mv htI1
  have hLs_3 := hLs_3.mv htI1
  have hLs_4 := hLs_4.mv htI1
  refine lo_back (sk_js htI1 [0, 1, 2] rfl) ?_
  refine lo_pv rfl rfl (sk_js htI1 [0, 1, 2] rfl) (pv_struct [(0, 1), (1, 1), (2, 1), (3, 1), (4, 1)] (l := [_, _, _, _, _]) rfl Tryz.underlying37 tiimpl_Tree (by kernel_rfl) rfl (by simp [okL, Nat.ble_eq, Value.cells, (RS.one hcI1)])) rfl ?_
  refine lo_pv rfl rfl (sk_js htI1 [0, 1, 2] rfl) (pv_ixN (o := 0) (i := 1) Tryz.underlying34 (tiimpl_Tree).size rfl rfl (by decide)) rfl ?_
  refine lo_eff rfl rfl ?_
  refine ln_store (i := 1) (vs := [_, _, _, _, _]) rfl rfl rfl rfl (tiimpl_Tree).size rfl (by simp [(RS.one hcI1)]) rfl ?_
  refine lo_last (by kernel_rfl) ?_
  refine lo_cd ?_
  refine cd_dr' [0, 1, 2] [0, 1, 2, 3, 4, 5, 7] [0, 1, 2, 3, 4, 5, 6, 7, 8] mixed (by kernel_rfl) ?_
  refine lo_pv rfl rfl (sk_js (Tr.refl _) [0, 1, 2] rfl) (pv_fieldAddr (off := 3) (r := 3) Tryz.underlying37 rfl (tiSl_impl_Tree).size rfl rfl rfl) rfl ?_
  refine lo_pv rfl rfl (sk_js (Tr.refl _) [0, 1, 2] rfl) (pv_ldo (i := 0) rfl Tryz.underlying34 rfl rfl rfl) rfl ?_
  refine lo_pv rfl rfl (sk_js (Tr.refl _) [0, 1, 2] rfl) (pv_move rfl) rfl ?_
  refine lo_pv rfl rfl (sk_js (Tr.refl _) [0, 1, 2] rfl) (pv_nilCheck rfl) rfl ?_
  refine lo_pv rfl rfl (sk_js (Tr.refl _) [0, 1, 2] rfl) (pv_fieldAddr (off := 18)  Tryz.underlying181 rfl (tibool).size rfl rfl rfl) rfl ?_
  refine lo_pv rfl rfl (sk_js (Tr.refl _) [0, 1, 2] rfl) (pv_ldr (j := 18) hrc Tryz.underlying4 rfl rfl rfl) rfl ?_
  refine lo_eff rfl rfl ?_
  refine ln_callA en_162 rfl (fun u hu => bool_tree u _) rfl (fun u1 v1 ht1 hR1 => ?_)
  have hrc := hrc.mv ht1
  have hrt := hrt.mv ht1
  have hMK := hMK.mv ht1
  have hRK := hRK.mv ht1
  have huu_1 := huu_1.mv ht1
  have hLs_3 := hLs_3.mv ht1
  have hLs_4 := hLs_4.mv ht1
  have hcI1 := hcI1.mv ht1
  subst hR1
  refine lo_back (sk_js ht1 [0, 1, 2] rfl) ?_
  refine lo_pv rfl rfl (sk_js ht1 [0, 1, 2] rfl) (pv_ixN (o := 0) (i := 2) Tryz.underlying34 (tiimpl_Tree).size rfl rfl (by decide)) rfl ?_
  refine lo_eff rfl rfl ?_
  refine ln_store (i := 1) (vs := [_, _, _, _, _]) rfl rfl rfl rfl (tiimpl_Tree).size rfl rfl rfl ?_
  refine lo_last (by kernel_rfl) ?_
  refine lo_cd ?_
  refine cd_dr' [0, 1, 2] [0, 1, 2, 3, 4, 5, 6, 8] [0, 1, 2, 3, 4, 5, 6, 7, 8, 9] mixed (by kernel_rfl) ?_
  refine lo_pv rfl rfl (sk_js (Tr.refl _) [0, 1, 2] rfl) (pv_fieldAddr (off := 3) (r := 3) Tryz.underlying37 rfl (tiSl_impl_Tree).size rfl rfl rfl) rfl ?_
  refine lo_pv rfl rfl (sk_js (Tr.refl _) [0, 1, 2] rfl) (pv_ldo (i := 0) rfl Tryz.underlying34 rfl rfl rfl) rfl ?_
  refine lo_pv rfl rfl (sk_js (Tr.refl _) [0, 1, 2] rfl) (pv_move rfl) rfl ?_
  refine lo_pv rfl rfl (sk_js (Tr.refl _) [0, 1, 2] rfl) (pv_nilCheck rfl) rfl ?_
  refine lo_pv rfl rfl (sk_js (Tr.refl _) [0, 1, 2] rfl) (pv_fieldAddr (off := 19)  Tryz.underlying181 rfl (tiSl_kmsg_ControllerRegistrationRequestListener).size rfl rfl rfl) rfl ?_
  refine lo_pv rfl rfl (sk_js (Tr.refl _) [0, 1, 2] rfl) (pv_ldr (j := 19) hrc Tryz.underlying178 rfl rfl rfl) rfl ?_
  refine lo_pv rfl rfl (sk_js (Tr.refl _) [0, 1, 2] rfl) (pv_eqS Tryz.underlying178 rfl rfl) rfl ?_
  refine lo_eff rfl rfl ?_
  refine ln_pv (pv_ixN (o := 0) (i := 3) Tryz.underlying34 (tiimpl_Tree).size rfl rfl (by decide)) rfl ?_
  refine lo_back (sk_js (Tr.refl _) [0, 1, 2] rfl) ?_
  refine lo_pv rfl rfl (sk_js (Tr.refl _) [0, 1, 2] rfl) (pv_fieldAddr (off := 2) (r := 17) Tryz.underlying37 rfl (tibool).size rfl rfl rfl) rfl ?_
  refine lo_eff rfl rfl ?_
  refine ln_store1 (i := 1) rfl rfl rfl rfl (tibool).size rfl ?_
  refine lo_last (by kernel_rfl) ?_
  refine lo_cd ?_
  refine cd_seq ?_
  refine cd_nilrow 37 5 ?_
  refine cd_sr ?_
  refine ln_pv (pv_move rfl) rfl ?_
  refine ln_pv (pv_nilCheck rfl) rfl ?_
  refine ln_pv (pv_fieldAddr (off := 19)  Tryz.underlying181 rfl (tiSl_kmsg_ControllerRegistrationRequestListener).size rfl rfl rfl) rfl ?_
  refine ln_pv (pv_ldr (j := 19) hrc Tryz.underlying178 rfl rfl rfl) rfl ?_
  refine ln_pv (pv_len_slice Tryz.underlying178 rfl) rfl ?_
  refine ln_pv (pv_move rfl) rfl ?_
  refine ln_cd ?_
  refine cd_block ?_
  refine cd_loop (⟨fun (z : Nat × List Value × Value) => [(0, .pointer (some ⟨b, 0, none⟩)), (2, .pointer (some ⟨b1, 0, none⟩)), (3, .pointer (some ⟨b2, 0, none⟩)), (47, .int .i64 ((els (y.at_ 3)).length : Int)), (48, .int .i64 ((z.1 : Nat) : Int))], fun (z : Nat × List Value × Value) => [.row z.2.2 37 5 ((els (y.at_ 3)).take z.1).length z.2.1, .obj b2 (.cells [.int .i64 0, .slice none 0 0, .bool false, .slice (some ⟨bL, 0, none⟩) 5 5, .slice none 0 0].toArray 37), .obj bL (.cells [.int .i64 (IntKind.i32.wrap (y.at_ 0).n), .slice none 0 0, .bool false, .slice none 0 0, .slice none 0 0, .int .i64 0, vI1, .bool false, .slice none 0 0, .slice none 0 0, .int .i64 (if decide ((y.at_ 2).n % 2 = 1) then 1 else 0), .slice none 0 0, .bool false, .slice none 0 0, .slice none 0 0, .int .i64 0, .slice none 0 0, .bool ad1_3.isNone, z.2.2, .slice none 0 0, .int .i64 0, .slice none 0 0, .bool false, .slice none 0 0, .slice none 0 0].toArray 37), .obj b1 (.cells [.int .i64 0, .slice none 0 0, .bool false, .slice none 0 0, .slice none 0 0].toArray 37)], fun (z : Nat × List Value × Value) s => z.1 ≤ (els (y.at_ 3)).length ∧ RTs s (((els (y.at_ 3)).take z.1).map (tlT F_sControllerRegistrationRequestListener)) z.2.1, fun (z : Nat × List Value × Value) => (els (y.at_ 3)).length - z.1⟩ : Lp (Nat × List Value × Value)) (0, [], .slice none 0 0) ?_ ?_ ?_ ?_
  · intro s0 hs0
    exact ⟨Nat.zero_le _, rfl⟩
  · exact ⟨rfl, rfl, rfl, rfl, rfl,  trivial⟩
  · exact (.cons_cons _ (.cons_cons _ (.cons_cons _ (.cons_cons _ .slnil))))
  intro z s1 hl1 hI
  obtain ⟨i_3, ys_3, vv_3⟩ := z
  dsimp only at hI ⊢
  have hrc := hrc.mv hl1
  have hrt := hrt.mv hl1
  have hMK := hMK.mv hl1
  have hRK := hRK.mv hl1
  have huu_1 := huu_1.mv hl1
  have hLs_3 := hLs_3.mv hl1
  have hLs_4 := hLs_4.mv hl1
  have hcI1 := hcI1.mv hl1
  obtain ⟨hI_3, hIr_3⟩ := hI
  refine cd_sr ?_
  refine ln_pv (pv_lss rfl rfl) rfl ?_
  refine ln_cd ?_
  refine cd_seq ?_
  refine cd_if rfl (fun hc1 => ?_) (fun hc1 => ?_)
  · -- yes
    refine cd_skip ?_
    refine at_cd ?_
    refine cd_seq ?_
    refine cd_block ?_
    have hi_3 : i_3 < (els (y.at_ 3)).length := by omega
    have hsl_3 : ((els (y.at_ 3)).take (i_3 + 1)).length = ((els (y.at_ 3)).take i_3).length + 1 := by simp only [List.length_take]; omega
    have hil_3 : ((els (y.at_ 3)).take i_3).length = i_3 := by rw [List.length_take]; omega
    obtain ⟨gE_3, oE_3, cE_3, hadE_3, hrce_3, hme_3⟩ := hLs_3.at_ hi_3 (show esl _ _ = 5 by kernel_rfl)
    subst hadE_3
    have hme_3 := RE_part hme_3
    have htge_3 : tgT F_sControllerRegistrationRequestListener (els (y.at_ 3))[i_3] := by have h := (tgF_list.1 qg3).2 _ (List.getElem_mem hi_3); rw [if_pos rfl] at h; exact h
    refine cd_sr ?_
    refine ln_pv (pv_move rfl) rfl ?_
    refine ln_pv (pv_assign rfl) rfl ?_
    refine ln_cd ?_
    refine cd_dr3 [1, 2, 3] [] [0] 1 2 [2, 3] [1, 3] mixed (by kernel_rfl) ?_
    refine lo_eff rfl rfl ?_
    refine ln_alloc tibool rfl rfl (fun b3 => ?_)
    refine lo_last (by kernel_rfl) ?_
    refine lo_nil (at_two ?_ ?_)
    · skip
      refine lo_eff rfl rfl ?_
      refine ln_store1 (i := 0) rfl rfl rfl rfl (tibool).size rfl ?_
      refine lo_last (by kernel_rfl) ?_
      refine lo_eff rfl rfl ?_
      refine ln_store1 (i := 0) rfl rfl rfl rfl (tibool).size rfl ?_
      refine lo_last (by kernel_rfl) ?_
      refine lo_eff rfl rfl ?_
      refine ln_pv (pv_ldo (i := 0) rfl Tryz.underlying4 rfl rfl rfl) rfl ?_
      refine lo_last (by kernel_rfl) ?_
      refine lo_cd ?_
      refine cd_ff rfl ?_
      refine cd_draw' [0, 2, 3, 4] [0, 1, 2, 3, 4, 5, 6, 7, 8, 9, 10, 11, 12, 17] [0, 1, 2, 3, 4, 5, 6, 7, 8, 9, 10, 11, 12, 13, 14, 15, 16, 17, 18] mixed (by kernel_rfl) ?_
      refine lo_pv rfl rfl (sk_js (Tr.refl _) [0, 2, 3, 4] rfl) (pv_fieldAddr (off := 3) (r := 3) Tryz.underlying37 rfl (tiSl_impl_Tree).size rfl rfl rfl) rfl ?_
      refine lo_pv rfl rfl (sk_js (Tr.refl _) [0, 2, 3, 4] rfl) (pv_ldo (i := 1) rfl Tryz.underlying34 rfl rfl rfl) rfl ?_
      refine lo_pv rfl rfl (sk_js (Tr.refl _) [0, 2, 3, 4] rfl) (pv_fieldAddr (off := 3) (r := 3) Tryz.underlying37 rfl (tiSl_impl_Tree).size rfl rfl rfl) rfl ?_
      refine lo_pv rfl rfl (sk_js (Tr.refl _) [0, 2, 3, 4] rfl) (pv_ldo (i := 1) rfl Tryz.underlying34 rfl rfl rfl) rfl ?_
      refine lo_pv rfl rfl (sk_js (Tr.refl _) [0, 2, 3, 4] rfl) (pv_ixN (o := 0) (i := 3) Tryz.underlying34 (tiimpl_Tree).size rfl rfl (by decide)) rfl ?_
      refine lo_pv rfl rfl (sk_js (Tr.refl _) [0, 2, 3, 4] rfl) (pv_fieldAddr (off := 3) (r := 18) Tryz.underlying37 rfl (tiSl_impl_Tree).size rfl rfl rfl) rfl ?_
      refine lo_pv rfl rfl (sk_js (Tr.refl _) [0, 2, 3, 4] rfl) (pv_ldo (i := 2) rfl Tryz.underlying34 rfl rfl rfl) rfl ?_
      refine lo_pv rfl rfl (sk_js (Tr.refl _) [0, 2, 3, 4] rfl) (pv_move rfl) rfl ?_
      refine lo_pv rfl rfl (sk_js (Tr.refl _) [0, 2, 3, 4] rfl) (pv_nilCheck rfl) rfl ?_
      refine lo_pv rfl rfl (sk_js (Tr.refl _) [0, 2, 3, 4] rfl) (pv_fieldAddr (off := 19)  Tryz.underlying181 rfl (tiSl_kmsg_ControllerRegistrationRequestListener).size rfl rfl rfl) rfl ?_
      refine lo_pv rfl rfl (sk_js (Tr.refl _) [0, 2, 3, 4] rfl) (pv_ldr (j := 19) hrc Tryz.underlying178 rfl rfl rfl) rfl ?_
      refine lo_pv rfl rfl (sk_js (Tr.refl _) [0, 2, 3, 4] rfl) (pv_move rfl) rfl ?_
      refine lo_pv rfl rfl (sk_js (Tr.refl _) [0, 2, 3, 4] rfl) (pv_ixN Tryz.underlying178 (tipub_kmsg_ControllerRegistrationRequestListener).size rfl rfl hi_3) rfl ?_
      refine lo_eff rfl rfl ?_
      refine ln_callA en_171 rfl (fun u hu => tell_ControllerRegistrationRequestListener u gE_3 (oE_3 + i_3 * 5) (els (y.at_ 3))[i_3] cE_3 (hrce_3.mv hu).2 (RMp.mv hme_3 hu) htge_3) rfl (fun u2 v2 ht2 hR2 => ?_)
      have hrc := hrc.mv ht2
      have hrt := hrt.mv ht2
      have hMK := hMK.mv ht2
      have hRK := hRK.mv ht2
      have huu_1 := huu_1.mv ht2
      have hLs_3 := hLs_3.mv ht2
      have hLs_4 := hLs_4.mv ht2
      have hcI1 := hcI1.mv ht2
      have hIr_3 := hIr_3.mv ht2
      have hrce_3 := hrce_3.mv ht2
      have hme_3 := hme_3.mv ht2
      obtain ⟨dsF3, rfl, hdF3⟩ := hR2
      refine lo_back (sk_js ht2 [0, 2, 3, 4] rfl) ?_
      refine lo_eff rfl rfl ?_
      refine ln_lit (vs := [_]) Tryz.underlying34 tiimpl_Tree rfl (by decide) rfl rfl rfl (by simp [partsOk, Value.cells, hdF3.len]; try exact .inl rfl) rfl rfl (fun b4 => ?_)
      refine lo_back (sk_js ht2 [1, 3, 4, 5] rfl) ?_
      refine lo_eff rfl rfl ?_
      refine ln_append (i := 2) rfl Tryz.underlying34 tiimpl_Tree rfl (by decide) rfl rfl (src_obj (j := 0) rfl (by simp [flat, Value.cells, hdF3.len]) (List.all_eq_true.2 (by simpa [flat, Value.cells] using hdF3.cells))) (by rw [hil_3]; first | omega | (simp only [maxLen]; omega)) (by rw [hil_3]; first | omega | (simp only [maxLen]; omega)) rfl (k' := ((els (y.at_ 3)).take (i_3 + 1)).length) (xs' := ys_3 ++ dsF3) hsl_3.symm (by simp [flat, Value.cells]) (fun v3 hv3 => ?_)
      refine lo_back (sk_js ht2 [1, 3, 4, 5] rfl) ?_
      refine lo_eff rfl rfl ?_
      refine ln_pv (pv_ixN (o := 0) (i := 3) Tryz.underlying34 (tiimpl_Tree).size rfl rfl (by decide)) rfl ?_
      refine lo_back (sk_js ht2 [1, 3, 4, 5] rfl) ?_
      refine lo_pv rfl rfl (sk_js ht2 [1, 3, 4, 5] rfl) (pv_fieldAddr (off := 3) (r := 18) Tryz.underlying37 rfl (tiSl_impl_Tree).size rfl rfl rfl) rfl ?_
      refine lo_eff rfl rfl ?_
      refine ln_store1 (i := 4) rfl rfl rfl hv3.2 (tiSl_impl_Tree).size rfl ?_
      refine lo_last (by kernel_rfl) ?_
      refine lo_nil ?_
      refine at_cd ?_
      refine cd_region ?_
      refine ln_pv (pv_add' rfl rfl (wrap_succ (by omega))) rfl ?_
      refine ln_pv (pv_move rfl) rfl ?_
      refine ln_nil ?_
      refine at_rnd (i_3 + 1, ys_3 ++ dsF3, v3) (hl1.trans ht2) ?_ ?_ ⟨rfl, rfl, rfl, rfl, rfl,  trivial⟩ (.cons _ (.cons _ (.cons_cons _ (.cons_cons _ (.cons_cons _ (.cons_cons _ .slnil))))))
      · intro s9 hs9
        exact ⟨by dsimp only; omega, RTs_snoc hi_3 (RTs.mv hIr_3 hs9) (RT.mv hdF3 hs9)⟩
      · dsimp only; omega
    · skip
      refine lo_eff rfl rfl ?_
      refine ln_store1 (i := 0) rfl rfl rfl rfl (tibool).size rfl ?_
      refine lo_last (by kernel_rfl) ?_
      refine lo_eff rfl rfl ?_
      refine ln_store1 (i := 0) rfl rfl rfl rfl (tibool).size rfl ?_
      refine lo_last (by kernel_rfl) ?_
      refine lo_eff rfl rfl ?_
      refine ln_pv (pv_ldo (i := 0) rfl Tryz.underlying4 rfl rfl rfl) rfl ?_
      refine lo_last (by kernel_rfl) ?_
      refine lo_cd ?_
      refine cd_tt rfl ?_
      refine cd_rowshape (i := 1) rfl (fun adR_3 cpR_3 hvR_3 hleR_3 hposR_3 => ?_)
      subst hvR_3
      refine cd_dr2 [0, 2, 3, 4] [0, 1, 2, 3, 4, 5, 6, 7, 8, 9, 10, 12, 16] [0, 1, 2, 3, 4, 5, 6, 7, 8, 9, 10, 12] 11 13 [13, 14, 15, 16, 17] [11, 14, 15, 16, 17] mixed (by kernel_rfl) ?_
      refine lo_pv rfl rfl (sk_js (Tr.refl _) [0, 2, 3, 4] rfl) (pv_fieldAddr (off := 3) (r := 3) Tryz.underlying37 rfl (tiSl_impl_Tree).size rfl rfl rfl) rfl ?_
      refine lo_pv rfl rfl (sk_js (Tr.refl _) [0, 2, 3, 4] rfl) (pv_ldo (i := 1) rfl Tryz.underlying34 rfl rfl rfl) rfl ?_
      refine lo_pv rfl rfl (sk_js (Tr.refl _) [0, 2, 3, 4] rfl) (pv_ixN (o := 0) (i := 3) Tryz.underlying34 (tiimpl_Tree).size rfl rfl (by decide)) rfl ?_
      refine lo_pv rfl rfl (sk_js (Tr.refl _) [0, 2, 3, 4] rfl) (pv_fieldAddr (off := 3) (r := 18) Tryz.underlying37 rfl (tiSl_impl_Tree).size rfl rfl rfl) rfl ?_
      refine lo_pv rfl rfl (sk_js (Tr.refl _) [0, 2, 3, 4] rfl) (pv_ldo (i := 2) rfl Tryz.underlying34 rfl rfl rfl) rfl ?_
      refine lo_pv rfl rfl (sk_js (Tr.refl _) [0, 2, 3, 4] rfl) (pv_move rfl) rfl ?_
      refine lo_pv rfl rfl (sk_js (Tr.refl _) [0, 2, 3, 4] rfl) (pv_nilCheck rfl) rfl ?_
      refine lo_pv rfl rfl (sk_js (Tr.refl _) [0, 2, 3, 4] rfl) (pv_fieldAddr (off := 19)  Tryz.underlying181 rfl (tiSl_kmsg_ControllerRegistrationRequestListener).size rfl rfl rfl) rfl ?_
      refine lo_pv rfl rfl (sk_js (Tr.refl _) [0, 2, 3, 4] rfl) (pv_ldr (j := 19) hrc Tryz.underlying178 rfl rfl rfl) rfl ?_
      refine lo_pv rfl rfl (sk_js (Tr.refl _) [0, 2, 3, 4] rfl) (pv_move rfl) rfl ?_
      refine lo_pv rfl rfl (sk_js (Tr.refl _) [0, 2, 3, 4] rfl) (pv_ixN Tryz.underlying178 (tipub_kmsg_ControllerRegistrationRequestListener).size rfl rfl hi_3) rfl ?_
      refine lo_pv rfl rfl (sk_js (Tr.refl _) [0, 2, 3, 4] rfl) (pv_len_slice Tryz.underlying34 rfl) rfl ?_
      refine lo_nil (at_two ?_ ?_)
      · skip
        refine lo_eff rfl rfl ?_
        refine ln_callA en_171 rfl (fun u hu => tell_ControllerRegistrationRequestListener u gE_3 (oE_3 + i_3 * 5) (els (y.at_ 3))[i_3] cE_3 (hrce_3.mv hu).2 (RMp.mv hme_3 hu) htge_3) rfl (fun u4 v4 ht4 hR4 => ?_)
        have hrc := hrc.mv ht4
        have hrt := hrt.mv ht4
        have hMK := hMK.mv ht4
        have hRK := hRK.mv ht4
        have huu_1 := huu_1.mv ht4
        have hLs_3 := hLs_3.mv ht4
        have hLs_4 := hLs_4.mv ht4
        have hcI1 := hcI1.mv ht4
        have hIr_3 := hIr_3.mv ht4
        have hrce_3 := hrce_3.mv ht4
        have hme_3 := hme_3.mv ht4
        obtain ⟨dsF3, rfl, hdF3⟩ := hR4
        refine lo_back (sk_js ht4 [0, 2, 3, 4] rfl) ?_
        refine lo_eff rfl rfl ?_
        refine ln_lit (vs := [_]) Tryz.underlying34 tiimpl_Tree rfl (by decide) rfl rfl rfl rfl rfl rfl (fun b5 => ?_)
        refine lo_back (sk_js ht4 [1, 3, 4, 5] rfl) ?_
        refine lo_eff rfl rfl ?_
        refine ln_append (i := 2) rfl Tryz.underlying34 tiimpl_Tree rfl (by decide) rfl rfl (src_obj (j := 0) rfl rfl rfl) (by rw [hil_3]; first | omega | (simp only [maxLen]; omega)) (by rw [hil_3]; first | omega | (simp only [maxLen]; omega)) rfl (k' := ((els (y.at_ 3)).take (i_3 + 1)).length) (xs' := ys_3 ++ [.int .i64 0, .slice none 0 0, .bool false, .slice none 0 0, .slice none 0 0]) hsl_3.symm (by simp [flat, Value.cells]) (fun v5 hv5 => ?_)
        refine lo_back (sk_js ht4 [1, 3, 4, 5] rfl) ?_
        refine lo_eff rfl rfl ?_
        refine ln_pv (pv_ixN (o := 0) (i := 3) Tryz.underlying34 (tiimpl_Tree).size rfl rfl (by decide)) rfl ?_
        refine lo_back (sk_js ht4 [1, 3, 4, 5] rfl) ?_
        refine lo_pv rfl rfl (sk_js ht4 [1, 3, 4, 5] rfl) (pv_fieldAddr (off := 3) (r := 18) Tryz.underlying37 rfl (tiSl_impl_Tree).size rfl rfl rfl) rfl ?_
        refine lo_eff rfl rfl ?_
        refine ln_store1 (i := 4) rfl rfl rfl hv5.2 (tiSl_impl_Tree).size rfl ?_
        refine lo_last (by kernel_rfl) ?_
        refine lo_cd ?_
        refine cd_region ?_
        refine ln_rowshp (i := 2) rfl (fun ad2_3 cp2_3 hv2_3 hle2_3 hpos2_3 => ?_)
        subst hv2_3
        obtain ⟨g2_3, rfl⟩ := hpos2_3 (by omega)
        refine ln_pv (pv_ixN Tryz.underlying34 tiimpl_Tree.size rfl rfl (by omega)) rfl ?_
        refine ln_storeR (i := 2) (vs := dsF3) (xs' := ys_3 ++ dsF3) rfl rfl rfl rfl (by rw [show List.length _ = 5 from hdF3.len]; exact tiimpl_Tree.size) (by have h5 : List.length (dsF3) = 5 := hdF3.len; omega) hdF3.cells (wr_end (show 5 = List.length _ from Eq.symm hdF3.len) (by have h6 := (RTs.len5 hIr_3); simp only [List.length_map] at h6; omega)) ?_
        refine ln_nil ?_
        refine at_cd ?_
        refine cd_region ?_
        refine ln_pv (pv_add' rfl rfl (wrap_succ (by omega))) rfl ?_
        refine ln_pv (pv_move rfl) rfl ?_
        refine ln_nil ?_
        refine at_rnd (i_3 + 1, ys_3 ++ dsF3, (.slice (some ⟨g2_3, 0, none⟩) ((els (y.at_ 3)).take (i_3 + 1)).length cp2_3)) (hl1.trans ht4) ?_ ?_ ⟨rfl, rfl, rfl, rfl, rfl,  trivial⟩ (.cons _ (.cons _ (.cons_cons _ (.cons_cons _ (.cons_cons _ (.cons_cons _ .slnil))))))
        · intro s9 hs9
          exact ⟨by dsimp only; omega, RTs_snoc hi_3 (RTs.mv hIr_3 hs9) (RT.mv hdF3 hs9)⟩
        · dsimp only; omega
      · skip
        refine lo_eff rfl rfl ?_
        refine ln_lit (vs := [_]) Tryz.underlying34 tiimpl_Tree rfl (by decide) rfl rfl rfl rfl rfl rfl (fun b6 => ?_)
        refine lo_back (sk_js (Tr.refl _) [1, 3, 4, 5] rfl) ?_
        refine lo_eff rfl rfl ?_
        refine ln_callA en_171 rfl (fun u hu => tell_ControllerRegistrationRequestListener u gE_3 (oE_3 + i_3 * 5) (els (y.at_ 3))[i_3] cE_3 (hrce_3.mv hu).2 (RMp.mv hme_3 hu) htge_3) rfl (fun u7 v7 ht7 hR7 => ?_)
        have hrc := hrc.mv ht7
        have hrt := hrt.mv ht7
        have hMK := hMK.mv ht7
        have hRK := hRK.mv ht7
        have huu_1 := huu_1.mv ht7
        have hLs_3 := hLs_3.mv ht7
        have hLs_4 := hLs_4.mv ht7
        have hcI1 := hcI1.mv ht7
        have hIr_3 := hIr_3.mv ht7
        have hrce_3 := hrce_3.mv ht7
        have hme_3 := hme_3.mv ht7
        obtain ⟨dsF3, rfl, hdF3⟩ := hR7
        refine lo_back (sk_js ht7 [1, 3, 4, 5] rfl) ?_
        refine lo_eff rfl rfl ?_
        refine ln_append (i := 2) rfl Tryz.underlying34 tiimpl_Tree rfl (by decide) rfl rfl (src_obj (j := 0) rfl rfl rfl) (by rw [hil_3]; first | omega | (simp only [maxLen]; omega)) (by rw [hil_3]; first | omega | (simp only [maxLen]; omega)) rfl (k' := ((els (y.at_ 3)).take (i_3 + 1)).length) (xs' := ys_3 ++ [.int .i64 0, .slice none 0 0, .bool false, .slice none 0 0, .slice none 0 0]) hsl_3.symm (by simp [flat, Value.cells]) (fun v8 hv8 => ?_)
        refine lo_back (sk_js ht7 [1, 3, 4, 5] rfl) ?_
        refine lo_eff rfl rfl ?_
        refine ln_pv (pv_ixN (o := 0) (i := 3) Tryz.underlying34 (tiimpl_Tree).size rfl rfl (by decide)) rfl ?_
        refine lo_back (sk_js ht7 [1, 3, 4, 5] rfl) ?_
        refine lo_pv rfl rfl (sk_js ht7 [1, 3, 4, 5] rfl) (pv_fieldAddr (off := 3) (r := 18) Tryz.underlying37 rfl (tiSl_impl_Tree).size rfl rfl rfl) rfl ?_
        refine lo_eff rfl rfl ?_
        refine ln_store1 (i := 4) rfl rfl rfl hv8.2 (tiSl_impl_Tree).size rfl ?_
        refine lo_last (by kernel_rfl) ?_
        refine lo_cd ?_
        refine cd_region ?_
        refine ln_rowshp (i := 2) rfl (fun ad2_3 cp2_3 hv2_3 hle2_3 hpos2_3 => ?_)
        subst hv2_3
        obtain ⟨g2_3, rfl⟩ := hpos2_3 (by omega)
        refine ln_pv (pv_ixN Tryz.underlying34 tiimpl_Tree.size rfl rfl (by omega)) rfl ?_
        refine ln_storeR (i := 2) (vs := dsF3) (xs' := ys_3 ++ dsF3) rfl rfl rfl rfl (by rw [show List.length _ = 5 from hdF3.len]; exact tiimpl_Tree.size) (by have h5 : List.length (dsF3) = 5 := hdF3.len; omega) hdF3.cells (wr_end (show 5 = List.length _ from Eq.symm hdF3.len) (by have h6 := (RTs.len5 hIr_3); simp only [List.length_map] at h6; omega)) ?_
        refine ln_nil ?_
        refine at_cd ?_
        refine cd_region ?_
        refine ln_pv (pv_add' rfl rfl (wrap_succ (by omega))) rfl ?_
        refine ln_pv (pv_move rfl) rfl ?_
        refine ln_nil ?_
        refine at_rnd (i_3 + 1, ys_3 ++ dsF3, (.slice (some ⟨g2_3, 0, none⟩) ((els (y.at_ 3)).take (i_3 + 1)).length cp2_3)) (hl1.trans ht7) ?_ ?_ ⟨rfl, rfl, rfl, rfl, rfl,  trivial⟩ (.cons _ (.cons _ (.cons_cons _ (.cons_cons _ (.cons_cons _ (.cons_cons _ .slnil))))))
        · intro s9 hs9
          exact ⟨by dsimp only; omega, RTs_snoc hi_3 (RTs.mv hIr_3 hs9) (RT.mv hdF3 hs9)⟩
        · dsimp only; omega
  · -- no
    refine cd_exit rfl ?_
    refine at_cd ?_
    have hq_3 : i_3 = (els (y.at_ 3)).length := by omega
    subst hq_3
    rw [List.take_length] at hIr_3
    refine cd_row (i := 0) (m' := ((els (y.at_ 3)).map (tlT F_sControllerRegistrationRequestListener)).length) (xs' := ys_3) rfl (by simp) rfl ?_
    refine cd_dr' [1, 2, 3] [0, 1, 2, 3, 4, 5, 6, 8] [0, 1, 2, 3, 4, 5, 6, 7, 8, 9] mixed (by kernel_rfl) ?_
    refine lo_pv rfl rfl (sk_js (Tr.refl _) [1, 2, 3] rfl) (pv_fieldAddr (off := 3) (r := 3) Tryz.underlying37 rfl (tiSl_impl_Tree).size rfl rfl rfl) rfl ?_
    refine lo_pv rfl rfl (sk_js (Tr.refl _) [1, 2, 3] rfl) (pv_ldo (i := 0) rfl Tryz.underlying34 rfl rfl rfl) rfl ?_
    refine lo_pv rfl rfl (sk_js (Tr.refl _) [1, 2, 3] rfl) (pv_move rfl) rfl ?_
    refine lo_pv rfl rfl (sk_js (Tr.refl _) [1, 2, 3] rfl) (pv_nilCheck rfl) rfl ?_
    refine lo_pv rfl rfl (sk_js (Tr.refl _) [1, 2, 3] rfl) (pv_fieldAddr (off := 20)  Tryz.underlying181 rfl (tiSl_kmsg_ControllerRegistrationRequestFeature).size rfl rfl rfl) rfl ?_
    refine lo_pv rfl rfl (sk_js (Tr.refl _) [1, 2, 3] rfl) (pv_ldr (j := 20) hrc Tryz.underlying179 rfl rfl rfl) rfl ?_
    refine lo_pv rfl rfl (sk_js (Tr.refl _) [1, 2, 3] rfl) (pv_eqS Tryz.underlying179 rfl rfl) rfl ?_
    refine lo_eff rfl rfl ?_
    refine ln_pv (pv_ixN (o := 0) (i := 4) Tryz.underlying34 (tiimpl_Tree).size rfl rfl (by decide)) rfl ?_
    refine lo_back (sk_js (Tr.refl _) [1, 2, 3] rfl) ?_
    refine lo_pv rfl rfl (sk_js (Tr.refl _) [1, 2, 3] rfl) (pv_fieldAddr (off := 2) (r := 22) Tryz.underlying37 rfl (tibool).size rfl rfl rfl) rfl ?_
    refine lo_eff rfl rfl ?_
    refine ln_store1 (i := 2) rfl rfl rfl rfl (tibool).size rfl ?_
    refine lo_last (by kernel_rfl) ?_
    refine lo_cd ?_
    refine cd_seq ?_
    refine cd_nilrow 37 5 ?_
    refine cd_sr ?_
    refine ln_pv (pv_move rfl) rfl ?_
    refine ln_pv (pv_nilCheck rfl) rfl ?_
    refine ln_pv (pv_fieldAddr (off := 20)  Tryz.underlying181 rfl (tiSl_kmsg_ControllerRegistrationRequestFeature).size rfl rfl rfl) rfl ?_
    refine ln_pv (pv_ldr (j := 20) hrc Tryz.underlying179 rfl rfl rfl) rfl ?_
    refine ln_pv (pv_len_slice Tryz.underlying179 rfl) rfl ?_
    refine ln_pv (pv_move rfl) rfl ?_
    refine ln_cd ?_
    refine cd_block ?_
    refine cd_loop (⟨fun (z : Nat × List Value × Value) => [(0, .pointer (some ⟨b, 0, none⟩)), (2, .pointer (some ⟨b1, 0, none⟩)), (3, .pointer (some ⟨b2, 0, none⟩)), (103, .int .i64 ((els (y.at_ 4)).length : Int)), (104, .int .i64 ((z.1 : Nat) : Int))], fun (z : Nat × List Value × Value) => [.row z.2.2 37 5 ((els (y.at_ 4)).take z.1).length z.2.1, .row vv_3 37 5 ((els (y.at_ 3)).map (tlT F_sControllerRegistrationRequestListener)).length ys_3, .obj b2 (.cells [.int .i64 0, .slice none 0 0, .bool false, .slice (some ⟨bL, 0, none⟩) 5 5, .slice none 0 0].toArray 37), .obj bL (.cells [.int .i64 (IntKind.i32.wrap (y.at_ 0).n), .slice none 0 0, .bool false, .slice none 0 0, .slice none 0 0, .int .i64 0, vI1, .bool false, .slice none 0 0, .slice none 0 0, .int .i64 (if decide ((y.at_ 2).n % 2 = 1) then 1 else 0), .slice none 0 0, .bool false, .slice none 0 0, .slice none 0 0, .int .i64 0, .slice none 0 0, .bool ad1_3.isNone, vv_3, .slice none 0 0, .int .i64 0, .slice none 0 0, .bool ad1_4.isNone, z.2.2, .slice none 0 0].toArray 37), .obj b1 (.cells [.int .i64 0, .slice none 0 0, .bool false, .slice none 0 0, .slice none 0 0].toArray 37)], fun (z : Nat × List Value × Value) s => z.1 ≤ (els (y.at_ 4)).length ∧ RTs s (((els (y.at_ 4)).take z.1).map (tlT F_sControllerRegistrationRequestFeature)) z.2.1, fun (z : Nat × List Value × Value) => (els (y.at_ 4)).length - z.1⟩ : Lp (Nat × List Value × Value)) (0, [], .slice none 0 0) ?_ ?_ ?_ ?_
    · intro s0 hs0
      exact ⟨Nat.zero_le _, rfl⟩
    · exact ⟨rfl, rfl, rfl, rfl, rfl,  trivial⟩
    · exact (.cons_cons _ (.cons_cons _ (.cons_cons _ (.cons_cons _ (.cons_cons _ .slnil)))))
    intro z s2 hl2 hI
    obtain ⟨i_4, ys_4, vv_4⟩ := z
    dsimp only at hI ⊢
    have hrc := hrc.mv hl2
    have hrt := hrt.mv hl2
    have hMK := hMK.mv hl2
    have hRK := hRK.mv hl2
    have huu_1 := huu_1.mv hl2
    have hLs_3 := hLs_3.mv hl2
    have hLs_4 := hLs_4.mv hl2
    have hcI1 := hcI1.mv hl2
    have hIr_3 := hIr_3.mv hl2
    obtain ⟨hI_4, hIr_4⟩ := hI
    refine cd_sr ?_
    refine ln_pv (pv_lss rfl rfl) rfl ?_
    refine ln_cd ?_
    refine cd_seq ?_
    refine cd_if rfl (fun hc2 => ?_) (fun hc2 => ?_)
    · -- yes
      refine cd_skip ?_
      refine at_cd ?_
      refine cd_seq ?_
      refine cd_block ?_
      have hi_4 : i_4 < (els (y.at_ 4)).length := by omega
      have hsl_4 : ((els (y.at_ 4)).take (i_4 + 1)).length = ((els (y.at_ 4)).take i_4).length + 1 := by simp only [List.length_take]; omega
      have hil_4 : ((els (y.at_ 4)).take i_4).length = i_4 := by rw [List.length_take]; omega
      obtain ⟨gE_4, oE_4, cE_4, hadE_4, hrce_4, hme_4⟩ := hLs_4.at_ hi_4 (show esl _ _ = 4 by kernel_rfl)
      subst hadE_4
      have hme_4 := RE_part hme_4
      have htge_4 : tgT F_sControllerRegistrationRequestFeature (els (y.at_ 4))[i_4] := by have h := (tgF_list.1 qg4).2 _ (List.getElem_mem hi_4); rw [if_pos rfl] at h; exact h
      refine cd_sr ?_
      refine ln_pv (pv_move rfl) rfl ?_
      refine ln_pv (pv_assign rfl) rfl ?_
      refine ln_cd ?_
      refine cd_dr3 [2, 3, 4] [] [0] 1 2 [2, 3] [1, 3] mixed (by kernel_rfl) ?_
      refine lo_eff rfl rfl ?_
      refine ln_alloc tibool rfl rfl (fun b7 => ?_)
      refine lo_last (by kernel_rfl) ?_
      refine lo_nil (at_two ?_ ?_)
      · skip
        refine lo_eff rfl rfl ?_
        refine ln_store1 (i := 0) rfl rfl rfl rfl (tibool).size rfl ?_
        refine lo_last (by kernel_rfl) ?_
        refine lo_eff rfl rfl ?_
        refine ln_store1 (i := 0) rfl rfl rfl rfl (tibool).size rfl ?_
        refine lo_last (by kernel_rfl) ?_
        refine lo_eff rfl rfl ?_
        refine ln_pv (pv_ldo (i := 0) rfl Tryz.underlying4 rfl rfl rfl) rfl ?_
        refine lo_last (by kernel_rfl) ?_
        refine lo_cd ?_
        refine cd_ff rfl ?_
        refine cd_draw' [0, 3, 4, 5] [0, 1, 2, 3, 4, 5, 6, 7, 8, 9, 10, 11, 12, 17] [0, 1, 2, 3, 4, 5, 6, 7, 8, 9, 10, 11, 12, 13, 14, 15, 16, 17, 18] mixed (by kernel_rfl) ?_
        refine lo_pv rfl rfl (sk_js (Tr.refl _) [0, 3, 4, 5] rfl) (pv_fieldAddr (off := 3) (r := 3) Tryz.underlying37 rfl (tiSl_impl_Tree).size rfl rfl rfl) rfl ?_
        refine lo_pv rfl rfl (sk_js (Tr.refl _) [0, 3, 4, 5] rfl) (pv_ldo (i := 1) rfl Tryz.underlying34 rfl rfl rfl) rfl ?_
        refine lo_pv rfl rfl (sk_js (Tr.refl _) [0, 3, 4, 5] rfl) (pv_fieldAddr (off := 3) (r := 3) Tryz.underlying37 rfl (tiSl_impl_Tree).size rfl rfl rfl) rfl ?_
        refine lo_pv rfl rfl (sk_js (Tr.refl _) [0, 3, 4, 5] rfl) (pv_ldo (i := 1) rfl Tryz.underlying34 rfl rfl rfl) rfl ?_
        refine lo_pv rfl rfl (sk_js (Tr.refl _) [0, 3, 4, 5] rfl) (pv_ixN (o := 0) (i := 4) Tryz.underlying34 (tiimpl_Tree).size rfl rfl (by decide)) rfl ?_
        refine lo_pv rfl rfl (sk_js (Tr.refl _) [0, 3, 4, 5] rfl) (pv_fieldAddr (off := 3) (r := 23) Tryz.underlying37 rfl (tiSl_impl_Tree).size rfl rfl rfl) rfl ?_
        refine lo_pv rfl rfl (sk_js (Tr.refl _) [0, 3, 4, 5] rfl) (pv_ldo (i := 2) rfl Tryz.underlying34 rfl rfl rfl) rfl ?_
        refine lo_pv rfl rfl (sk_js (Tr.refl _) [0, 3, 4, 5] rfl) (pv_move rfl) rfl ?_
        refine lo_pv rfl rfl (sk_js (Tr.refl _) [0, 3, 4, 5] rfl) (pv_nilCheck rfl) rfl ?_
        refine lo_pv rfl rfl (sk_js (Tr.refl _) [0, 3, 4, 5] rfl) (pv_fieldAddr (off := 20)  Tryz.underlying181 rfl (tiSl_kmsg_ControllerRegistrationRequestFeature).size rfl rfl rfl) rfl ?_
        refine lo_pv rfl rfl (sk_js (Tr.refl _) [0, 3, 4, 5] rfl) (pv_ldr (j := 20) hrc Tryz.underlying179 rfl rfl rfl) rfl ?_
        refine lo_pv rfl rfl (sk_js (Tr.refl _) [0, 3, 4, 5] rfl) (pv_move rfl) rfl ?_
        refine lo_pv rfl rfl (sk_js (Tr.refl _) [0, 3, 4, 5] rfl) (pv_ixN Tryz.underlying179 (tipub_kmsg_ControllerRegistrationRequestFeature).size rfl rfl hi_4) rfl ?_
        refine lo_eff rfl rfl ?_
        refine ln_callA en_172 rfl (fun u hu => tell_ControllerRegistrationRequestFeature u gE_4 (oE_4 + i_4 * 4) (els (y.at_ 4))[i_4] cE_4 (hrce_4.mv hu).2 (RMp.mv hme_4 hu) htge_4) rfl (fun u10 v10 ht10 hR10 => ?_)
        have hrc := hrc.mv ht10
        have hrt := hrt.mv ht10
        have hMK := hMK.mv ht10
        have hRK := hRK.mv ht10
        have huu_1 := huu_1.mv ht10
        have hLs_3 := hLs_3.mv ht10
        have hLs_4 := hLs_4.mv ht10
        have hcI1 := hcI1.mv ht10
        have hIr_3 := hIr_3.mv ht10
        have hIr_4 := hIr_4.mv ht10
        have hrce_4 := hrce_4.mv ht10
        have hme_4 := hme_4.mv ht10
        obtain ⟨dsF4, rfl, hdF4⟩ := hR10
        refine lo_back (sk_js ht10 [0, 3, 4, 5] rfl) ?_
        refine lo_eff rfl rfl ?_
        refine ln_lit (vs := [_]) Tryz.underlying34 tiimpl_Tree rfl (by decide) rfl rfl rfl (by simp [partsOk, Value.cells, hdF4.len]; try exact .inl rfl) rfl rfl (fun b8 => ?_)
        refine lo_back (sk_js ht10 [1, 4, 5, 6] rfl) ?_
        refine lo_eff rfl rfl ?_
        refine ln_append (i := 2) rfl Tryz.underlying34 tiimpl_Tree rfl (by decide) rfl rfl (src_obj (j := 0) rfl (by simp [flat, Value.cells, hdF4.len]) (List.all_eq_true.2 (by simpa [flat, Value.cells] using hdF4.cells))) (by rw [hil_4]; first | omega | (simp only [maxLen]; omega)) (by rw [hil_4]; first | omega | (simp only [maxLen]; omega)) rfl (k' := ((els (y.at_ 4)).take (i_4 + 1)).length) (xs' := ys_4 ++ dsF4) hsl_4.symm (by simp [flat, Value.cells]) (fun v11 hv11 => ?_)
        refine lo_back (sk_js ht10 [1, 4, 5, 6] rfl) ?_
        refine lo_eff rfl rfl ?_
        refine ln_pv (pv_ixN (o := 0) (i := 4) Tryz.underlying34 (tiimpl_Tree).size rfl rfl (by decide)) rfl ?_
        refine lo_back (sk_js ht10 [1, 4, 5, 6] rfl) ?_
        refine lo_pv rfl rfl (sk_js ht10 [1, 4, 5, 6] rfl) (pv_fieldAddr (off := 3) (r := 23) Tryz.underlying37 rfl (tiSl_impl_Tree).size rfl rfl rfl) rfl ?_
        refine lo_eff rfl rfl ?_
        refine ln_store1 (i := 5) rfl rfl rfl hv11.2 (tiSl_impl_Tree).size rfl ?_
        refine lo_last (by kernel_rfl) ?_
        refine lo_nil ?_
        refine at_cd ?_
        refine cd_region ?_
        refine ln_pv (pv_add' rfl rfl (wrap_succ (by omega))) rfl ?_
        refine ln_pv (pv_move rfl) rfl ?_
        refine ln_nil ?_
        refine at_rnd (i_4 + 1, ys_4 ++ dsF4, v11) (hl2.trans ht10) ?_ ?_ ⟨rfl, rfl, rfl, rfl, rfl,  trivial⟩ (.cons _ (.cons _ (.cons_cons _ (.cons_cons _ (.cons_cons _ (.cons_cons _ (.cons_cons _ .slnil)))))))
        · intro s9 hs9
          exact ⟨by dsimp only; omega, RTs_snoc hi_4 (RTs.mv hIr_4 hs9) (RT.mv hdF4 hs9)⟩
        · dsimp only; omega
      · skip
        refine lo_eff rfl rfl ?_
        refine ln_store1 (i := 0) rfl rfl rfl rfl (tibool).size rfl ?_
        refine lo_last (by kernel_rfl) ?_
        refine lo_eff rfl rfl ?_
        refine ln_store1 (i := 0) rfl rfl rfl rfl (tibool).size rfl ?_
        refine lo_last (by kernel_rfl) ?_
        refine lo_eff rfl rfl ?_
        refine ln_pv (pv_ldo (i := 0) rfl Tryz.underlying4 rfl rfl rfl) rfl ?_
        refine lo_last (by kernel_rfl) ?_
        refine lo_cd ?_
        refine cd_tt rfl ?_
        refine cd_rowshape (i := 1) rfl (fun adR_4 cpR_4 hvR_4 hleR_4 hposR_4 => ?_)
        subst hvR_4
        refine cd_dr2 [0, 3, 4, 5] [0, 1, 2, 3, 4, 5, 6, 7, 8, 9, 10, 12, 16] [0, 1, 2, 3, 4, 5, 6, 7, 8, 9, 10, 12] 11 13 [13, 14, 15, 16, 17] [11, 14, 15, 16, 17] mixed (by kernel_rfl) ?_
        refine lo_pv rfl rfl (sk_js (Tr.refl _) [0, 3, 4, 5] rfl) (pv_fieldAddr (off := 3) (r := 3) Tryz.underlying37 rfl (tiSl_impl_Tree).size rfl rfl rfl) rfl ?_
        refine lo_pv rfl rfl (sk_js (Tr.refl _) [0, 3, 4, 5] rfl) (pv_ldo (i := 1) rfl Tryz.underlying34 rfl rfl rfl) rfl ?_
        refine lo_pv rfl rfl (sk_js (Tr.refl _) [0, 3, 4, 5] rfl) (pv_ixN (o := 0) (i := 4) Tryz.underlying34 (tiimpl_Tree).size rfl rfl (by decide)) rfl ?_
        refine lo_pv rfl rfl (sk_js (Tr.refl _) [0, 3, 4, 5] rfl) (pv_fieldAddr (off := 3) (r := 23) Tryz.underlying37 rfl (tiSl_impl_Tree).size rfl rfl rfl) rfl ?_
        refine lo_pv rfl rfl (sk_js (Tr.refl _) [0, 3, 4, 5] rfl) (pv_ldo (i := 2) rfl Tryz.underlying34 rfl rfl rfl) rfl ?_
        refine lo_pv rfl rfl (sk_js (Tr.refl _) [0, 3, 4, 5] rfl) (pv_move rfl) rfl ?_
        refine lo_pv rfl rfl (sk_js (Tr.refl _) [0, 3, 4, 5] rfl) (pv_nilCheck rfl) rfl ?_
        refine lo_pv rfl rfl (sk_js (Tr.refl _) [0, 3, 4, 5] rfl) (pv_fieldAddr (off := 20)  Tryz.underlying181 rfl (tiSl_kmsg_ControllerRegistrationRequestFeature).size rfl rfl rfl) rfl ?_
        refine lo_pv rfl rfl (sk_js (Tr.refl _) [0, 3, 4, 5] rfl) (pv_ldr (j := 20) hrc Tryz.underlying179 rfl rfl rfl) rfl ?_
        refine lo_pv rfl rfl (sk_js (Tr.refl _) [0, 3, 4, 5] rfl) (pv_move rfl) rfl ?_
        refine lo_pv rfl rfl (sk_js (Tr.refl _) [0, 3, 4, 5] rfl) (pv_ixN Tryz.underlying179 (tipub_kmsg_ControllerRegistrationRequestFeature).size rfl rfl hi_4) rfl ?_
        refine lo_pv rfl rfl (sk_js (Tr.refl _) [0, 3, 4, 5] rfl) (pv_len_slice Tryz.underlying34 rfl) rfl ?_
        refine lo_nil (at_two ?_ ?_)
        · skip
          refine lo_eff rfl rfl ?_
          refine ln_callA en_172 rfl (fun u hu => tell_ControllerRegistrationRequestFeature u gE_4 (oE_4 + i_4 * 4) (els (y.at_ 4))[i_4] cE_4 (hrce_4.mv hu).2 (RMp.mv hme_4 hu) htge_4) rfl (fun u12 v12 ht12 hR12 => ?_)
          have hrc := hrc.mv ht12
          have hrt := hrt.mv ht12
          have hMK := hMK.mv ht12
          have hRK := hRK.mv ht12
          have huu_1 := huu_1.mv ht12
          have hLs_3 := hLs_3.mv ht12
          have hLs_4 := hLs_4.mv ht12
          have hcI1 := hcI1.mv ht12
          have hIr_3 := hIr_3.mv ht12
          have hIr_4 := hIr_4.mv ht12
          have hrce_4 := hrce_4.mv ht12
          have hme_4 := hme_4.mv ht12
          obtain ⟨dsF4, rfl, hdF4⟩ := hR12
          refine lo_back (sk_js ht12 [0, 3, 4, 5] rfl) ?_
          refine lo_eff rfl rfl ?_
          refine ln_lit (vs := [_]) Tryz.underlying34 tiimpl_Tree rfl (by decide) rfl rfl rfl rfl rfl rfl (fun b9 => ?_)
          refine lo_back (sk_js ht12 [1, 4, 5, 6] rfl) ?_
          refine lo_eff rfl rfl ?_
          refine ln_append (i := 2) rfl Tryz.underlying34 tiimpl_Tree rfl (by decide) rfl rfl (src_obj (j := 0) rfl rfl rfl) (by rw [hil_4]; first | omega | (simp only [maxLen]; omega)) (by rw [hil_4]; first | omega | (simp only [maxLen]; omega)) rfl (k' := ((els (y.at_ 4)).take (i_4 + 1)).length) (xs' := ys_4 ++ [.int .i64 0, .slice none 0 0, .bool false, .slice none 0 0, .slice none 0 0]) hsl_4.symm (by simp [flat, Value.cells]) (fun v13 hv13 => ?_)
          refine lo_back (sk_js ht12 [1, 4, 5, 6] rfl) ?_
          refine lo_eff rfl rfl ?_
          refine ln_pv (pv_ixN (o := 0) (i := 4) Tryz.underlying34 (tiimpl_Tree).size rfl rfl (by decide)) rfl ?_
          refine lo_back (sk_js ht12 [1, 4, 5, 6] rfl) ?_
          refine lo_pv rfl rfl (sk_js ht12 [1, 4, 5, 6] rfl) (pv_fieldAddr (off := 3) (r := 23) Tryz.underlying37 rfl (tiSl_impl_Tree).size rfl rfl rfl) rfl ?_
          refine lo_eff rfl rfl ?_
          refine ln_store1 (i := 5) rfl rfl rfl hv13.2 (tiSl_impl_Tree).size rfl ?_
          refine lo_last (by kernel_rfl) ?_
          refine lo_cd ?_
          refine cd_region ?_
          refine ln_rowshp (i := 2) rfl (fun ad2_4 cp2_4 hv2_4 hle2_4 hpos2_4 => ?_)
          subst hv2_4
          obtain ⟨g2_4, rfl⟩ := hpos2_4 (by omega)
          refine ln_pv (pv_ixN Tryz.underlying34 tiimpl_Tree.size rfl rfl (by omega)) rfl ?_
          refine ln_storeR (i := 2) (vs := dsF4) (xs' := ys_4 ++ dsF4) rfl rfl rfl rfl (by rw [show List.length _ = 5 from hdF4.len]; exact tiimpl_Tree.size) (by have h5 : List.length (dsF4) = 5 := hdF4.len; omega) hdF4.cells (wr_end (show 5 = List.length _ from Eq.symm hdF4.len) (by have h6 := (RTs.len5 hIr_4); simp only [List.length_map] at h6; omega)) ?_
          refine ln_nil ?_
          refine at_cd ?_
          refine cd_region ?_
          refine ln_pv (pv_add' rfl rfl (wrap_succ (by omega))) rfl ?_
          refine ln_pv (pv_move rfl) rfl ?_
          refine ln_nil ?_
          refine at_rnd (i_4 + 1, ys_4 ++ dsF4, (.slice (some ⟨g2_4, 0, none⟩) ((els (y.at_ 4)).take (i_4 + 1)).length cp2_4)) (hl2.trans ht12) ?_ ?_ ⟨rfl, rfl, rfl, rfl, rfl,  trivial⟩ (.cons _ (.cons _ (.cons_cons _ (.cons_cons _ (.cons_cons _ (.cons_cons _ (.cons_cons _ .slnil)))))))
          · intro s9 hs9
            exact ⟨by dsimp only; omega, RTs_snoc hi_4 (RTs.mv hIr_4 hs9) (RT.mv hdF4 hs9)⟩
          · dsimp only; omega
        · skip
          refine lo_eff rfl rfl ?_
          refine ln_lit (vs := [_]) Tryz.underlying34 tiimpl_Tree rfl (by decide) rfl rfl rfl rfl rfl rfl (fun b10 => ?_)
          refine lo_back (sk_js (Tr.refl _) [1, 4, 5, 6] rfl) ?_
          refine lo_eff rfl rfl ?_
          refine ln_callA en_172 rfl (fun u hu => tell_ControllerRegistrationRequestFeature u gE_4 (oE_4 + i_4 * 4) (els (y.at_ 4))[i_4] cE_4 (hrce_4.mv hu).2 (RMp.mv hme_4 hu) htge_4) rfl (fun u15 v15 ht15 hR15 => ?_)
          have hrc := hrc.mv ht15
          have hrt := hrt.mv ht15
          have hMK := hMK.mv ht15
          have hRK := hRK.mv ht15
          have huu_1 := huu_1.mv ht15
          have hLs_3 := hLs_3.mv ht15
          have hLs_4 := hLs_4.mv ht15
          have hcI1 := hcI1.mv ht15
          have hIr_3 := hIr_3.mv ht15
          have hIr_4 := hIr_4.mv ht15
          have hrce_4 := hrce_4.mv ht15
          have hme_4 := hme_4.mv ht15
          obtain ⟨dsF4, rfl, hdF4⟩ := hR15
          refine lo_back (sk_js ht15 [1, 4, 5, 6] rfl) ?_
          refine lo_eff rfl rfl ?_
          refine ln_append (i := 2) rfl Tryz.underlying34 tiimpl_Tree rfl (by decide) rfl rfl (src_obj (j := 0) rfl rfl rfl) (by rw [hil_4]; first | omega | (simp only [maxLen]; omega)) (by rw [hil_4]; first | omega | (simp only [maxLen]; omega)) rfl (k' := ((els (y.at_ 4)).take (i_4 + 1)).length) (xs' := ys_4 ++ [.int .i64 0, .slice none 0 0, .bool false, .slice none 0 0, .slice none 0 0]) hsl_4.symm (by simp [flat, Value.cells]) (fun v16 hv16 => ?_)
          refine lo_back (sk_js ht15 [1, 4, 5, 6] rfl) ?_
          refine lo_eff rfl rfl ?_
          refine ln_pv (pv_ixN (o := 0) (i := 4) Tryz.underlying34 (tiimpl_Tree).size rfl rfl (by decide)) rfl ?_
          refine lo_back (sk_js ht15 [1, 4, 5, 6] rfl) ?_
          refine lo_pv rfl rfl (sk_js ht15 [1, 4, 5, 6] rfl) (pv_fieldAddr (off := 3) (r := 23) Tryz.underlying37 rfl (tiSl_impl_Tree).size rfl rfl rfl) rfl ?_
          refine lo_eff rfl rfl ?_
          refine ln_store1 (i := 5) rfl rfl rfl hv16.2 (tiSl_impl_Tree).size rfl ?_
          refine lo_last (by kernel_rfl) ?_
          refine lo_cd ?_
          refine cd_region ?_
          refine ln_rowshp (i := 2) rfl (fun ad2_4 cp2_4 hv2_4 hle2_4 hpos2_4 => ?_)
          subst hv2_4
          obtain ⟨g2_4, rfl⟩ := hpos2_4 (by omega)
          refine ln_pv (pv_ixN Tryz.underlying34 tiimpl_Tree.size rfl rfl (by omega)) rfl ?_
          refine ln_storeR (i := 2) (vs := dsF4) (xs' := ys_4 ++ dsF4) rfl rfl rfl rfl (by rw [show List.length _ = 5 from hdF4.len]; exact tiimpl_Tree.size) (by have h5 : List.length (dsF4) = 5 := hdF4.len; omega) hdF4.cells (wr_end (show 5 = List.length _ from Eq.symm hdF4.len) (by have h6 := (RTs.len5 hIr_4); simp only [List.length_map] at h6; omega)) ?_
          refine ln_nil ?_
          refine at_cd ?_
          refine cd_region ?_
          refine ln_pv (pv_add' rfl rfl (wrap_succ (by omega))) rfl ?_
          refine ln_pv (pv_move rfl) rfl ?_
          refine ln_nil ?_
          refine at_rnd (i_4 + 1, ys_4 ++ dsF4, (.slice (some ⟨g2_4, 0, none⟩) ((els (y.at_ 4)).take (i_4 + 1)).length cp2_4)) (hl2.trans ht15) ?_ ?_ ⟨rfl, rfl, rfl, rfl, rfl,  trivial⟩ (.cons _ (.cons _ (.cons_cons _ (.cons_cons _ (.cons_cons _ (.cons_cons _ (.cons_cons _ .slnil)))))))
          · intro s9 hs9
            exact ⟨by dsimp only; omega, RTs_snoc hi_4 (RTs.mv hIr_4 hs9) (RT.mv hdF4 hs9)⟩
          · dsimp only; omega
    · -- no
      refine cd_exit rfl ?_
      refine at_cd ?_
      have hq_4 : i_4 = (els (y.at_ 4)).length := by omega
      subst hq_4
      rw [List.take_length] at hIr_4
      refine cd_row (i := 0) (m' := ((els (y.at_ 4)).map (tlT F_sControllerRegistrationRequestFeature)).length) (xs' := ys_4) rfl (by simp) rfl ?_
      refine cd_sr ?_
      refine ln_pv (pv_move rfl) rfl ?_
      refine ln_pv (pv_nilCheck rfl) rfl ?_
      refine ln_pv (pv_fieldAddr (off := 21)  Tryz.underlying181 rfl (tipub_kmsg_Tags).size rfl rfl rfl) rfl ?_
      refine ln_pv (pv_makeFunc (vf := #[]) (vc := #[.pointer (some ⟨b2, 0, none⟩)]) (by rw [List.map_toArray, List.map_toArray]; rfl) (by rw [List.map_toArray, List.map_toArray]; rfl)) rfl ?_
      refine ln_nilrow 69 2 ?_
      have hst := tclo_ControllerRegistrationRequest b2 (.int .i64 0) (.slice none 0 0) (.bool false) (.slice (some ⟨bL, 0, none⟩) 5 5) y.u hkeys hlens (Nat.le_of_lt hlen)
      have hEa := fun (u : Vw) hr hm hk h0 hok hav hnd => tags_EachG (fun z => TA b2 (.int .i64 0) (.slice none 0 0) (.bool false) (.slice (some ⟨bL, 0, none⟩) 5 5) z) TB (TInv y.u) 173 (.pointer (some ⟨b2, 0, none⟩)) en_173 u b (0 + 21) mv1 lt y.u (.slice none 0 0, [], 0) hr hm hk hsrt (by omega) h0 hst hok hav hnd
      refine ln_callH (E := [TA b2 (.int .i64 0) (.slice none 0 0) (.bool false) (.slice (some ⟨bL, 0, none⟩) 5 5) (.slice none 0 0, [], 0), TB (.slice none 0 0, [], 0)]) (H0 := [_, _, _, _]) (List.perm_middle (l₁ := [_, _, _])) en_125 rfl (fun u hu hok hav hnd => hEa u (RC1.mv hrt hu) (hMK.mv hu) (RK.mv hu hRK) (fun w hw => ⟨rfl, by rw [List.take_zero]; rfl⟩) hok hav hnd) rfl ?_
      rintro u18 v18 _ ht18 ⟨xu18, ⟨⟨vU, csU, kU⟩, rfl, hzU⟩, hxu18⟩
      obtain ⟨hkU, hRU⟩ := (hzU.mv hxu18).get
      dsimp only at hkU hRU
      subst hkU
      rw [List.take_length] at hRU
      have hrc := hrc.mv ht18
      have hrt := hrt.mv ht18
      have hMK := hMK.mv ht18
      have hRK := hRK.mv ht18
      have huu_1 := huu_1.mv ht18
      have hLs_3 := hLs_3.mv ht18
      have hLs_4 := hLs_4.mv ht18
      have hcI1 := hcI1.mv ht18
      have hIr_3 := hIr_3.mv ht18
      have hIr_4 := hIr_4.mv ht18
      refine ln_cd ?_
      refine cd_sr ?_
      refine ln_pv (pv_fieldAddr (off := 4) (r := 4) Tryz.underlying37 rfl (tiSl_impl_Tag).size rfl rfl rfl) rfl ?_
      refine ln_pv (pv_ldo (i := 0) rfl Tryz.underlying35 rfl rfl rfl) rfl ?_
      refine ln_callT (i := 1) en_127 rfl rfl (fun u hu hok hav => impl_sorted u vU y.u csU hsrt (by omega) (RUs.cells hRU).1 (fun i hi => by obtain ⟨c1, tv, c3, he, hc, _, _⟩ := RUs.at_ hi hRU; rw [he, List.append_assoc, List.getElem?_append_right (by omega), hc]; simp) hok hav) rfl ?_
      rintro u19 v19 _ ht19 ⟨_, rfl, _⟩
      have hrc := hrc.mv ht19
      have hrt := hrt.mv ht19
      have hMK := hMK.mv ht19
      have hRK := hRK.mv ht19
      have huu_1 := huu_1.mv ht19
      have hLs_3 := hLs_3.mv ht19
      have hLs_4 := hLs_4.mv ht19
      have hcI1 := hcI1.mv ht19
      have hIr_3 := hIr_3.mv ht19
      have hIr_4 := hIr_4.mv ht19
      have hRU := hRU.mv ht19
      refine ln_cd ?_
      refine cd_rowone (i := 1) rfl (fun hoU => ?_)
      refine cd_sr ?_
      refine ln_pv (pv_ldO (i := 0) rfl Tryz.underlying37 rfl (tiimpl_Tree).size rfl rfl) rfl ?_
      refine ln_storeW (i := 5) rfl rfl rfl rfl (tiimpl_Tree).size rfl (by simp [hoU]) ?_
      refine ln_cd ?_
      refine cd_ret ?_
      refine at_retC (i := 5) rfl rfl rfl Tryz.underlying37 rfl tiimpl_Tree.size rfl (fun w hS => ?_)
      have hRTs : RTs hS.fin [.mk (IntKind.i32.wrap (y.at_ 0).n) [] false [] [], .mk 0 (uuid (y.at_ 1).s) false [] [], .mk (if decide ((y.at_ 2).n % 2 = 1) then 1 else 0) [] false [] [], .mk 0 [] (y.at_ 3).z ((els (y.at_ 3)).map (tlT F_sControllerRegistrationRequestListener)) [], .mk 0 [] (y.at_ 4).z ((els (y.at_ 4)).map (tlT F_sControllerRegistrationRequestFeature)) []] _ := ⟨[.int .i64 (IntKind.i32.wrap (y.at_ 0).n), .slice none 0 0, .bool false, .slice none 0 0, .slice none 0 0], _, rfl, RT_num (I64_i32 _), ⟨[_, _, _, _, _], _, rfl, RT_uu (RSv.mv hcI1 hS.trFin), ⟨[.int .i64 (if decide ((y.at_ 2).n % 2 = 1) then 1 else 0), .slice none 0 0, .bool false, .slice none 0 0, .slice none 0 0], _, rfl, RT_num (by split <;> (simp [I64])), ⟨[_, _, _, _, _], _, rfl, RT_list hnil1_3 rfl (row_rs hS (j := 3) rfl (RTs.cells hIr_3)) (RTs.mv hIr_3 hS.trFin), ⟨[_, _, _, _, _], _, rfl, RT_list hnil1_4 rfl (row_rs hS (j := 2) rfl (RTs.cells hIr_4)) (RTs.mv hIr_4 hS.trFin), rfl⟩⟩⟩⟩⟩
      refine ⟨_, rfl, RT.shut ⟨_, _, _, rfl, (show I64 0 from by unfold I64; omega), RS_nil 1, ⟨_, obj_rsS hS (i := 4) (sz := 5) (m := 5) rfl rfl (RTs.cells hRTs), hRTs⟩, ⟨csU, row_rs hS (j := 1) rfl (RUs.cells hRU).2, RUs.mv hS.trFin hRU⟩⟩⟩
end K
end Go.Proofs.YtekafeogilbjmaaGreatDoor
