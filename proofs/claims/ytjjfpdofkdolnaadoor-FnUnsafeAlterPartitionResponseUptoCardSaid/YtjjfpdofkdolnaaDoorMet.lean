import Derived.Test.YtjjfpdofkdolnaaDoorTm
import Derived.Test.YtjjfpdofkdolnaaDoorMes
set_option linter.unusedVariables false
set_option linter.unusedSimpArgs false
namespace Go.Proofs.YtjjfpdofkdolnaaDoor
namespace K
open Go Go.Lib
theorem tclo_AlterPartitionResponseTopicPartition (b3 : Nat) (c0 c1 c2 c3 : Value) (us : Tags) (hk : ∀ y ∈ us, y.1 < 4294967296) (hl : ∀ y ∈ us, y.2.length ≤ 4398046511104) (hlen : us.length ≤ 1099511627776) : ∀ j (hj : j < us.length) (u : Vw) (z : Value × List Value × Nat) (tv : Value), Iv (TInv us) j u z → RSv u tv (us[j]'hj).2 → HF [TA b3 c0 c1 c2 c3 z, TB z] u.w → (∀ q ∈ blks [TA b3 c0 c1 c2 c3 z, TB z], u.av q) → (blks [TA b3 c0 c1 c2 c3 z, TB z]).Nodup → CH Tryd.prog 169 [.int .u32 ((us[j]'hj).1 : Int), tv, .pointer (some ⟨b3, 0, none⟩)] u [TA b3 c0 c1 c2 c3 z, TB z] fun u r E' => ∃ z', E' = [TA b3 c0 c1 c2 c3 z', TB z'] ∧ Iv (TInv us) (j + 1) u z' := by
  rintro j hj u ⟨vU, cs, k⟩ tv hz htv hok hav hnd
  obtain ⟨hk0, hR⟩ := hz.get
  dsimp only at hk0 hR
  subst hk0
  have hbl := hl _ (List.getElem_mem hj)
  obtain ⟨adV, cV, rfl, hleV⟩ := htv.shape
  refine ch_enter Tryd.func169 rfl Tryd.ntmps169 rfl hok hav hnd ?_
  refine cd_draw' [0] [0, 1, 2, 3, 5, 8] [0, 1, 2, 3, 4, 5, 6, 7, 8, 9] mixed (by kernel_rfl) ?_
  refine lo_pv rfl rfl (sk_js (Tr.refl _) [0] rfl) (pv_fieldAddr (off := 4) (r := 4) Tryd.underlying27 rfl (tiSl_impl_Tag).size rfl rfl rfl) rfl ?_
  refine lo_pv rfl rfl (sk_js (Tr.refl _) [0] rfl) (pv_ldo (i := 0) rfl Tryd.underlying25 rfl rfl rfl) rfl ?_
  refine lo_pv rfl rfl (sk_js (Tr.refl _) [0] rfl) (pv_move rfl) rfl ?_
  refine lo_pv rfl rfl (sk_js (Tr.refl _) [0] rfl) (pv_move rfl) rfl ?_
  refine lo_eff rfl rfl ?_
  refine ln_nilrow 5 1 ?_
  refine ln_append (i := 0) rfl Tryd.underlying22 tiuint8 rfl (by decide) rfl rfl (RS.src htv) (by simp only [maxLen]; omega) (by omega) rfl (k' := (us[k]'hj).2.length) (xs' := u8s (us[k]'hj).2) (by omega) (by simp) (fun vc hvc => ?_)
  refine ln_free1 (fun q h => by simpa using h) (fun s1 ht1 hK1 => ?_)
  have hcp : RSv s1 vc (us[k]'hj).2 := Known.rs hK1 (u8s_one _)
  clear hK1
  have htv := htv.mv ht1
  have hR := RUs.mv ht1 hR
  refine lo_back (sk_js ht1 [0] rfl) ?_
  refine lo_pv rfl rfl (sk_js ht1 [0] rfl) (pv_struct [(0, 1), (1, 1)] (l := [_, _]) rfl Tryd.underlying58 tiimpl_Tag (by kernel_rfl) rfl (by simp [okL, Nat.ble_eq, Value.cells, hvc.2])) rfl ?_
  refine lo_eff rfl rfl ?_
  refine ln_lit (vs := [_]) Tryd.underlying25 tiimpl_Tag rfl (by decide) rfl rfl rfl rfl rfl rfl (fun b1 => ?_)
  refine lo_back (sk_js ht1 [1] rfl) ?_
  refine lo_eff rfl rfl ?_
  refine ln_append (i := 2) rfl Tryd.underlying25 tiimpl_Tag rfl (by decide) rfl rfl (src_obj (j := 0) rfl rfl (by simp [flat, Value.cells, hvc.2])) (by first | omega | (simp only [maxLen]; omega)) (by first | omega | (simp only [maxLen]; omega)) rfl (k' := (k + 1)) (xs' := cs ++ [.int .u32 ((us[k]'hj).1 : Int), vc]) rfl (by simp [flat, Value.cells]) (fun v1 hv1 => ?_)
  refine lo_back (sk_js ht1 [1] rfl) ?_
  refine lo_pv rfl rfl (sk_js ht1 [1] rfl) (pv_fieldAddr (off := 4) (r := 4) Tryd.underlying27 rfl (tiSl_impl_Tag).size rfl rfl rfl) rfl ?_
  refine lo_eff rfl rfl ?_
  refine ln_store1 (i := 1) rfl rfl rfl hv1.2 (tiSl_impl_Tag).size rfl ?_
  refine lo_last (by kernel_rfl) ?_
  refine lo_nil ?_
  refine at_retH0 [TA b3 c0 c1 c2 c3 (v1, cs ++ [.int .u32 ((us[k]'hj).1 : Int), vc], k + 1), TB (v1, cs ++ [.int .u32 ((us[k]'hj).1 : Int), vc], k + 1)] (.cons _ (.cons_cons _ (.cons_cons _ .slnil))) rfl (fun w hS => ⟨(v1, cs ++ [.int .u32 ((us[k]'hj).1 : Int), vc], k + 1), rfl, fun w2 hw2 => ⟨rfl, ?_⟩⟩)
  rw [take_snoc' hj]
  have hq := (hS.trFinH _ _).trans hw2
  exact RUs.append (RUs.mv hq hR) (RUs.one_ (hk _ (List.getElem_mem hj)) (RSv.mv hcp hq))
theorem tlT_AlterPartitionResponseTopicPartition (y : Tre) : tlT F_sAlterPartitionResponseTopicPartition y = .mk 0 [] false [.mk (IntKind.i32.wrap (y.at_ 0).n) [] false [] [], .mk (IntKind.i16.wrap (y.at_ 1).n) [] false [] [], .mk (IntKind.i32.wrap (y.at_ 2).n) [] false [] [], .mk (IntKind.i32.wrap (y.at_ 3).n) [] false [] [], .mk 0 [] (y.at_ 4).z ((els (y.at_ 4)).map (tlS 3 (-1))) [], .mk (IntKind.i8.wrap (y.at_ 5).n) [] false [] [], .mk (IntKind.i32.wrap (y.at_ 6).n) [] false [] []] y.u := rfl
set_option maxHeartbeats 2000000 in
theorem tell_AlterPartitionResponseTopicPartition (t : Vw) (b o : Nat) (y : Tre) (cells : List Value) (hrc : RC t b o cells) (hM : RMp t F_sAlterPartitionResponseTopicPartition y cells) (htg : tgT F_sAlterPartitionResponseTopicPartition y) : CA Tryd.prog 142 [.pointer (some ⟨b, o, none⟩)] t fun u r => ∃ ds, r = .agg ds.toArray ∧ RT u (tlT F_sAlterPartitionResponseTopicPartition y) ds := by
  rw [tlT_AlterPartitionResponseTopicPartition]
  obtain ⟨⟨hsrt, hkeys, hlens, hlen⟩, htl⟩ := htg
  simp only [F_sAlterPartitionResponseTopicPartition, tgL] at htl
  obtain ⟨qg0, qg1, qg2, qg3, qg4, qg5, qg6, _⟩ := htl
  obtain ⟨fc1, mv1, hce1, hfl1, hTg1⟩ := hM
  simp only [F_sAlterPartitionResponseTopicPartition, RMl] at hfl1
  obtain ⟨x1_0, z1_0, e1_0, g1_0, x1_1, z1_1, e1_1, g1_1, x1_2, z1_2, e1_2, g1_2, x1_3, z1_3, e1_3, g1_3, x1_4, z1_4, e1_4, g1_4, x1_5, z1_5, e1_5, g1_5, x1_6, z1_6, e1_6, g1_6, hend1⟩ := hfl1
  obtain rfl := RMf_i32.1 g1_0
  obtain rfl := RMf_i16.1 g1_1
  obtain rfl := RMf_i32.1 g1_2
  obtain rfl := RMf_i32.1 g1_3
  obtain ⟨_, rfl, Gg1_4⟩ := RMf_list.1 g1_4
  obtain ⟨ad1_4, cap1_4, rfl, hnil1_4, Hg1_4⟩ := Gg1_4.els
  obtain rfl := RMf_i8.1 g1_5
  obtain rfl := RMf_i32.1 g1_6
  subst hend1
  subst e1_6
  subst e1_5
  subst e1_4
  subst e1_3
  subst e1_2
  subst e1_1
  subst e1_0
  rw [hce1] at hrc
  simp only [List.cons_append, List.nil_append, List.append_assoc] at hrc
  have hLs_4 := LsF.of Hg1_4
  have hll_4 : (els (y.at_ 4)).length ≤ 32767 := (tgF_list.1 qg4).1
  obtain ⟨lt, hMK, hRK⟩ := hTg1
  have hrt : RC1 t b (o + 7) mv1 := hrc.sub 7 (c1 := [_, _, _, _, _, _, _]) (c2 := [mv1]) (c3 := []) rfl rfl
  have hrc : RCx t b o _ _ := hrc
  refine ca_enter Tryd.func142 rfl Tryd.ntmps142 rfl ?_
  refine cd_sr ?_
  refine ln_alloc tiimpl_Tree rfl rfl (fun b1 => ?_)
  refine ln_cd ?_
  refine cd_sr ?_
  refine ln_makeN (m := 7) (l := [.int .i64 0, .slice none 0 0, .bool false, .slice none 0 0, .slice none 0 0, .int .i64 0, .slice none 0 0, .bool false, .slice none 0 0, .slice none 0 0, .int .i64 0, .slice none 0 0, .bool false, .slice none 0 0, .slice none 0 0, .int .i64 0, .slice none 0 0, .bool false, .slice none 0 0, .slice none 0 0, .int .i64 0, .slice none 0 0, .bool false, .slice none 0 0, .slice none 0 0, .int .i64 0, .slice none 0 0, .bool false, .slice none 0 0, .slice none 0 0, .int .i64 0, .slice none 0 0, .bool false, .slice none 0 0, .slice none 0 0]) Tryd.underlying24 tiimpl_Tree rfl rfl (by kernel_rfl) (by decide) (by decide) rfl (fun bL => ?_)
  refine ln_pv (pv_struct [(0, 1), (1, 1), (2, 1), (3, 1), (4, 1)] (l := [_, _, _, _, _]) rfl Tryd.underlying27 tiimpl_Tree (by kernel_rfl) rfl rfl) rfl ?_
  refine ln_alloc tiimpl_Tree rfl rfl (fun b2 => ?_)
  refine ln_storeW (i := 0) rfl rfl rfl rfl (tiimpl_Tree).size rfl (by simp []) ?_
  refine ln_cd ?_
  refine cd_dr' [0, 1, 2] [0, 1, 2, 3, 4, 5, 6, 7, 8] [0, 1, 2, 3, 4, 5, 6, 7, 8, 9] mixed (by kernel_rfl) ?_
  refine lo_pv rfl rfl (sk_js (Tr.refl _) [0, 1, 2] rfl) (pv_fieldAddr (off := 3) (r := 3) Tryd.underlying27 rfl (tiSl_impl_Tree).size rfl rfl rfl) rfl ?_
  refine lo_pv rfl rfl (sk_js (Tr.refl _) [0, 1, 2] rfl) (pv_ldo (i := 0) rfl Tryd.underlying24 rfl rfl rfl) rfl ?_
  refine lo_pv rfl rfl (sk_js (Tr.refl _) [0, 1, 2] rfl) (pv_move rfl) rfl ?_
  refine lo_pv rfl rfl (sk_js (Tr.refl _) [0, 1, 2] rfl) (pv_nilCheck rfl) rfl ?_
  refine lo_pv rfl rfl (sk_js (Tr.refl _) [0, 1, 2] rfl) (pv_fieldAddr (off := 0)  Tryd.underlying169 rfl (tiint32).size rfl rfl rfl) rfl ?_
  refine lo_pv rfl rfl (sk_js (Tr.refl _) [0, 1, 2] rfl) (pv_ldr (j := 0) hrc Tryd.underlying21 rfl rfl rfl) rfl ?_
  refine lo_pv rfl rfl (sk_js (Tr.refl _) [0, 1, 2] rfl) (pv_conv' Tryd.underlying21 Tryd.underlying2 rfl (w64_i32 _)) rfl ?_
  refine lo_pv rfl rfl (sk_js (Tr.refl _) [0, 1, 2] rfl) (pv_struct [(0, 1), (1, 1), (2, 1), (3, 1), (4, 1)] (l := [_, _, _, _, _]) rfl Tryd.underlying27 tiimpl_Tree (by kernel_rfl) rfl rfl) rfl ?_
  refine lo_pv rfl rfl (sk_js (Tr.refl _) [0, 1, 2] rfl) (pv_ixN (o := 0) (i := 0) Tryd.underlying24 (tiimpl_Tree).size rfl rfl (by decide)) rfl ?_
  refine lo_eff rfl rfl ?_
  refine ln_store (i := 1) (vs := [_, _, _, _, _]) rfl rfl rfl rfl (tiimpl_Tree).size rfl rfl rfl ?_
  refine lo_last (by kernel_rfl) ?_
  refine lo_cd ?_
  refine cd_dr' [0, 1, 2] [0, 1, 2, 3, 4, 5, 6, 7, 8] [0, 1, 2, 3, 4, 5, 6, 7, 8, 9] mixed (by kernel_rfl) ?_
  refine lo_pv rfl rfl (sk_js (Tr.refl _) [0, 1, 2] rfl) (pv_fieldAddr (off := 3) (r := 3) Tryd.underlying27 rfl (tiSl_impl_Tree).size rfl rfl rfl) rfl ?_
  refine lo_pv rfl rfl (sk_js (Tr.refl _) [0, 1, 2] rfl) (pv_ldo (i := 0) rfl Tryd.underlying24 rfl rfl rfl) rfl ?_
  refine lo_pv rfl rfl (sk_js (Tr.refl _) [0, 1, 2] rfl) (pv_move rfl) rfl ?_
  refine lo_pv rfl rfl (sk_js (Tr.refl _) [0, 1, 2] rfl) (pv_nilCheck rfl) rfl ?_
  refine lo_pv rfl rfl (sk_js (Tr.refl _) [0, 1, 2] rfl) (pv_fieldAddr (off := 1)  Tryd.underlying169 rfl (tiint16).size rfl rfl rfl) rfl ?_
  refine lo_pv rfl rfl (sk_js (Tr.refl _) [0, 1, 2] rfl) (pv_ldr (j := 1) hrc Tryd.underlying45 rfl rfl rfl) rfl ?_
  refine lo_pv rfl rfl (sk_js (Tr.refl _) [0, 1, 2] rfl) (pv_conv' Tryd.underlying45 Tryd.underlying2 rfl (w64_i16 _)) rfl ?_
  refine lo_pv rfl rfl (sk_js (Tr.refl _) [0, 1, 2] rfl) (pv_struct [(0, 1), (1, 1), (2, 1), (3, 1), (4, 1)] (l := [_, _, _, _, _]) rfl Tryd.underlying27 tiimpl_Tree (by kernel_rfl) rfl rfl) rfl ?_
  refine lo_pv rfl rfl (sk_js (Tr.refl _) [0, 1, 2] rfl) (pv_ixN (o := 0) (i := 1) Tryd.underlying24 (tiimpl_Tree).size rfl rfl (by decide)) rfl ?_
  refine lo_eff rfl rfl ?_
  refine ln_store (i := 1) (vs := [_, _, _, _, _]) rfl rfl rfl rfl (tiimpl_Tree).size rfl rfl rfl ?_
  refine lo_last (by kernel_rfl) ?_
  refine lo_cd ?_
  refine cd_dr' [0, 1, 2] [0, 1, 2, 3, 4, 5, 6, 7, 8] [0, 1, 2, 3, 4, 5, 6, 7, 8, 9] mixed (by kernel_rfl) ?_
  refine lo_pv rfl rfl (sk_js (Tr.refl _) [0, 1, 2] rfl) (pv_fieldAddr (off := 3) (r := 3) Tryd.underlying27 rfl (tiSl_impl_Tree).size rfl rfl rfl) rfl ?_
  refine lo_pv rfl rfl (sk_js (Tr.refl _) [0, 1, 2] rfl) (pv_ldo (i := 0) rfl Tryd.underlying24 rfl rfl rfl) rfl ?_
  refine lo_pv rfl rfl (sk_js (Tr.refl _) [0, 1, 2] rfl) (pv_move rfl) rfl ?_
  refine lo_pv rfl rfl (sk_js (Tr.refl _) [0, 1, 2] rfl) (pv_nilCheck rfl) rfl ?_
  refine lo_pv rfl rfl (sk_js (Tr.refl _) [0, 1, 2] rfl) (pv_fieldAddr (off := 2)  Tryd.underlying169 rfl (tiint32).size rfl rfl rfl) rfl ?_
  refine lo_pv rfl rfl (sk_js (Tr.refl _) [0, 1, 2] rfl) (pv_ldr (j := 2) hrc Tryd.underlying21 rfl rfl rfl) rfl ?_
  refine lo_pv rfl rfl (sk_js (Tr.refl _) [0, 1, 2] rfl) (pv_conv' Tryd.underlying21 Tryd.underlying2 rfl (w64_i32 _)) rfl ?_
  refine lo_pv rfl rfl (sk_js (Tr.refl _) [0, 1, 2] rfl) (pv_struct [(0, 1), (1, 1), (2, 1), (3, 1), (4, 1)] (l := [_, _, _, _, _]) rfl Tryd.underlying27 tiimpl_Tree (by kernel_rfl) rfl rfl) rfl ?_
  refine lo_pv rfl rfl (sk_js (Tr.refl _) [0, 1, 2] rfl) (pv_ixN (o := 0) (i := 2) Tryd.underlying24 (tiimpl_Tree).size rfl rfl (by decide)) rfl ?_
  refine lo_eff rfl rfl ?_
  refine ln_store (i := 1) (vs := [_, _, _, _, _]) rfl rfl rfl rfl (tiimpl_Tree).size rfl rfl rfl ?_
  refine lo_last (by kernel_rfl) ?_
  refine lo_cd ?_
  refine cd_dr' [0, 1, 2] [0, 1, 2, 3, 4, 5, 6, 7, 8] [0, 1, 2, 3, 4, 5, 6, 7, 8, 9] mixed (by kernel_rfl) ?_
  refine lo_pv rfl rfl (sk_js (Tr.refl _) [0, 1, 2] rfl) (pv_fieldAddr (off := 3) (r := 3) Tryd.underlying27 rfl (tiSl_impl_Tree).size rfl rfl rfl) rfl ?_
  refine lo_pv rfl rfl (sk_js (Tr.refl _) [0, 1, 2] rfl) (pv_ldo (i := 0) rfl Tryd.underlying24 rfl rfl rfl) rfl ?_
  refine lo_pv rfl rfl (sk_js (Tr.refl _) [0, 1, 2] rfl) (pv_move rfl) rfl ?_
  refine lo_pv rfl rfl (sk_js (Tr.refl _) [0, 1, 2] rfl) (pv_nilCheck rfl) rfl ?_
  refine lo_pv rfl rfl (sk_js (Tr.refl _) [0, 1, 2] rfl) (pv_fieldAddr (off := 3)  Tryd.underlying169 rfl (tiint32).size rfl rfl rfl) rfl ?_
  refine lo_pv rfl rfl (sk_js (Tr.refl _) [0, 1, 2] rfl) (pv_ldr (j := 3) hrc Tryd.underlying21 rfl rfl rfl) rfl ?_
  refine lo_pv rfl rfl (sk_js (Tr.refl _) [0, 1, 2] rfl) (pv_conv' Tryd.underlying21 Tryd.underlying2 rfl (w64_i32 _)) rfl ?_
  refine lo_pv rfl rfl (sk_js (Tr.refl _) [0, 1, 2] rfl) (pv_struct [(0, 1), (1, 1), (2, 1), (3, 1), (4, 1)] (l := [_, _, _, _, _]) rfl Tryd.underlying27 tiimpl_Tree (by kernel_rfl) rfl rfl) rfl ?_
  refine lo_pv rfl rfl (sk_js (Tr.refl _) [0, 1, 2] rfl) (pv_ixN (o := 0) (i := 3) Tryd.underlying24 (tiimpl_Tree).size rfl rfl (by decide)) rfl ?_
  refine lo_eff rfl rfl ?_
  refine ln_store (i := 1) (vs := [_, _, _, _, _]) rfl rfl rfl rfl (tiimpl_Tree).size rfl rfl rfl ?_
  refine lo_last (by kernel_rfl) ?_
  refine lo_cd ?_
  refine cd_dr' [0, 1, 2] [0, 1, 2, 3, 4, 5, 6, 8] [0, 1, 2, 3, 4, 5, 6, 7, 8, 9] mixed (by kernel_rfl) ?_
  refine lo_pv rfl rfl (sk_js (Tr.refl _) [0, 1, 2] rfl) (pv_fieldAddr (off := 3) (r := 3) Tryd.underlying27 rfl (tiSl_impl_Tree).size rfl rfl rfl) rfl ?_
  refine lo_pv rfl rfl (sk_js (Tr.refl _) [0, 1, 2] rfl) (pv_ldo (i := 0) rfl Tryd.underlying24 rfl rfl rfl) rfl ?_
  refine lo_pv rfl rfl (sk_js (Tr.refl _) [0, 1, 2] rfl) (pv_move rfl) rfl ?_
  refine lo_pv rfl rfl (sk_js (Tr.refl _) [0, 1, 2] rfl) (pv_nilCheck rfl) rfl ?_
  refine lo_pv rfl rfl (sk_js (Tr.refl _) [0, 1, 2] rfl) (pv_fieldAddr (off := 4)  Tryd.underlying169 rfl (tiSl_int32).size rfl rfl rfl) rfl ?_
  refine lo_pv rfl rfl (sk_js (Tr.refl _) [0, 1, 2] rfl) (pv_ldr (j := 4) hrc Tryd.underlying102 rfl rfl rfl) rfl ?_
  refine lo_pv rfl rfl (sk_js (Tr.refl _) [0, 1, 2] rfl) (pv_eqS Tryd.underlying102 rfl rfl) rfl ?_
  refine lo_eff rfl rfl ?_
  refine ln_pv (pv_ixN (o := 0) (i := 4) Tryd.underlying24 (tiimpl_Tree).size rfl rfl (by decide)) rfl ?_
  refine lo_back (sk_js (Tr.refl _) [0, 1, 2] rfl) ?_
  refine lo_pv rfl rfl (sk_js (Tr.refl _) [0, 1, 2] rfl) (pv_fieldAddr (off := 2) (r := 22) Tryd.underlying27 rfl (tibool).size rfl rfl rfl) rfl ?_
  refine lo_eff rfl rfl ?_
  refine ln_store1 (i := 1) rfl rfl rfl rfl (tibool).size rfl ?_
  refine lo_last (by kernel_rfl) ?_
  refine lo_cd ?_
  refine cd_seq ?_
  refine cd_nilrow 27 5 ?_
  refine cd_sr ?_
  refine ln_pv (pv_move rfl) rfl ?_
  refine ln_pv (pv_nilCheck rfl) rfl ?_
  refine ln_pv (pv_fieldAddr (off := 4)  Tryd.underlying169 rfl (tiSl_int32).size rfl rfl rfl) rfl ?_
  refine ln_pv (pv_ldr (j := 4) hrc Tryd.underlying102 rfl rfl rfl) rfl ?_
  refine ln_pv (pv_len_slice Tryd.underlying102 rfl) rfl ?_
  refine ln_pv (pv_move rfl) rfl ?_
  refine ln_cd ?_
  refine cd_block ?_
  refine cd_loop (⟨fun (z : Nat × List Value × Value) => [(0, .pointer (some ⟨b, o, none⟩)), (2, .pointer (some ⟨b1, 0, none⟩)), (3, .pointer (some ⟨b2, 0, none⟩)), (56, .int .i64 ((els (y.at_ 4)).length : Int)), (57, .int .i64 ((z.1 : Nat) : Int))], fun (z : Nat × List Value × Value) => [.row z.2.2 27 5 ((els (y.at_ 4)).take z.1).length z.2.1, .obj b2 (.cells [.int .i64 0, .slice none 0 0, .bool false, .slice (some ⟨bL, 0, none⟩) 7 7, .slice none 0 0].toArray 27), .obj bL (.cells [.int .i64 (IntKind.i32.wrap (y.at_ 0).n), .slice none 0 0, .bool false, .slice none 0 0, .slice none 0 0, .int .i64 (IntKind.i16.wrap (y.at_ 1).n), .slice none 0 0, .bool false, .slice none 0 0, .slice none 0 0, .int .i64 (IntKind.i32.wrap (y.at_ 2).n), .slice none 0 0, .bool false, .slice none 0 0, .slice none 0 0, .int .i64 (IntKind.i32.wrap (y.at_ 3).n), .slice none 0 0, .bool false, .slice none 0 0, .slice none 0 0, .int .i64 0, .slice none 0 0, .bool ad1_4.isNone, z.2.2, .slice none 0 0, .int .i64 0, .slice none 0 0, .bool false, .slice none 0 0, .slice none 0 0, .int .i64 0, .slice none 0 0, .bool false, .slice none 0 0, .slice none 0 0].toArray 27), .obj b1 (.cells [.int .i64 0, .slice none 0 0, .bool false, .slice none 0 0, .slice none 0 0].toArray 27)], fun (z : Nat × List Value × Value) s => z.1 ≤ (els (y.at_ 4)).length ∧ RTs s (((els (y.at_ 4)).take z.1).map (tlS 3 (-1))) z.2.1, fun (z : Nat × List Value × Value) => (els (y.at_ 4)).length - z.1⟩ : Lp (Nat × List Value × Value)) (0, [], .slice none 0 0) ?_ ?_ ?_ ?_
  · intro s0 hs0
    exact ⟨Nat.zero_le _, rfl⟩
  · exact ⟨rfl, rfl, rfl, rfl, rfl,  trivial⟩
  · exact (.cons_cons _ (.cons_cons _ (.cons_cons _ (.cons_cons _ .slnil))))
  intro z s1 hl1 hI
  obtain ⟨i_4, ys_4, vv_4⟩ := z
  dsimp only at hI ⊢
  have hrc := hrc.mv hl1
  have hrt := hrt.mv hl1
  have hMK := hMK.mv hl1
  have hRK := hRK.mv hl1
  have hLs_4 := hLs_4.mv hl1
  obtain ⟨hI_4, hIr_4⟩ := hI
  refine cd_sr ?_
  refine ln_pv (pv_lss rfl rfl) rfl ?_
  refine ln_cd ?_
  refine cd_seq ?_
  refine cd_if rfl (fun hc1 => ?_) (fun hc1 => ?_)
  · -- yes
    refine cd_skip ?_
    refine at_cd ?_
    refine cd_seq ?_
    refine cd_block ?_
    have hi_4 : i_4 < (els (y.at_ 4)).length := by omega
    have hsl_4 : ((els (y.at_ 4)).take (i_4 + 1)).length = ((els (y.at_ 4)).take i_4).length + 1 := by simp only [List.length_take]; omega
    have hil_4 : ((els (y.at_ 4)).take i_4).length = i_4 := by rw [List.length_take]; omega
    obtain ⟨gE_4, oE_4, cE_4, hadE_4, hrce_4, hme_4⟩ := hLs_4.at_ hi_4 (show esl _ _ = 1 by kernel_rfl)
    subst hadE_4
    obtain rfl := RE_i32 hme_4
    refine cd_sr ?_
    refine ln_pv (pv_move rfl) rfl ?_
    refine ln_pv (pv_assign rfl) rfl ?_
    refine ln_cd ?_
    refine cd_dr3 [1, 2, 3] [] [0] 1 2 [2, 3] [1, 3] mixed (by kernel_rfl) ?_
    refine lo_eff rfl rfl ?_
    refine ln_alloc tibool rfl rfl (fun b3 => ?_)
    refine lo_last (by kernel_rfl) ?_
    refine lo_nil (at_two ?_ ?_)
    · skip
      refine lo_eff rfl rfl ?_
      refine ln_store1 (i := 0) rfl rfl rfl rfl (tibool).size rfl ?_
      refine lo_last (by kernel_rfl) ?_
      refine lo_eff rfl rfl ?_
      refine ln_store1 (i := 0) rfl rfl rfl rfl (tibool).size rfl ?_
      refine lo_last (by kernel_rfl) ?_
      refine lo_eff rfl rfl ?_
      refine ln_pv (pv_ldo (i := 0) rfl Tryd.underlying4 rfl rfl rfl) rfl ?_
      refine lo_last (by kernel_rfl) ?_
      refine lo_cd ?_
      refine cd_ff rfl ?_
      refine cd_draw' [0, 2, 3, 4] [0, 1, 2, 3, 4, 5, 6, 7, 8, 9, 10, 11, 12, 13, 14, 15, 19] [0, 1, 2, 3, 4, 5, 6, 7, 8, 9, 10, 11, 12, 13, 14, 15, 16, 17, 18, 19, 20] mixed (by kernel_rfl) ?_
      refine lo_pv rfl rfl (sk_js (Tr.refl _) [0, 2, 3, 4] rfl) (pv_fieldAddr (off := 3) (r := 3) Tryd.underlying27 rfl (tiSl_impl_Tree).size rfl rfl rfl) rfl ?_
      refine lo_pv rfl rfl (sk_js (Tr.refl _) [0, 2, 3, 4] rfl) (pv_ldo (i := 1) rfl Tryd.underlying24 rfl rfl rfl) rfl ?_
      refine lo_pv rfl rfl (sk_js (Tr.refl _) [0, 2, 3, 4] rfl) (pv_fieldAddr (off := 3) (r := 3) Tryd.underlying27 rfl (tiSl_impl_Tree).size rfl rfl rfl) rfl ?_
      refine lo_pv rfl rfl (sk_js (Tr.refl _) [0, 2, 3, 4] rfl) (pv_ldo (i := 1) rfl Tryd.underlying24 rfl rfl rfl) rfl ?_
      refine lo_pv rfl rfl (sk_js (Tr.refl _) [0, 2, 3, 4] rfl) (pv_ixN (o := 0) (i := 4) Tryd.underlying24 (tiimpl_Tree).size rfl rfl (by decide)) rfl ?_
      refine lo_pv rfl rfl (sk_js (Tr.refl _) [0, 2, 3, 4] rfl) (pv_fieldAddr (off := 3) (r := 23) Tryd.underlying27 rfl (tiSl_impl_Tree).size rfl rfl rfl) rfl ?_
      refine lo_pv rfl rfl (sk_js (Tr.refl _) [0, 2, 3, 4] rfl) (pv_ldo (i := 2) rfl Tryd.underlying24 rfl rfl rfl) rfl ?_
      refine lo_pv rfl rfl (sk_js (Tr.refl _) [0, 2, 3, 4] rfl) (pv_move rfl) rfl ?_
      refine lo_pv rfl rfl (sk_js (Tr.refl _) [0, 2, 3, 4] rfl) (pv_nilCheck rfl) rfl ?_
      refine lo_pv rfl rfl (sk_js (Tr.refl _) [0, 2, 3, 4] rfl) (pv_fieldAddr (off := 4)  Tryd.underlying169 rfl (tiSl_int32).size rfl rfl rfl) rfl ?_
      refine lo_pv rfl rfl (sk_js (Tr.refl _) [0, 2, 3, 4] rfl) (pv_ldr (j := 4) hrc Tryd.underlying102 rfl rfl rfl) rfl ?_
      refine lo_pv rfl rfl (sk_js (Tr.refl _) [0, 2, 3, 4] rfl) (pv_move rfl) rfl ?_
      refine lo_pv rfl rfl (sk_js (Tr.refl _) [0, 2, 3, 4] rfl) (pv_ixN Tryd.underlying102 (tiint32).size rfl rfl hi_4) rfl ?_
      refine lo_pv rfl rfl (sk_js (Tr.refl _) [0, 2, 3, 4] rfl) (pv_ldr (j := 0) (hrce_4).2 Tryd.underlying21 rfl rfl rfl) rfl ?_
      refine lo_pv rfl rfl (sk_js (Tr.refl _) [0, 2, 3, 4] rfl) (pv_conv' Tryd.underlying21 Tryd.underlying2 rfl (w64_i32 _)) rfl ?_
      refine lo_pv rfl rfl (sk_js (Tr.refl _) [0, 2, 3, 4] rfl) (pv_struct [(0, 1), (1, 1), (2, 1), (3, 1), (4, 1)] (l := [_, _, _, _, _]) rfl Tryd.underlying27 tiimpl_Tree (by kernel_rfl) rfl rfl) rfl ?_
      refine lo_eff rfl rfl ?_
      refine ln_lit (vs := [_]) Tryd.underlying24 tiimpl_Tree rfl (by decide) rfl rfl rfl rfl rfl rfl (fun b4 => ?_)
      refine lo_back (sk_js (Tr.refl _) [1, 3, 4, 5] rfl) ?_
      refine lo_eff rfl rfl ?_
      refine ln_append (i := 2) rfl Tryd.underlying24 tiimpl_Tree rfl (by decide) rfl rfl (src_obj (j := 0) rfl rfl rfl) (by rw [hil_4]; first | omega | (simp only [maxLen]; omega)) (by rw [hil_4]; first | omega | (simp only [maxLen]; omega)) rfl (k' := ((els (y.at_ 4)).take (i_4 + 1)).length) (xs' := ys_4 ++ [.int .i64 (IntKind.i32.wrap ((els (y.at_ 4))[i_4]).n), .slice none 0 0, .bool false, .slice none 0 0, .slice none 0 0]) hsl_4.symm (by simp [flat, Value.cells]) (fun v1 hv1 => ?_)
      refine lo_back (sk_js (Tr.refl _) [1, 3, 4, 5] rfl) ?_
      refine lo_eff rfl rfl ?_
      refine ln_pv (pv_ixN (o := 0) (i := 4) Tryd.underlying24 (tiimpl_Tree).size rfl rfl (by decide)) rfl ?_
      refine lo_back (sk_js (Tr.refl _) [1, 3, 4, 5] rfl) ?_
      refine lo_pv rfl rfl (sk_js (Tr.refl _) [1, 3, 4, 5] rfl) (pv_fieldAddr (off := 3) (r := 23) Tryd.underlying27 rfl (tiSl_impl_Tree).size rfl rfl rfl) rfl ?_
      refine lo_eff rfl rfl ?_
      refine ln_store1 (i := 4) rfl rfl rfl hv1.2 (tiSl_impl_Tree).size rfl ?_
      refine lo_last (by kernel_rfl) ?_
      refine lo_nil ?_
      refine at_cd ?_
      refine cd_region ?_
      refine ln_pv (pv_add' rfl rfl (wrap_succ (by omega))) rfl ?_
      refine ln_pv (pv_move rfl) rfl ?_
      refine ln_nil ?_
      refine at_rnd (i_4 + 1, ys_4 ++ [.int .i64 (IntKind.i32.wrap ((els (y.at_ 4))[i_4]).n), .slice none 0 0, .bool false, .slice none 0 0, .slice none 0 0], v1) hl1 ?_ ?_ ⟨rfl, rfl, rfl, rfl, rfl,  trivial⟩ (.cons _ (.cons _ (.cons_cons _ (.cons_cons _ (.cons_cons _ (.cons_cons _ .slnil))))))
      · intro s9 hs9
        exact ⟨by dsimp only; omega, RTs_snoc hi_4 (RTs.mv hIr_4 hs9) RT_e3⟩
      · dsimp only; omega
    · skip
      refine lo_eff rfl rfl ?_
      refine ln_store1 (i := 0) rfl rfl rfl rfl (tibool).size rfl ?_
      refine lo_last (by kernel_rfl) ?_
      refine lo_eff rfl rfl ?_
      refine ln_store1 (i := 0) rfl rfl rfl rfl (tibool).size rfl ?_
      refine lo_last (by kernel_rfl) ?_
      refine lo_eff rfl rfl ?_
      refine ln_pv (pv_ldo (i := 0) rfl Tryd.underlying4 rfl rfl rfl) rfl ?_
      refine lo_last (by kernel_rfl) ?_
      refine lo_cd ?_
      refine cd_tt rfl ?_
      refine cd_rowshape (i := 1) rfl (fun adR_4 cpR_4 hvR_4 hleR_4 hposR_4 => ?_)
      subst hvR_4
      refine cd_dr' [0, 2, 3, 4] [0, 1, 2, 3, 4, 5, 6, 7, 8, 9, 10, 11, 12, 13, 14, 18] [0, 1, 2, 3, 4, 5, 6, 7, 8, 9, 10, 11, 12, 13, 14, 15, 16, 17, 18, 19] mixed (by kernel_rfl) ?_
      refine lo_pv rfl rfl (sk_js (Tr.refl _) [0, 2, 3, 4] rfl) (pv_fieldAddr (off := 3) (r := 3) Tryd.underlying27 rfl (tiSl_impl_Tree).size rfl rfl rfl) rfl ?_
      refine lo_pv rfl rfl (sk_js (Tr.refl _) [0, 2, 3, 4] rfl) (pv_ldo (i := 1) rfl Tryd.underlying24 rfl rfl rfl) rfl ?_
      refine lo_pv rfl rfl (sk_js (Tr.refl _) [0, 2, 3, 4] rfl) (pv_ixN (o := 0) (i := 4) Tryd.underlying24 (tiimpl_Tree).size rfl rfl (by decide)) rfl ?_
      refine lo_pv rfl rfl (sk_js (Tr.refl _) [0, 2, 3, 4] rfl) (pv_fieldAddr (off := 3) (r := 23) Tryd.underlying27 rfl (tiSl_impl_Tree).size rfl rfl rfl) rfl ?_
      refine lo_pv rfl rfl (sk_js (Tr.refl _) [0, 2, 3, 4] rfl) (pv_ldo (i := 2) rfl Tryd.underlying24 rfl rfl rfl) rfl ?_
      refine lo_pv rfl rfl (sk_js (Tr.refl _) [0, 2, 3, 4] rfl) (pv_move rfl) rfl ?_
      refine lo_pv rfl rfl (sk_js (Tr.refl _) [0, 2, 3, 4] rfl) (pv_nilCheck rfl) rfl ?_
      refine lo_pv rfl rfl (sk_js (Tr.refl _) [0, 2, 3, 4] rfl) (pv_fieldAddr (off := 4)  Tryd.underlying169 rfl (tiSl_int32).size rfl rfl rfl) rfl ?_
      refine lo_pv rfl rfl (sk_js (Tr.refl _) [0, 2, 3, 4] rfl) (pv_ldr (j := 4) hrc Tryd.underlying102 rfl rfl rfl) rfl ?_
      refine lo_pv rfl rfl (sk_js (Tr.refl _) [0, 2, 3, 4] rfl) (pv_move rfl) rfl ?_
      refine lo_pv rfl rfl (sk_js (Tr.refl _) [0, 2, 3, 4] rfl) (pv_ixN Tryd.underlying102 (tiint32).size rfl rfl hi_4) rfl ?_
      refine lo_pv rfl rfl (sk_js (Tr.refl _) [0, 2, 3, 4] rfl) (pv_ldr (j := 0) (hrce_4).2 Tryd.underlying21 rfl rfl rfl) rfl ?_
      refine lo_pv rfl rfl (sk_js (Tr.refl _) [0, 2, 3, 4] rfl) (pv_conv' Tryd.underlying21 Tryd.underlying2 rfl (w64_i32 _)) rfl ?_
      refine lo_pv rfl rfl (sk_js (Tr.refl _) [0, 2, 3, 4] rfl) (pv_struct [(0, 1), (1, 1), (2, 1), (3, 1), (4, 1)] (l := [_, _, _, _, _]) rfl Tryd.underlying27 tiimpl_Tree (by kernel_rfl) rfl rfl) rfl ?_
      refine lo_pv rfl rfl (sk_js (Tr.refl _) [0, 2, 3, 4] rfl) (pv_len_slice Tryd.underlying24 rfl) rfl ?_
      refine lo_eff rfl rfl ?_
      refine ln_lit (vs := [_]) Tryd.underlying24 tiimpl_Tree rfl (by decide) rfl rfl rfl rfl rfl rfl (fun b5 => ?_)
      refine lo_back (sk_js (Tr.refl _) [1, 3, 4, 5] rfl) ?_
      refine lo_eff rfl rfl ?_
      refine ln_append (i := 2) rfl Tryd.underlying24 tiimpl_Tree rfl (by decide) rfl rfl (src_obj (j := 0) rfl rfl rfl) (by rw [hil_4]; first | omega | (simp only [maxLen]; omega)) (by rw [hil_4]; first | omega | (simp only [maxLen]; omega)) rfl (k' := ((els (y.at_ 4)).take (i_4 + 1)).length) (xs' := ys_4 ++ [.int .i64 0, .slice none 0 0, .bool false, .slice none 0 0, .slice none 0 0]) hsl_4.symm (by simp [flat, Value.cells]) (fun v2 hv2 => ?_)
      refine lo_back (sk_js (Tr.refl _) [1, 3, 4, 5] rfl) ?_
      refine lo_eff rfl rfl ?_
      refine ln_pv (pv_ixN (o := 0) (i := 4) Tryd.underlying24 (tiimpl_Tree).size rfl rfl (by decide)) rfl ?_
      refine lo_back (sk_js (Tr.refl _) [1, 3, 4, 5] rfl) ?_
      refine lo_pv rfl rfl (sk_js (Tr.refl _) [1, 3, 4, 5] rfl) (pv_fieldAddr (off := 3) (r := 23) Tryd.underlying27 rfl (tiSl_impl_Tree).size rfl rfl rfl) rfl ?_
      refine lo_eff rfl rfl ?_
      refine ln_store1 (i := 4) rfl rfl rfl hv2.2 (tiSl_impl_Tree).size rfl ?_
      refine lo_last (by kernel_rfl) ?_
      refine lo_cd ?_
      refine cd_region ?_
      refine ln_rowshp (i := 2) rfl (fun ad2_4 cp2_4 hv2_4 hle2_4 hpos2_4 => ?_)
      subst hv2_4
      obtain ⟨g2_4, rfl⟩ := hpos2_4 (by omega)
      refine ln_pv (pv_ixN Tryd.underlying24 tiimpl_Tree.size rfl rfl (by omega)) rfl ?_
      refine ln_storeR (i := 2) (vs := [.int .i64 (IntKind.i32.wrap ((els (y.at_ 4))[i_4]).n), .slice none 0 0, .bool false, .slice none 0 0, .slice none 0 0]) (xs' := ys_4 ++ [.int .i64 (IntKind.i32.wrap ((els (y.at_ 4))[i_4]).n), .slice none 0 0, .bool false, .slice none 0 0, .slice none 0 0]) rfl rfl rfl rfl tiimpl_Tree.size (by simp only [List.length_cons, List.length_nil]; omega) (by simp) (wr_end (xs := ys_4) (z := [.int .i64 0, .slice none 0 0, .bool false, .slice none 0 0, .slice none 0 0]) (o := 0 + ((els (y.at_ 4)).take i_4).length * 5) (vs := [.int .i64 (IntKind.i32.wrap ((els (y.at_ 4))[i_4]).n), .slice none 0 0, .bool false, .slice none 0 0, .slice none 0 0]) rfl (by have h6 := (RTs.len5 hIr_4); simp only [List.length_map] at h6; omega)) ?_
      refine ln_nil ?_
      refine at_cd ?_
      refine cd_region ?_
      refine ln_pv (pv_add' rfl rfl (wrap_succ (by omega))) rfl ?_
      refine ln_pv (pv_move rfl) rfl ?_
      refine ln_nil ?_
      refine at_rnd (i_4 + 1, ys_4 ++ [.int .i64 (IntKind.i32.wrap ((els (y.at_ 4))[i_4]).n), .slice none 0 0, .bool false, .slice none 0 0, .slice none 0 0], (.slice (some ⟨g2_4, 0, none⟩) ((els (y.at_ 4)).take (i_4 + 1)).length cp2_4)) hl1 ?_ ?_ ⟨rfl, rfl, rfl, rfl, rfl,  trivial⟩ (.cons _ (.cons _ (.cons_cons _ (.cons_cons _ (.cons_cons _ (.cons_cons _ .slnil))))))
      · intro s9 hs9
        exact ⟨by dsimp only; omega, RTs_snoc hi_4 (RTs.mv hIr_4 hs9) RT_e3⟩
      · dsimp only; omega
  · -- no
    refine cd_exit rfl ?_
    refine at_cd ?_
    have hq_4 : i_4 = (els (y.at_ 4)).length := by omega
    subst hq_4
    rw [List.take_length] at hIr_4
    refine cd_row (i := 0) (m' := ((els (y.at_ 4)).map (tlS 3 (-1))).length) (xs' := ys_4) rfl (by simp) rfl ?_
    refine cd_dr' [1, 2, 3] [0, 1, 2, 3, 4, 5, 6, 7, 8] [0, 1, 2, 3, 4, 5, 6, 7, 8, 9] mixed (by kernel_rfl) ?_
    refine lo_pv rfl rfl (sk_js (Tr.refl _) [1, 2, 3] rfl) (pv_fieldAddr (off := 3) (r := 3) Tryd.underlying27 rfl (tiSl_impl_Tree).size rfl rfl rfl) rfl ?_
    refine lo_pv rfl rfl (sk_js (Tr.refl _) [1, 2, 3] rfl) (pv_ldo (i := 0) rfl Tryd.underlying24 rfl rfl rfl) rfl ?_
    refine lo_pv rfl rfl (sk_js (Tr.refl _) [1, 2, 3] rfl) (pv_move rfl) rfl ?_
    refine lo_pv rfl rfl (sk_js (Tr.refl _) [1, 2, 3] rfl) (pv_nilCheck rfl) rfl ?_
    refine lo_pv rfl rfl (sk_js (Tr.refl _) [1, 2, 3] rfl) (pv_fieldAddr (off := 5)  Tryd.underlying169 rfl (tiint8).size rfl rfl rfl) rfl ?_
    refine lo_pv rfl rfl (sk_js (Tr.refl _) [1, 2, 3] rfl) (pv_ldr (j := 5) hrc Tryd.underlying74 rfl rfl rfl) rfl ?_
    refine lo_pv rfl rfl (sk_js (Tr.refl _) [1, 2, 3] rfl) (pv_conv' Tryd.underlying74 Tryd.underlying2 rfl (w64_i8 _)) rfl ?_
    refine lo_pv rfl rfl (sk_js (Tr.refl _) [1, 2, 3] rfl) (pv_struct [(0, 1), (1, 1), (2, 1), (3, 1), (4, 1)] (l := [_, _, _, _, _]) rfl Tryd.underlying27 tiimpl_Tree (by kernel_rfl) rfl rfl) rfl ?_
    refine lo_pv rfl rfl (sk_js (Tr.refl _) [1, 2, 3] rfl) (pv_ixN (o := 0) (i := 5) Tryd.underlying24 (tiimpl_Tree).size rfl rfl (by decide)) rfl ?_
    refine lo_eff rfl rfl ?_
    refine ln_store (i := 2) (vs := [_, _, _, _, _]) rfl rfl rfl rfl (tiimpl_Tree).size rfl rfl rfl ?_
    refine lo_last (by kernel_rfl) ?_
    refine lo_cd ?_
    refine cd_dr' [1, 2, 3] [0, 1, 2, 3, 4, 5, 6, 7, 8] [0, 1, 2, 3, 4, 5, 6, 7, 8, 9] mixed (by kernel_rfl) ?_
    refine lo_pv rfl rfl (sk_js (Tr.refl _) [1, 2, 3] rfl) (pv_fieldAddr (off := 3) (r := 3) Tryd.underlying27 rfl (tiSl_impl_Tree).size rfl rfl rfl) rfl ?_
    refine lo_pv rfl rfl (sk_js (Tr.refl _) [1, 2, 3] rfl) (pv_ldo (i := 0) rfl Tryd.underlying24 rfl rfl rfl) rfl ?_
    refine lo_pv rfl rfl (sk_js (Tr.refl _) [1, 2, 3] rfl) (pv_move rfl) rfl ?_
    refine lo_pv rfl rfl (sk_js (Tr.refl _) [1, 2, 3] rfl) (pv_nilCheck rfl) rfl ?_
    refine lo_pv rfl rfl (sk_js (Tr.refl _) [1, 2, 3] rfl) (pv_fieldAddr (off := 6)  Tryd.underlying169 rfl (tiint32).size rfl rfl rfl) rfl ?_
    refine lo_pv rfl rfl (sk_js (Tr.refl _) [1, 2, 3] rfl) (pv_ldr (j := 6) hrc Tryd.underlying21 rfl rfl rfl) rfl ?_
    refine lo_pv rfl rfl (sk_js (Tr.refl _) [1, 2, 3] rfl) (pv_conv' Tryd.underlying21 Tryd.underlying2 rfl (w64_i32 _)) rfl ?_
    refine lo_pv rfl rfl (sk_js (Tr.refl _) [1, 2, 3] rfl) (pv_struct [(0, 1), (1, 1), (2, 1), (3, 1), (4, 1)] (l := [_, _, _, _, _]) rfl Tryd.underlying27 tiimpl_Tree (by kernel_rfl) rfl rfl) rfl ?_
    refine lo_pv rfl rfl (sk_js (Tr.refl _) [1, 2, 3] rfl) (pv_ixN (o := 0) (i := 6) Tryd.underlying24 (tiimpl_Tree).size rfl rfl (by decide)) rfl ?_
    refine lo_eff rfl rfl ?_
    refine ln_store (i := 2) (vs := [_, _, _, _, _]) rfl rfl rfl rfl (tiimpl_Tree).size rfl rfl rfl ?_
    refine lo_last (by kernel_rfl) ?_
    refine lo_cd ?_
    refine cd_sr ?_
    refine ln_pv (pv_move rfl) rfl ?_
    refine ln_pv (pv_nilCheck rfl) rfl ?_
    refine ln_pv (pv_fieldAddr (off := 7)  Tryd.underlying169 rfl (tipub_kmsg_Tags).size rfl rfl rfl) rfl ?_
    refine ln_pv (pv_makeFunc (vf := #[]) (vc := #[.pointer (some ⟨b2, 0, none⟩)]) (by rw [List.map_toArray, List.map_toArray]; rfl) (by rw [List.map_toArray, List.map_toArray]; rfl)) rfl ?_
    refine ln_nilrow 58 2 ?_
    have hst := tclo_AlterPartitionResponseTopicPartition b2 (.int .i64 0) (.slice none 0 0) (.bool false) (.slice (some ⟨bL, 0, none⟩) 7 7) y.u hkeys hlens (Nat.le_of_lt hlen)
    have hEa := fun (u : Vw) hr hm hk h0 hok hav hnd => tags_EachG (fun z => TA b2 (.int .i64 0) (.slice none 0 0) (.bool false) (.slice (some ⟨bL, 0, none⟩) 7 7) z) TB (TInv y.u) 169 (.pointer (some ⟨b2, 0, none⟩)) en_169 u b (o + 7) mv1 lt y.u (.slice none 0 0, [], 0) hr hm hk hsrt (by omega) h0 hst hok hav hnd
    refine ln_callH (E := [TA b2 (.int .i64 0) (.slice none 0 0) (.bool false) (.slice (some ⟨bL, 0, none⟩) 7 7) (.slice none 0 0, [], 0), TB (.slice none 0 0, [], 0)]) (H0 := [_, _, _]) (List.perm_middle (l₁ := [_, _])) en_82 rfl (fun u hu hok hav hnd => hEa u (RC1.mv hrt hu) (hMK.mv hu) (RKp.mv hu hRK) (fun w hw => ⟨rfl, by rw [List.take_zero]; rfl⟩) hok hav hnd) rfl ?_
    rintro u4 v4 _ ht4 ⟨xu4, ⟨⟨vU, csU, kU⟩, rfl, hzU⟩, hxu4⟩
    obtain ⟨hkU, hRU⟩ := (hzU.mv hxu4).get
    dsimp only at hkU hRU
    subst hkU
    rw [List.take_length] at hRU
    have hrc := hrc.mv ht4
    have hrt := hrt.mv ht4
    have hMK := hMK.mv ht4
    have hRK := hRK.mv ht4
    have hLs_4 := hLs_4.mv ht4
    have hIr_4 := hIr_4.mv ht4
    refine ln_cd ?_
    refine cd_sr ?_
    refine ln_pv (pv_fieldAddr (off := 4) (r := 4) Tryd.underlying27 rfl (tiSl_impl_Tag).size rfl rfl rfl) rfl ?_
    refine ln_pv (pv_ldo (i := 0) rfl Tryd.underlying25 rfl rfl rfl) rfl ?_
    refine ln_callT (i := 1) en_84 rfl rfl (fun u hu hok hav => impl_sorted u vU y.u csU hsrt (by omega) (RUs.cells hRU).1 (fun i hi => by obtain ⟨c1, tv, c3, he, hc, _, _⟩ := RUs.at_ hi hRU; rw [he, List.append_assoc, List.getElem?_append_right (by omega), hc]; simp) hok hav) rfl ?_
    rintro u5 v5 _ ht5 ⟨_, rfl, _⟩
    have hrc := hrc.mv ht5
    have hrt := hrt.mv ht5
    have hMK := hMK.mv ht5
    have hRK := hRK.mv ht5
    have hLs_4 := hLs_4.mv ht5
    have hIr_4 := hIr_4.mv ht5
    have hRU := hRU.mv ht5
    refine ln_cd ?_
    refine cd_rowone (i := 1) rfl (fun hoU => ?_)
    refine cd_sr ?_
    refine ln_pv (pv_ldO (i := 0) rfl Tryd.underlying27 rfl (tiimpl_Tree).size rfl rfl) rfl ?_
    refine ln_storeW (i := 4) rfl rfl rfl rfl (tiimpl_Tree).size rfl (by simp [hoU]) ?_
    refine ln_cd ?_
    refine cd_ret ?_
    refine at_retC (i := 4) rfl rfl rfl Tryd.underlying27 rfl tiimpl_Tree.size rfl (fun w hS => ?_)
    have hRTs : RTs hS.fin [.mk (IntKind.i32.wrap (y.at_ 0).n) [] false [] [], .mk (IntKind.i16.wrap (y.at_ 1).n) [] false [] [], .mk (IntKind.i32.wrap (y.at_ 2).n) [] false [] [], .mk (IntKind.i32.wrap (y.at_ 3).n) [] false [] [], .mk 0 [] (y.at_ 4).z ((els (y.at_ 4)).map (tlS 3 (-1))) [], .mk (IntKind.i8.wrap (y.at_ 5).n) [] false [] [], .mk (IntKind.i32.wrap (y.at_ 6).n) [] false [] []] _ := ⟨[.int .i64 (IntKind.i32.wrap (y.at_ 0).n), .slice none 0 0, .bool false, .slice none 0 0, .slice none 0 0], _, rfl, RT_num (I64_i32 _), ⟨[.int .i64 (IntKind.i16.wrap (y.at_ 1).n), .slice none 0 0, .bool false, .slice none 0 0, .slice none 0 0], _, rfl, RT_num (I64_i16 _), ⟨[.int .i64 (IntKind.i32.wrap (y.at_ 2).n), .slice none 0 0, .bool false, .slice none 0 0, .slice none 0 0], _, rfl, RT_num (I64_i32 _), ⟨[.int .i64 (IntKind.i32.wrap (y.at_ 3).n), .slice none 0 0, .bool false, .slice none 0 0, .slice none 0 0], _, rfl, RT_num (I64_i32 _), ⟨[_, _, _, _, _], _, rfl, RT_list hnil1_4 rfl (row_rs hS (j := 2) rfl (RTs.cells hIr_4)) (RTs.mv hIr_4 hS.trFin), ⟨[.int .i64 (IntKind.i8.wrap (y.at_ 5).n), .slice none 0 0, .bool false, .slice none 0 0, .slice none 0 0], _, rfl, RT_num (I64_i8 _), ⟨[.int .i64 (IntKind.i32.wrap (y.at_ 6).n), .slice none 0 0, .bool false, .slice none 0 0, .slice none 0 0], _, rfl, RT_num (I64_i32 _), rfl⟩⟩⟩⟩⟩⟩⟩
    refine ⟨_, rfl, RT.shut ⟨_, _, _, rfl, (show I64 0 from by unfold I64; omega), RS_nil 1, ⟨_, obj_rsS hS (i := 3) (sz := 5) (m := 7) rfl rfl (RTs.cells hRTs), hRTs⟩, ⟨csU, row_rs hS (j := 1) rfl (RUs.cells hRU).2, RUs.mv hS.trFin hRU⟩⟩⟩
theorem tclo_AlterPartitionResponseTopic (b3 : Nat) (c0 c1 c2 c3 : Value) (us : Tags) (hk : ∀ y ∈ us, y.1 < 4294967296) (hl : ∀ y ∈ us, y.2.length ≤ 4398046511104) (hlen : us.length ≤ 1099511627776) : ∀ j (hj : j < us.length) (u : Vw) (z : Value × List Value × Nat) (tv : Value), Iv (TInv us) j u z → RSv u tv (us[j]'hj).2 → HF [TA b3 c0 c1 c2 c3 z, TB z] u.w → (∀ q ∈ blks [TA b3 c0 c1 c2 c3 z, TB z], u.av q) → (blks [TA b3 c0 c1 c2 c3 z, TB z]).Nodup → CH Tryd.prog 143 [.int .u32 ((us[j]'hj).1 : Int), tv, .pointer (some ⟨b3, 0, none⟩)] u [TA b3 c0 c1 c2 c3 z, TB z] fun u r E' => ∃ z', E' = [TA b3 c0 c1 c2 c3 z', TB z'] ∧ Iv (TInv us) (j + 1) u z' := by
  rintro j hj u ⟨vU, cs, k⟩ tv hz htv hok hav hnd
  obtain ⟨hk0, hR⟩ := hz.get
  dsimp only at hk0 hR
  subst hk0
  have hbl := hl _ (List.getElem_mem hj)
  obtain ⟨adV, cV, rfl, hleV⟩ := htv.shape
  refine ch_enter Tryd.func143 rfl Tryd.ntmps143 rfl hok hav hnd ?_
  refine cd_draw' [0] [0, 1, 2, 3, 5, 8] [0, 1, 2, 3, 4, 5, 6, 7, 8, 9] mixed (by kernel_rfl) ?_
  refine lo_pv rfl rfl (sk_js (Tr.refl _) [0] rfl) (pv_fieldAddr (off := 4) (r := 4) Tryd.underlying27 rfl (tiSl_impl_Tag).size rfl rfl rfl) rfl ?_
  refine lo_pv rfl rfl (sk_js (Tr.refl _) [0] rfl) (pv_ldo (i := 0) rfl Tryd.underlying25 rfl rfl rfl) rfl ?_
  refine lo_pv rfl rfl (sk_js (Tr.refl _) [0] rfl) (pv_move rfl) rfl ?_
  refine lo_pv rfl rfl (sk_js (Tr.refl _) [0] rfl) (pv_move rfl) rfl ?_
  refine lo_eff rfl rfl ?_
  refine ln_nilrow 5 1 ?_
  refine ln_append (i := 0) rfl Tryd.underlying22 tiuint8 rfl (by decide) rfl rfl (RS.src htv) (by simp only [maxLen]; omega) (by omega) rfl (k' := (us[k]'hj).2.length) (xs' := u8s (us[k]'hj).2) (by omega) (by simp) (fun vc hvc => ?_)
  refine ln_free1 (fun q h => by simpa using h) (fun s1 ht1 hK1 => ?_)
  have hcp : RSv s1 vc (us[k]'hj).2 := Known.rs hK1 (u8s_one _)
  clear hK1
  have htv := htv.mv ht1
  have hR := RUs.mv ht1 hR
  refine lo_back (sk_js ht1 [0] rfl) ?_
  refine lo_pv rfl rfl (sk_js ht1 [0] rfl) (pv_struct [(0, 1), (1, 1)] (l := [_, _]) rfl Tryd.underlying58 tiimpl_Tag (by kernel_rfl) rfl (by simp [okL, Nat.ble_eq, Value.cells, hvc.2])) rfl ?_
  refine lo_eff rfl rfl ?_
  refine ln_lit (vs := [_]) Tryd.underlying25 tiimpl_Tag rfl (by decide) rfl rfl rfl rfl rfl rfl (fun b1 => ?_)
  refine lo_back (sk_js ht1 [1] rfl) ?_
  refine lo_eff rfl rfl ?_
  refine ln_append (i := 2) rfl Tryd.underlying25 tiimpl_Tag rfl (by decide) rfl rfl (src_obj (j := 0) rfl rfl (by simp [flat, Value.cells, hvc.2])) (by first | omega | (simp only [maxLen]; omega)) (by first | omega | (simp only [maxLen]; omega)) rfl (k' := (k + 1)) (xs' := cs ++ [.int .u32 ((us[k]'hj).1 : Int), vc]) rfl (by simp [flat, Value.cells]) (fun v1 hv1 => ?_)
  refine lo_back (sk_js ht1 [1] rfl) ?_
  refine lo_pv rfl rfl (sk_js ht1 [1] rfl) (pv_fieldAddr (off := 4) (r := 4) Tryd.underlying27 rfl (tiSl_impl_Tag).size rfl rfl rfl) rfl ?_
  refine lo_eff rfl rfl ?_
  refine ln_store1 (i := 1) rfl rfl rfl hv1.2 (tiSl_impl_Tag).size rfl ?_
  refine lo_last (by kernel_rfl) ?_
  refine lo_nil ?_
  refine at_retH0 [TA b3 c0 c1 c2 c3 (v1, cs ++ [.int .u32 ((us[k]'hj).1 : Int), vc], k + 1), TB (v1, cs ++ [.int .u32 ((us[k]'hj).1 : Int), vc], k + 1)] (.cons _ (.cons_cons _ (.cons_cons _ .slnil))) rfl (fun w hS => ⟨(v1, cs ++ [.int .u32 ((us[k]'hj).1 : Int), vc], k + 1), rfl, fun w2 hw2 => ⟨rfl, ?_⟩⟩)
  rw [take_snoc' hj]
  have hq := (hS.trFinH _ _).trans hw2
  exact RUs.append (RUs.mv hq hR) (RUs.one_ (hk _ (List.getElem_mem hj)) (RSv.mv hcp hq))
theorem tlT_AlterPartitionResponseTopic (y : Tre) : tlT F_sAlterPartitionResponseTopic y = .mk 0 [] false [.mk 0 (y.at_ 0).s false [] [], .mk 0 (uuid (y.at_ 1).s) false [] [], .mk 0 [] (y.at_ 2).z ((els (y.at_ 2)).map (tlT F_sAlterPartitionResponseTopicPartition)) []] y.u := rfl
set_option maxHeartbeats 2000000 in
theorem tell_AlterPartitionResponseTopic (t : Vw) (b o : Nat) (y : Tre) (cells : List Value) (hrc : RC t b o cells) (hM : RMp t F_sAlterPartitionResponseTopic y cells) (htg : tgT F_sAlterPartitionResponseTopic y) : CA Tryd.prog 103 [.pointer (some ⟨b, o, none⟩)] t fun u r => ∃ ds, r = .agg ds.toArray ∧ RT u (tlT F_sAlterPartitionResponseTopic y) ds := by
  rw [tlT_AlterPartitionResponseTopic]
  obtain ⟨⟨hsrt, hkeys, hlens, hlen⟩, htl⟩ := htg
  simp only [F_sAlterPartitionResponseTopic, tgL] at htl
  obtain ⟨qg0, qg1, qg2, _⟩ := htl
  obtain ⟨fc1, mv1, hce1, hfl1, hTg1⟩ := hM
  simp only [F_sAlterPartitionResponseTopic, RMl] at hfl1
  obtain ⟨x1_0, z1_0, e1_0, g1_0, x1_1, z1_1, e1_1, g1_1, x1_2, z1_2, e1_2, g1_2, hend1⟩ := hfl1
  obtain rfl := (RMf_str (by decide)).1 g1_0
  have hq1_1 := RMf_uuid.1 g1_1
  obtain ⟨u1_1_0, u1_1_1, u1_1_2, u1_1_3, u1_1_4, u1_1_5, u1_1_6, u1_1_7, u1_1_8, u1_1_9, u1_1_10, u1_1_11, u1_1_12, u1_1_13, u1_1_14, u1_1_15, hu1_1⟩ := uuid16 (y.at_ 1).s
  rw [hu1_1] at hq1_1
  subst hq1_1
  obtain ⟨_, rfl, Gg1_2⟩ := RMf_list.1 g1_2
  obtain ⟨ad1_2, cap1_2, rfl, hnil1_2, Hg1_2⟩ := Gg1_2.els
  subst hend1
  subst e1_2
  subst e1_1
  subst e1_0
  rw [hce1] at hrc
  simp only [List.cons_append, List.nil_append, List.append_assoc] at hrc
  have huu_1 : RSv t (.slice (some ⟨b, o + 1, none⟩) 16 16) (uuid (y.at_ 1).s) := uuid_rs (hrc.sub 1 (c1 := [_]) (c2 := [u1_1_0, u1_1_1, u1_1_2, u1_1_3, u1_1_4, u1_1_5, u1_1_6, u1_1_7, u1_1_8, u1_1_9, u1_1_10, u1_1_11, u1_1_12, u1_1_13, u1_1_14, u1_1_15]) rfl rfl) hu1_1
  have hLs_2 := LsF.of Hg1_2
  have hll_2 : (els (y.at_ 2)).length ≤ 32767 := (tgF_list.1 qg2).1
  obtain ⟨lt, hMK, hRK⟩ := hTg1
  have hrt : RC1 t b (o + 18) mv1 := hrc.sub 18 (c1 := [_, _, _, _, _, _, _, _, _, _, _, _, _, _, _, _, _, _]) (c2 := [mv1]) (c3 := []) rfl rfl
  have hrc : RCx t b o _ _ := hrc
  refine ca_enter Tryd.func103 rfl Tryd.ntmps103 rfl ?_
  refine cd_sr ?_
  refine ln_alloc tiimpl_Tree rfl rfl (fun b1 => ?_)
  refine ln_cd ?_
  refine cd_sr ?_
  refine ln_makeN (m := 3) (l := [.int .i64 0, .slice none 0 0, .bool false, .slice none 0 0, .slice none 0 0, .int .i64 0, .slice none 0 0, .bool false, .slice none 0 0, .slice none 0 0, .int .i64 0, .slice none 0 0, .bool false, .slice none 0 0, .slice none 0 0]) Tryd.underlying24 tiimpl_Tree rfl rfl (by kernel_rfl) (by decide) (by decide) rfl (fun bL => ?_)
  refine ln_pv (pv_struct [(0, 1), (1, 1), (2, 1), (3, 1), (4, 1)] (l := [_, _, _, _, _]) rfl Tryd.underlying27 tiimpl_Tree (by kernel_rfl) rfl rfl) rfl ?_
  refine ln_alloc tiimpl_Tree rfl rfl (fun b2 => ?_)
  refine ln_storeW (i := 0) rfl rfl rfl rfl (tiimpl_Tree).size rfl (by simp []) ?_
  refine ln_cd ?_
  refine cd_dr' [0, 1, 2] [0, 1, 2, 3, 4, 5, 7, 8] [0, 1, 2, 3, 4, 5, 6, 7, 8, 9] mixed (by kernel_rfl) ?_
  refine lo_pv rfl rfl (sk_js (Tr.refl _) [0, 1, 2] rfl) (pv_fieldAddr (off := 3) (r := 3) Tryd.underlying27 rfl (tiSl_impl_Tree).size rfl rfl rfl) rfl ?_
  refine lo_pv rfl rfl (sk_js (Tr.refl _) [0, 1, 2] rfl) (pv_ldo (i := 0) rfl Tryd.underlying24 rfl rfl rfl) rfl ?_
  refine lo_pv rfl rfl (sk_js (Tr.refl _) [0, 1, 2] rfl) (pv_move rfl) rfl ?_
  refine lo_pv rfl rfl (sk_js (Tr.refl _) [0, 1, 2] rfl) (pv_nilCheck rfl) rfl ?_
  refine lo_pv rfl rfl (sk_js (Tr.refl _) [0, 1, 2] rfl) (pv_fieldAddr (off := 0)  Tryd.underlying136 rfl (tistring).size rfl rfl rfl) rfl ?_
  refine lo_pv rfl rfl (sk_js (Tr.refl _) [0, 1, 2] rfl) (pv_ldr (j := 0) hrc Tryd.underlying9 rfl rfl rfl) rfl ?_
  refine lo_eff rfl rfl ?_
  refine ln_s2b Tryd.underlying9 Tryd.underlying22 Tryd.underlying5 rfl rfl (fun bS1 cS1 zS1 fS1 hcS1 => ?_)
  refine ln_free1 (fun q h => h.elim) (fun sS1 htS1 hKS1 => ?_)
  have hsS1 := rs_of_obj hKS1 hcS1
  clear hKS1
  have hrc := hrc.mv htS1
  have hrt := hrt.mv htS1
  have hMK := hMK.mv htS1
  have hRK := hRK.mv htS1
  have huu_1 := huu_1.mv htS1
  have hLs_2 := hLs_2.mv htS1
  refine lo_back (sk_js htS1 [0, 1, 2] rfl) ?_
  refine lo_pv rfl rfl (sk_js htS1 [0, 1, 2] rfl) (pv_struct [(0, 1), (1, 1), (2, 1), (3, 1), (4, 1)] (l := [_, _, _, _, _]) rfl Tryd.underlying27 tiimpl_Tree (by kernel_rfl) rfl (by simp [okL, Nat.ble_eq, Value.cells, (RS.one hsS1)])) rfl ?_
  refine lo_pv rfl rfl (sk_js htS1 [0, 1, 2] rfl) (pv_ixN (o := 0) (i := 0) Tryd.underlying24 (tiimpl_Tree).size rfl rfl (by decide)) rfl ?_
  refine lo_eff rfl rfl ?_
  refine ln_store (i := 1) (vs := [_, _, _, _, _]) rfl rfl rfl rfl (tiimpl_Tree).size rfl (by simp [(RS.one hsS1)]) rfl ?_
  refine lo_last (by kernel_rfl) ?_
  refine lo_cd ?_
  refine cd_dr' [0, 1, 2] [0, 1, 2, 3, 4, 5, 7, 8] [0, 1, 2, 3, 4, 5, 6, 7, 8, 9] mixed (by kernel_rfl) ?_
  refine lo_pv rfl rfl (sk_js (Tr.refl _) [0, 1, 2] rfl) (pv_fieldAddr (off := 3) (r := 3) Tryd.underlying27 rfl (tiSl_impl_Tree).size rfl rfl rfl) rfl ?_
  refine lo_pv rfl rfl (sk_js (Tr.refl _) [0, 1, 2] rfl) (pv_ldo (i := 0) rfl Tryd.underlying24 rfl rfl rfl) rfl ?_
  refine lo_pv rfl rfl (sk_js (Tr.refl _) [0, 1, 2] rfl) (pv_move rfl) rfl ?_
  refine lo_pv rfl rfl (sk_js (Tr.refl _) [0, 1, 2] rfl) (pv_nilCheck rfl) rfl ?_
  refine lo_pv rfl rfl (sk_js (Tr.refl _) [0, 1, 2] rfl) (pv_fieldAddr (off := 1)  Tryd.underlying136 rfl (ti_16_uint8).size rfl rfl rfl) rfl ?_
  refine lo_pv rfl rfl (sk_js (Tr.refl _) [0, 1, 2] rfl) (pv_slice_arro Tryd.underlying117 (size_some (tiuint8 : TI Tryd.prog _ _ _ _).size) rfl) rfl ?_
  refine lo_eff rfl rfl ?_
  refine ln_nilrow 5 1 ?_
  refine ln_append (i := 0) rfl Tryd.underlying22 tiuint8 rfl (by decide) rfl rfl (RS.src huu_1) (by rw [uuid_length]; simp only [maxLen]; omega) (by rw [uuid_length]; omega) rfl (k' := (uuid (y.at_ 1).s).length) (xs' := u8s (uuid (y.at_ 1).s)) (by omega) (by simp) (fun vI1 hvI1 => ?_)
  refine ln_free1 (fun q h => h.elim) (fun sI1 htI1 hKI1 => ?_)
  have hcI1 : RSv sI1 vI1 (uuid (y.at_ 1).s) := Known.rs hKI1 (u8s_one _)
  clear hKI1
  have hrc := hrc.mv htI1
  have hrt := hrt.mv htI1
  have hMK := hMK.mv htI1
  have hRK := hRK.mv htI1
  have huu_1 := huu_1.mv htI1
  have hLs_2 := hLs_2.mv htI1
  have hsS1 := hsS1.mv htI1
  refine lo_back (sk_js htI1 [0, 1, 2] rfl) ?_
  refine lo_pv rfl rfl (sk_js htI1 [0, 1, 2] rfl) (pv_struct [(0, 1), (1, 1), (2, 1), (3, 1), (4, 1)] (l := [_, _, _, _, _]) rfl Tryd.underlying27 tiimpl_Tree (by kernel_rfl) rfl (by simp [okL, Nat.ble_eq, Value.cells, (RS.one hcI1)])) rfl ?_
  refine lo_pv rfl rfl (sk_js htI1 [0, 1, 2] rfl) (pv_ixN (o := 0) (i := 1) Tryd.underlying24 (tiimpl_Tree).size rfl rfl (by decide)) rfl ?_
  refine lo_eff rfl rfl ?_
  refine ln_store (i := 1) (vs := [_, _, _, _, _]) rfl rfl rfl rfl (tiimpl_Tree).size rfl (by simp [(RS.one hcI1)]) rfl ?_
  refine lo_last (by kernel_rfl) ?_
  refine lo_cd ?_
  refine cd_dr' [0, 1, 2] [0, 1, 2, 3, 4, 5, 6, 8] [0, 1, 2, 3, 4, 5, 6, 7, 8, 9] mixed (by kernel_rfl) ?_
  refine lo_pv rfl rfl (sk_js (Tr.refl _) [0, 1, 2] rfl) (pv_fieldAddr (off := 3) (r := 3) Tryd.underlying27 rfl (tiSl_impl_Tree).size rfl rfl rfl) rfl ?_
  refine lo_pv rfl rfl (sk_js (Tr.refl _) [0, 1, 2] rfl) (pv_ldo (i := 0) rfl Tryd.underlying24 rfl rfl rfl) rfl ?_
  refine lo_pv rfl rfl (sk_js (Tr.refl _) [0, 1, 2] rfl) (pv_move rfl) rfl ?_
  refine lo_pv rfl rfl (sk_js (Tr.refl _) [0, 1, 2] rfl) (pv_nilCheck rfl) rfl ?_
  refine lo_pv rfl rfl (sk_js (Tr.refl _) [0, 1, 2] rfl) (pv_fieldAddr (off := 17)  Tryd.underlying136 rfl (tiSl_kmsg_AlterPartitionResponseTopicPartition).size rfl rfl rfl) rfl ?_
  refine lo_pv rfl rfl (sk_js (Tr.refl _) [0, 1, 2] rfl) (pv_ldr (j := 17) hrc Tryd.underlying134 rfl rfl rfl) rfl ?_
  refine lo_pv rfl rfl (sk_js (Tr.refl _) [0, 1, 2] rfl) (pv_eqS Tryd.underlying134 rfl rfl) rfl ?_
  refine lo_eff rfl rfl ?_
  refine ln_pv (pv_ixN (o := 0) (i := 2) Tryd.underlying24 (tiimpl_Tree).size rfl rfl (by decide)) rfl ?_
  refine lo_back (sk_js (Tr.refl _) [0, 1, 2] rfl) ?_
  refine lo_pv rfl rfl (sk_js (Tr.refl _) [0, 1, 2] rfl) (pv_fieldAddr (off := 2) (r := 12) Tryd.underlying27 rfl (tibool).size rfl rfl rfl) rfl ?_
  refine lo_eff rfl rfl ?_
  refine ln_store1 (i := 1) rfl rfl rfl rfl (tibool).size rfl ?_
  refine lo_last (by kernel_rfl) ?_
  refine lo_cd ?_
  refine cd_seq ?_
  refine cd_nilrow 27 5 ?_
  refine cd_sr ?_
  refine ln_pv (pv_move rfl) rfl ?_
  refine ln_pv (pv_nilCheck rfl) rfl ?_
  refine ln_pv (pv_fieldAddr (off := 17)  Tryd.underlying136 rfl (tiSl_kmsg_AlterPartitionResponseTopicPartition).size rfl rfl rfl) rfl ?_
  refine ln_pv (pv_ldr (j := 17) hrc Tryd.underlying134 rfl rfl rfl) rfl ?_
  refine ln_pv (pv_len_slice Tryd.underlying134 rfl) rfl ?_
  refine ln_pv (pv_move rfl) rfl ?_
  refine ln_cd ?_
  refine cd_block ?_
  refine cd_loop (⟨fun (z : Nat × List Value × Value) => [(0, .pointer (some ⟨b, o, none⟩)), (2, .pointer (some ⟨b1, 0, none⟩)), (3, .pointer (some ⟨b2, 0, none⟩)), (38, .int .i64 ((els (y.at_ 2)).length : Int)), (39, .int .i64 ((z.1 : Nat) : Int))], fun (z : Nat × List Value × Value) => [.row z.2.2 27 5 ((els (y.at_ 2)).take z.1).length z.2.1, .obj b2 (.cells [.int .i64 0, .slice none 0 0, .bool false, .slice (some ⟨bL, 0, none⟩) 3 3, .slice none 0 0].toArray 27), .obj bL (.cells [.int .i64 0, .slice (some ⟨bS1, 0, none⟩) (ByteArray.size ⟨((y.at_ 0)).s.toArray⟩) cS1, .bool false, .slice none 0 0, .slice none 0 0, .int .i64 0, vI1, .bool false, .slice none 0 0, .slice none 0 0, .int .i64 0, .slice none 0 0, .bool ad1_2.isNone, z.2.2, .slice none 0 0].toArray 27), .obj b1 (.cells [.int .i64 0, .slice none 0 0, .bool false, .slice none 0 0, .slice none 0 0].toArray 27)], fun (z : Nat × List Value × Value) s => z.1 ≤ (els (y.at_ 2)).length ∧ RTs s (((els (y.at_ 2)).take z.1).map (tlT F_sAlterPartitionResponseTopicPartition)) z.2.1, fun (z : Nat × List Value × Value) => (els (y.at_ 2)).length - z.1⟩ : Lp (Nat × List Value × Value)) (0, [], .slice none 0 0) ?_ ?_ ?_ ?_
  · intro s0 hs0
    exact ⟨Nat.zero_le _, rfl⟩
  · exact ⟨rfl, rfl, rfl, rfl, rfl,  trivial⟩
  · exact (.cons_cons _ (.cons_cons _ (.cons_cons _ (.cons_cons _ .slnil))))
  intro z s1 hl1 hI
  obtain ⟨i_2, ys_2, vv_2⟩ := z
  dsimp only at hI ⊢
  have hrc := hrc.mv hl1
  have hrt := hrt.mv hl1
  have hMK := hMK.mv hl1
  have hRK := hRK.mv hl1
  have huu_1 := huu_1.mv hl1
  have hLs_2 := hLs_2.mv hl1
  have hsS1 := hsS1.mv hl1
  have hcI1 := hcI1.mv hl1
  obtain ⟨hI_2, hIr_2⟩ := hI
  refine cd_sr ?_
  refine ln_pv (pv_lss rfl rfl) rfl ?_
  refine ln_cd ?_
  refine cd_seq ?_
  refine cd_if rfl (fun hc1 => ?_) (fun hc1 => ?_)
  · -- yes
    refine cd_skip ?_
    refine at_cd ?_
    refine cd_seq ?_
    refine cd_block ?_
    have hi_2 : i_2 < (els (y.at_ 2)).length := by omega
    have hsl_2 : ((els (y.at_ 2)).take (i_2 + 1)).length = ((els (y.at_ 2)).take i_2).length + 1 := by simp only [List.length_take]; omega
    have hil_2 : ((els (y.at_ 2)).take i_2).length = i_2 := by rw [List.length_take]; omega
    obtain ⟨gE_2, oE_2, cE_2, hadE_2, hrce_2, hme_2⟩ := hLs_2.at_ hi_2 (show esl _ _ = 8 by kernel_rfl)
    subst hadE_2
    have hme_2 := RE_part hme_2
    have htge_2 : tgT F_sAlterPartitionResponseTopicPartition (els (y.at_ 2))[i_2] := by have h := (tgF_list.1 qg2).2 _ (List.getElem_mem hi_2); rw [if_pos rfl] at h; exact h
    refine cd_sr ?_
    refine ln_pv (pv_move rfl) rfl ?_
    refine ln_pv (pv_assign rfl) rfl ?_
    refine ln_cd ?_
    refine cd_dr3 [1, 2, 3] [] [0] 1 2 [2, 3] [1, 3] mixed (by kernel_rfl) ?_
    refine lo_eff rfl rfl ?_
    refine ln_alloc tibool rfl rfl (fun b3 => ?_)
    refine lo_last (by kernel_rfl) ?_
    refine lo_nil (at_two ?_ ?_)
    · skip
      refine lo_eff rfl rfl ?_
      refine ln_store1 (i := 0) rfl rfl rfl rfl (tibool).size rfl ?_
      refine lo_last (by kernel_rfl) ?_
      refine lo_eff rfl rfl ?_
      refine ln_store1 (i := 0) rfl rfl rfl rfl (tibool).size rfl ?_
      refine lo_last (by kernel_rfl) ?_
      refine lo_eff rfl rfl ?_
      refine ln_pv (pv_ldo (i := 0) rfl Tryd.underlying4 rfl rfl rfl) rfl ?_
      refine lo_last (by kernel_rfl) ?_
      refine lo_cd ?_
      refine cd_ff rfl ?_
      refine cd_draw' [0, 2, 3, 4] [0, 1, 2, 3, 4, 5, 6, 7, 8, 9, 10, 11, 12, 17] [0, 1, 2, 3, 4, 5, 6, 7, 8, 9, 10, 11, 12, 13, 14, 15, 16, 17, 18] mixed (by kernel_rfl) ?_
      refine lo_pv rfl rfl (sk_js (Tr.refl _) [0, 2, 3, 4] rfl) (pv_fieldAddr (off := 3) (r := 3) Tryd.underlying27 rfl (tiSl_impl_Tree).size rfl rfl rfl) rfl ?_
      refine lo_pv rfl rfl (sk_js (Tr.refl _) [0, 2, 3, 4] rfl) (pv_ldo (i := 1) rfl Tryd.underlying24 rfl rfl rfl) rfl ?_
      refine lo_pv rfl rfl (sk_js (Tr.refl _) [0, 2, 3, 4] rfl) (pv_fieldAddr (off := 3) (r := 3) Tryd.underlying27 rfl (tiSl_impl_Tree).size rfl rfl rfl) rfl ?_
      refine lo_pv rfl rfl (sk_js (Tr.refl _) [0, 2, 3, 4] rfl) (pv_ldo (i := 1) rfl Tryd.underlying24 rfl rfl rfl) rfl ?_
      refine lo_pv rfl rfl (sk_js (Tr.refl _) [0, 2, 3, 4] rfl) (pv_ixN (o := 0) (i := 2) Tryd.underlying24 (tiimpl_Tree).size rfl rfl (by decide)) rfl ?_
      refine lo_pv rfl rfl (sk_js (Tr.refl _) [0, 2, 3, 4] rfl) (pv_fieldAddr (off := 3) (r := 13) Tryd.underlying27 rfl (tiSl_impl_Tree).size rfl rfl rfl) rfl ?_
      refine lo_pv rfl rfl (sk_js (Tr.refl _) [0, 2, 3, 4] rfl) (pv_ldo (i := 2) rfl Tryd.underlying24 rfl rfl rfl) rfl ?_
      refine lo_pv rfl rfl (sk_js (Tr.refl _) [0, 2, 3, 4] rfl) (pv_move rfl) rfl ?_
      refine lo_pv rfl rfl (sk_js (Tr.refl _) [0, 2, 3, 4] rfl) (pv_nilCheck rfl) rfl ?_
      refine lo_pv rfl rfl (sk_js (Tr.refl _) [0, 2, 3, 4] rfl) (pv_fieldAddr (off := 17)  Tryd.underlying136 rfl (tiSl_kmsg_AlterPartitionResponseTopicPartition).size rfl rfl rfl) rfl ?_
      refine lo_pv rfl rfl (sk_js (Tr.refl _) [0, 2, 3, 4] rfl) (pv_ldr (j := 17) hrc Tryd.underlying134 rfl rfl rfl) rfl ?_
      refine lo_pv rfl rfl (sk_js (Tr.refl _) [0, 2, 3, 4] rfl) (pv_move rfl) rfl ?_
      refine lo_pv rfl rfl (sk_js (Tr.refl _) [0, 2, 3, 4] rfl) (pv_ixN Tryd.underlying134 (tipub_kmsg_AlterPartitionResponseTopicPartition).size rfl rfl hi_2) rfl ?_
      refine lo_eff rfl rfl ?_
      refine ln_callA en_142 rfl (fun u hu => tell_AlterPartitionResponseTopicPartition u gE_2 (oE_2 + i_2 * 8) (els (y.at_ 2))[i_2] cE_2 (hrce_2.mv hu).2 (RMp.mv hme_2 hu) htge_2) rfl (fun u2 v2 ht2 hR2 => ?_)
      have hrc := hrc.mv ht2
      have hrt := hrt.mv ht2
      have hMK := hMK.mv ht2
      have hRK := hRK.mv ht2
      have huu_1 := huu_1.mv ht2
      have hLs_2 := hLs_2.mv ht2
      have hsS1 := hsS1.mv ht2
      have hcI1 := hcI1.mv ht2
      have hIr_2 := hIr_2.mv ht2
      have hrce_2 := hrce_2.mv ht2
      have hme_2 := hme_2.mv ht2
      obtain ⟨dsF2, rfl, hdF2⟩ := hR2
      refine lo_back (sk_js ht2 [0, 2, 3, 4] rfl) ?_
      refine lo_eff rfl rfl ?_
      refine ln_lit (vs := [_]) Tryd.underlying24 tiimpl_Tree rfl (by decide) rfl rfl rfl (by simp [partsOk, Value.cells, hdF2.len]; try exact .inl rfl) rfl rfl (fun b4 => ?_)
      refine lo_back (sk_js ht2 [1, 3, 4, 5] rfl) ?_
      refine lo_eff rfl rfl ?_
      refine ln_append (i := 2) rfl Tryd.underlying24 tiimpl_Tree rfl (by decide) rfl rfl (src_obj (j := 0) rfl (by simp [flat, Value.cells, hdF2.len]) (List.all_eq_true.2 (by simpa [flat, Value.cells] using hdF2.cells))) (by rw [hil_2]; first | omega | (simp only [maxLen]; omega)) (by rw [hil_2]; first | omega | (simp only [maxLen]; omega)) rfl (k' := ((els (y.at_ 2)).take (i_2 + 1)).length) (xs' := ys_2 ++ dsF2) hsl_2.symm (by simp [flat, Value.cells]) (fun v3 hv3 => ?_)
      refine lo_back (sk_js ht2 [1, 3, 4, 5] rfl) ?_
      refine lo_eff rfl rfl ?_
      refine ln_pv (pv_ixN (o := 0) (i := 2) Tryd.underlying24 (tiimpl_Tree).size rfl rfl (by decide)) rfl ?_
      refine lo_back (sk_js ht2 [1, 3, 4, 5] rfl) ?_
      refine lo_pv rfl rfl (sk_js ht2 [1, 3, 4, 5] rfl) (pv_fieldAddr (off := 3) (r := 13) Tryd.underlying27 rfl (tiSl_impl_Tree).size rfl rfl rfl) rfl ?_
      refine lo_eff rfl rfl ?_
      refine ln_store1 (i := 4) rfl rfl rfl hv3.2 (tiSl_impl_Tree).size rfl ?_
      refine lo_last (by kernel_rfl) ?_
      refine lo_nil ?_
      refine at_cd ?_
      refine cd_region ?_
      refine ln_pv (pv_add' rfl rfl (wrap_succ (by omega))) rfl ?_
      refine ln_pv (pv_move rfl) rfl ?_
      refine ln_nil ?_
      refine at_rnd (i_2 + 1, ys_2 ++ dsF2, v3) (hl1.trans ht2) ?_ ?_ ⟨rfl, rfl, rfl, rfl, rfl,  trivial⟩ (.cons _ (.cons _ (.cons_cons _ (.cons_cons _ (.cons_cons _ (.cons_cons _ .slnil))))))
      · intro s9 hs9
        exact ⟨by dsimp only; omega, RTs_snoc hi_2 (RTs.mv hIr_2 hs9) (RT.mv hdF2 hs9)⟩
      · dsimp only; omega
    · skip
      refine lo_eff rfl rfl ?_
      refine ln_store1 (i := 0) rfl rfl rfl rfl (tibool).size rfl ?_
      refine lo_last (by kernel_rfl) ?_
      refine lo_eff rfl rfl ?_
      refine ln_store1 (i := 0) rfl rfl rfl rfl (tibool).size rfl ?_
      refine lo_last (by kernel_rfl) ?_
      refine lo_eff rfl rfl ?_
      refine ln_pv (pv_ldo (i := 0) rfl Tryd.underlying4 rfl rfl rfl) rfl ?_
      refine lo_last (by kernel_rfl) ?_
      refine lo_cd ?_
      refine cd_tt rfl ?_
      refine cd_rowshape (i := 1) rfl (fun adR_2 cpR_2 hvR_2 hleR_2 hposR_2 => ?_)
      subst hvR_2
      refine cd_dr2 [0, 2, 3, 4] [0, 1, 2, 3, 4, 5, 6, 7, 8, 9, 10, 12, 16] [0, 1, 2, 3, 4, 5, 6, 7, 8, 9, 10, 12] 11 13 [13, 14, 15, 16, 17] [11, 14, 15, 16, 17] mixed (by kernel_rfl) ?_
      refine lo_pv rfl rfl (sk_js (Tr.refl _) [0, 2, 3, 4] rfl) (pv_fieldAddr (off := 3) (r := 3) Tryd.underlying27 rfl (tiSl_impl_Tree).size rfl rfl rfl) rfl ?_
      refine lo_pv rfl rfl (sk_js (Tr.refl _) [0, 2, 3, 4] rfl) (pv_ldo (i := 1) rfl Tryd.underlying24 rfl rfl rfl) rfl ?_
      refine lo_pv rfl rfl (sk_js (Tr.refl _) [0, 2, 3, 4] rfl) (pv_ixN (o := 0) (i := 2) Tryd.underlying24 (tiimpl_Tree).size rfl rfl (by decide)) rfl ?_
      refine lo_pv rfl rfl (sk_js (Tr.refl _) [0, 2, 3, 4] rfl) (pv_fieldAddr (off := 3) (r := 13) Tryd.underlying27 rfl (tiSl_impl_Tree).size rfl rfl rfl) rfl ?_
      refine lo_pv rfl rfl (sk_js (Tr.refl _) [0, 2, 3, 4] rfl) (pv_ldo (i := 2) rfl Tryd.underlying24 rfl rfl rfl) rfl ?_
      refine lo_pv rfl rfl (sk_js (Tr.refl _) [0, 2, 3, 4] rfl) (pv_move rfl) rfl ?_
      refine lo_pv rfl rfl (sk_js (Tr.refl _) [0, 2, 3, 4] rfl) (pv_nilCheck rfl) rfl ?_
      refine lo_pv rfl rfl (sk_js (Tr.refl _) [0, 2, 3, 4] rfl) (pv_fieldAddr (off := 17)  Tryd.underlying136 rfl (tiSl_kmsg_AlterPartitionResponseTopicPartition).size rfl rfl rfl) rfl ?_
      refine lo_pv rfl rfl (sk_js (Tr.refl _) [0, 2, 3, 4] rfl) (pv_ldr (j := 17) hrc Tryd.underlying134 rfl rfl rfl) rfl ?_
      refine lo_pv rfl rfl (sk_js (Tr.refl _) [0, 2, 3, 4] rfl) (pv_move rfl) rfl ?_
      refine lo_pv rfl rfl (sk_js (Tr.refl _) [0, 2, 3, 4] rfl) (pv_ixN Tryd.underlying134 (tipub_kmsg_AlterPartitionResponseTopicPartition).size rfl rfl hi_2) rfl ?_
      refine lo_pv rfl rfl (sk_js (Tr.refl _) [0, 2, 3, 4] rfl) (pv_len_slice Tryd.underlying24 rfl) rfl ?_
      refine lo_nil (at_two ?_ ?_)
      · skip
        refine lo_eff rfl rfl ?_
        refine ln_callA en_142 rfl (fun u hu => tell_AlterPartitionResponseTopicPartition u gE_2 (oE_2 + i_2 * 8) (els (y.at_ 2))[i_2] cE_2 (hrce_2.mv hu).2 (RMp.mv hme_2 hu) htge_2) rfl (fun u4 v4 ht4 hR4 => ?_)
        have hrc := hrc.mv ht4
        have hrt := hrt.mv ht4
        have hMK := hMK.mv ht4
        have hRK := hRK.mv ht4
        have huu_1 := huu_1.mv ht4
        have hLs_2 := hLs_2.mv ht4
        have hsS1 := hsS1.mv ht4
        have hcI1 := hcI1.mv ht4
        have hIr_2 := hIr_2.mv ht4
        have hrce_2 := hrce_2.mv ht4
        have hme_2 := hme_2.mv ht4
        obtain ⟨dsF2, rfl, hdF2⟩ := hR4
        refine lo_back (sk_js ht4 [0, 2, 3, 4] rfl) ?_
        refine lo_eff rfl rfl ?_
        refine ln_lit (vs := [_]) Tryd.underlying24 tiimpl_Tree rfl (by decide) rfl rfl rfl rfl rfl rfl (fun b5 => ?_)
        refine lo_back (sk_js ht4 [1, 3, 4, 5] rfl) ?_
        refine lo_eff rfl rfl ?_
        refine ln_append (i := 2) rfl Tryd.underlying24 tiimpl_Tree rfl (by decide) rfl rfl (src_obj (j := 0) rfl rfl rfl) (by rw [hil_2]; first | omega | (simp only [maxLen]; omega)) (by rw [hil_2]; first | omega | (simp only [maxLen]; omega)) rfl (k' := ((els (y.at_ 2)).take (i_2 + 1)).length) (xs' := ys_2 ++ [.int .i64 0, .slice none 0 0, .bool false, .slice none 0 0, .slice none 0 0]) hsl_2.symm (by simp [flat, Value.cells]) (fun v5 hv5 => ?_)
        refine lo_back (sk_js ht4 [1, 3, 4, 5] rfl) ?_
        refine lo_eff rfl rfl ?_
        refine ln_pv (pv_ixN (o := 0) (i := 2) Tryd.underlying24 (tiimpl_Tree).size rfl rfl (by decide)) rfl ?_
        refine lo_back (sk_js ht4 [1, 3, 4, 5] rfl) ?_
        refine lo_pv rfl rfl (sk_js ht4 [1, 3, 4, 5] rfl) (pv_fieldAddr (off := 3) (r := 13) Tryd.underlying27 rfl (tiSl_impl_Tree).size rfl rfl rfl) rfl ?_
        refine lo_eff rfl rfl ?_
        refine ln_store1 (i := 4) rfl rfl rfl hv5.2 (tiSl_impl_Tree).size rfl ?_
        refine lo_last (by kernel_rfl) ?_
        refine lo_cd ?_
        refine cd_region ?_
        refine ln_rowshp (i := 2) rfl (fun ad2_2 cp2_2 hv2_2 hle2_2 hpos2_2 => ?_)
        subst hv2_2
        obtain ⟨g2_2, rfl⟩ := hpos2_2 (by omega)
        refine ln_pv (pv_ixN Tryd.underlying24 tiimpl_Tree.size rfl rfl (by omega)) rfl ?_
        refine ln_storeR (i := 2) (vs := dsF2) (xs' := ys_2 ++ dsF2) rfl rfl rfl rfl (by rw [show List.length _ = 5 from hdF2.len]; exact tiimpl_Tree.size) (by have h5 : List.length (dsF2) = 5 := hdF2.len; omega) hdF2.cells (wr_end (show 5 = List.length _ from Eq.symm hdF2.len) (by have h6 := (RTs.len5 hIr_2); simp only [List.length_map] at h6; omega)) ?_
        refine ln_nil ?_
        refine at_cd ?_
        refine cd_region ?_
        refine ln_pv (pv_add' rfl rfl (wrap_succ (by omega))) rfl ?_
        refine ln_pv (pv_move rfl) rfl ?_
        refine ln_nil ?_
        refine at_rnd (i_2 + 1, ys_2 ++ dsF2, (.slice (some ⟨g2_2, 0, none⟩) ((els (y.at_ 2)).take (i_2 + 1)).length cp2_2)) (hl1.trans ht4) ?_ ?_ ⟨rfl, rfl, rfl, rfl, rfl,  trivial⟩ (.cons _ (.cons _ (.cons_cons _ (.cons_cons _ (.cons_cons _ (.cons_cons _ .slnil))))))
        · intro s9 hs9
          exact ⟨by dsimp only; omega, RTs_snoc hi_2 (RTs.mv hIr_2 hs9) (RT.mv hdF2 hs9)⟩
        · dsimp only; omega
      · skip
        refine lo_eff rfl rfl ?_
        refine ln_lit (vs := [_]) Tryd.underlying24 tiimpl_Tree rfl (by decide) rfl rfl rfl rfl rfl rfl (fun b6 => ?_)
        refine lo_back (sk_js (Tr.refl _) [1, 3, 4, 5] rfl) ?_
        refine lo_eff rfl rfl ?_
        refine ln_callA en_142 rfl (fun u hu => tell_AlterPartitionResponseTopicPartition u gE_2 (oE_2 + i_2 * 8) (els (y.at_ 2))[i_2] cE_2 (hrce_2.mv hu).2 (RMp.mv hme_2 hu) htge_2) rfl (fun u7 v7 ht7 hR7 => ?_)
        have hrc := hrc.mv ht7
        have hrt := hrt.mv ht7
        have hMK := hMK.mv ht7
        have hRK := hRK.mv ht7
        have huu_1 := huu_1.mv ht7
        have hLs_2 := hLs_2.mv ht7
        have hsS1 := hsS1.mv ht7
        have hcI1 := hcI1.mv ht7
        have hIr_2 := hIr_2.mv ht7
        have hrce_2 := hrce_2.mv ht7
        have hme_2 := hme_2.mv ht7
        obtain ⟨dsF2, rfl, hdF2⟩ := hR7
        refine lo_back (sk_js ht7 [1, 3, 4, 5] rfl) ?_
        refine lo_eff rfl rfl ?_
        refine ln_append (i := 2) rfl Tryd.underlying24 tiimpl_Tree rfl (by decide) rfl rfl (src_obj (j := 0) rfl rfl rfl) (by rw [hil_2]; first | omega | (simp only [maxLen]; omega)) (by rw [hil_2]; first | omega | (simp only [maxLen]; omega)) rfl (k' := ((els (y.at_ 2)).take (i_2 + 1)).length) (xs' := ys_2 ++ [.int .i64 0, .slice none 0 0, .bool false, .slice none 0 0, .slice none 0 0]) hsl_2.symm (by simp [flat, Value.cells]) (fun v8 hv8 => ?_)
        refine lo_back (sk_js ht7 [1, 3, 4, 5] rfl) ?_
        refine lo_eff rfl rfl ?_
        refine ln_pv (pv_ixN (o := 0) (i := 2) Tryd.underlying24 (tiimpl_Tree).size rfl rfl (by decide)) rfl ?_
        refine lo_back (sk_js ht7 [1, 3, 4, 5] rfl) ?_
        refine lo_pv rfl rfl (sk_js ht7 [1, 3, 4, 5] rfl) (pv_fieldAddr (off := 3) (r := 13) Tryd.underlying27 rfl (tiSl_impl_Tree).size rfl rfl rfl) rfl ?_
        refine lo_eff rfl rfl ?_
        refine ln_store1 (i := 4) rfl rfl rfl hv8.2 (tiSl_impl_Tree).size rfl ?_
        refine lo_last (by kernel_rfl) ?_
        refine lo_cd ?_
        refine cd_region ?_
        refine ln_rowshp (i := 2) rfl (fun ad2_2 cp2_2 hv2_2 hle2_2 hpos2_2 => ?_)
        subst hv2_2
        obtain ⟨g2_2, rfl⟩ := hpos2_2 (by omega)
        refine ln_pv (pv_ixN Tryd.underlying24 tiimpl_Tree.size rfl rfl (by omega)) rfl ?_
        refine ln_storeR (i := 2) (vs := dsF2) (xs' := ys_2 ++ dsF2) rfl rfl rfl rfl (by rw [show List.length _ = 5 from hdF2.len]; exact tiimpl_Tree.size) (by have h5 : List.length (dsF2) = 5 := hdF2.len; omega) hdF2.cells (wr_end (show 5 = List.length _ from Eq.symm hdF2.len) (by have h6 := (RTs.len5 hIr_2); simp only [List.length_map] at h6; omega)) ?_
        refine ln_nil ?_
        refine at_cd ?_
        refine cd_region ?_
        refine ln_pv (pv_add' rfl rfl (wrap_succ (by omega))) rfl ?_
        refine ln_pv (pv_move rfl) rfl ?_
        refine ln_nil ?_
        refine at_rnd (i_2 + 1, ys_2 ++ dsF2, (.slice (some ⟨g2_2, 0, none⟩) ((els (y.at_ 2)).take (i_2 + 1)).length cp2_2)) (hl1.trans ht7) ?_ ?_ ⟨rfl, rfl, rfl, rfl, rfl,  trivial⟩ (.cons _ (.cons _ (.cons_cons _ (.cons_cons _ (.cons_cons _ (.cons_cons _ .slnil))))))
        · intro s9 hs9
          exact ⟨by dsimp only; omega, RTs_snoc hi_2 (RTs.mv hIr_2 hs9) (RT.mv hdF2 hs9)⟩
        · dsimp only; omega
  · -- no
    refine cd_exit rfl ?_
    refine at_cd ?_
    have hq_2 : i_2 = (els (y.at_ 2)).length := by omega
    subst hq_2
    rw [List.take_length] at hIr_2
    refine cd_row (i := 0) (m' := ((els (y.at_ 2)).map (tlT F_sAlterPartitionResponseTopicPartition)).length) (xs' := ys_2) rfl (by simp) rfl ?_
    refine cd_sr ?_
    refine ln_pv (pv_move rfl) rfl ?_
    refine ln_pv (pv_nilCheck rfl) rfl ?_
    refine ln_pv (pv_fieldAddr (off := 18)  Tryd.underlying136 rfl (tipub_kmsg_Tags).size rfl rfl rfl) rfl ?_
    refine ln_pv (pv_makeFunc (vf := #[]) (vc := #[.pointer (some ⟨b2, 0, none⟩)]) (by rw [List.map_toArray, List.map_toArray]; rfl) (by rw [List.map_toArray, List.map_toArray]; rfl)) rfl ?_
    refine ln_nilrow 58 2 ?_
    have hst := tclo_AlterPartitionResponseTopic b2 (.int .i64 0) (.slice none 0 0) (.bool false) (.slice (some ⟨bL, 0, none⟩) 3 3) y.u hkeys hlens (Nat.le_of_lt hlen)
    have hEa := fun (u : Vw) hr hm hk h0 hok hav hnd => tags_EachG (fun z => TA b2 (.int .i64 0) (.slice none 0 0) (.bool false) (.slice (some ⟨bL, 0, none⟩) 3 3) z) TB (TInv y.u) 143 (.pointer (some ⟨b2, 0, none⟩)) en_143 u b (o + 18) mv1 lt y.u (.slice none 0 0, [], 0) hr hm hk hsrt (by omega) h0 hst hok hav hnd
    refine ln_callH (E := [TA b2 (.int .i64 0) (.slice none 0 0) (.bool false) (.slice (some ⟨bL, 0, none⟩) 3 3) (.slice none 0 0, [], 0), TB (.slice none 0 0, [], 0)]) (H0 := [_, _, _]) (List.perm_middle (l₁ := [_, _])) en_82 rfl (fun u hu hok hav hnd => hEa u (RC1.mv hrt hu) (hMK.mv hu) (RKp.mv hu hRK) (fun w hw => ⟨rfl, by rw [List.take_zero]; rfl⟩) hok hav hnd) rfl ?_
    rintro u10 v10 _ ht10 ⟨xu10, ⟨⟨vU, csU, kU⟩, rfl, hzU⟩, hxu10⟩
    obtain ⟨hkU, hRU⟩ := (hzU.mv hxu10).get
    dsimp only at hkU hRU
    subst hkU
    rw [List.take_length] at hRU
    have hrc := hrc.mv ht10
    have hrt := hrt.mv ht10
    have hMK := hMK.mv ht10
    have hRK := hRK.mv ht10
    have huu_1 := huu_1.mv ht10
    have hLs_2 := hLs_2.mv ht10
    have hsS1 := hsS1.mv ht10
    have hcI1 := hcI1.mv ht10
    have hIr_2 := hIr_2.mv ht10
    refine ln_cd ?_
    refine cd_sr ?_
    refine ln_pv (pv_fieldAddr (off := 4) (r := 4) Tryd.underlying27 rfl (tiSl_impl_Tag).size rfl rfl rfl) rfl ?_
    refine ln_pv (pv_ldo (i := 0) rfl Tryd.underlying25 rfl rfl rfl) rfl ?_
    refine ln_callT (i := 1) en_84 rfl rfl (fun u hu hok hav => impl_sorted u vU y.u csU hsrt (by omega) (RUs.cells hRU).1 (fun i hi => by obtain ⟨c1, tv, c3, he, hc, _, _⟩ := RUs.at_ hi hRU; rw [he, List.append_assoc, List.getElem?_append_right (by omega), hc]; simp) hok hav) rfl ?_
    rintro u11 v11 _ ht11 ⟨_, rfl, _⟩
    have hrc := hrc.mv ht11
    have hrt := hrt.mv ht11
    have hMK := hMK.mv ht11
    have hRK := hRK.mv ht11
    have huu_1 := huu_1.mv ht11
    have hLs_2 := hLs_2.mv ht11
    have hsS1 := hsS1.mv ht11
    have hcI1 := hcI1.mv ht11
    have hIr_2 := hIr_2.mv ht11
    have hRU := hRU.mv ht11
    refine ln_cd ?_
    refine cd_rowone (i := 1) rfl (fun hoU => ?_)
    refine cd_sr ?_
    refine ln_pv (pv_ldO (i := 0) rfl Tryd.underlying27 rfl (tiimpl_Tree).size rfl rfl) rfl ?_
    refine ln_storeW (i := 4) rfl rfl rfl rfl (tiimpl_Tree).size rfl (by simp [hoU]) ?_
    refine ln_cd ?_
    refine cd_ret ?_
    refine at_retC (i := 4) rfl rfl rfl Tryd.underlying27 rfl tiimpl_Tree.size rfl (fun w hS => ?_)
    have hRTs : RTs hS.fin [.mk 0 (y.at_ 0).s false [] [], .mk 0 (uuid (y.at_ 1).s) false [] [], .mk 0 [] (y.at_ 2).z ((els (y.at_ 2)).map (tlT F_sAlterPartitionResponseTopicPartition)) []] _ := ⟨[_, _, _, _, _], _, rfl, RT_str (RSv.mv hsS1 hS.trFin), ⟨[_, _, _, _, _], _, rfl, RT_uu (RSv.mv hcI1 hS.trFin), ⟨[_, _, _, _, _], _, rfl, RT_list hnil1_2 rfl (row_rs hS (j := 2) rfl (RTs.cells hIr_2)) (RTs.mv hIr_2 hS.trFin), rfl⟩⟩⟩
    refine ⟨_, rfl, RT.shut ⟨_, _, _, rfl, (show I64 0 from by unfold I64; omega), RS_nil 1, ⟨_, obj_rsS hS (i := 3) (sz := 5) (m := 3) rfl rfl (RTs.cells hRTs), hRTs⟩, ⟨csU, row_rs hS (j := 1) rfl (RUs.cells hRU).2, RUs.mv hS.trFin hRU⟩⟩⟩
theorem tclo_AlterPartitionResponse (b3 : Nat) (c0 c1 c2 c3 : Value) (us : Tags) (hk : ∀ y ∈ us, y.1 < 4294967296) (hl : ∀ y ∈ us, y.2.length ≤ 4398046511104) (hlen : us.length ≤ 1099511627776) : ∀ j (hj : j < us.length) (u : Vw) (z : Value × List Value × Nat) (tv : Value), Iv (TInv us) j u z → RSv u tv (us[j]'hj).2 → HF [TA b3 c0 c1 c2 c3 z, TB z] u.w → (∀ q ∈ blks [TA b3 c0 c1 c2 c3 z, TB z], u.av q) → (blks [TA b3 c0 c1 c2 c3 z, TB z]).Nodup → CH Tryd.prog 104 [.int .u32 ((us[j]'hj).1 : Int), tv, .pointer (some ⟨b3, 0, none⟩)] u [TA b3 c0 c1 c2 c3 z, TB z] fun u r E' => ∃ z', E' = [TA b3 c0 c1 c2 c3 z', TB z'] ∧ Iv (TInv us) (j + 1) u z' := by
  rintro j hj u ⟨vU, cs, k⟩ tv hz htv hok hav hnd
  obtain ⟨hk0, hR⟩ := hz.get
  dsimp only at hk0 hR
  subst hk0
  have hbl := hl _ (List.getElem_mem hj)
  obtain ⟨adV, cV, rfl, hleV⟩ := htv.shape
  refine ch_enter Tryd.func104 rfl Tryd.ntmps104 rfl hok hav hnd ?_
  refine cd_draw' [0] [0, 1, 2, 3, 5, 8] [0, 1, 2, 3, 4, 5, 6, 7, 8, 9] mixed (by kernel_rfl) ?_
  refine lo_pv rfl rfl (sk_js (Tr.refl _) [0] rfl) (pv_fieldAddr (off := 4) (r := 4) Tryd.underlying27 rfl (tiSl_impl_Tag).size rfl rfl rfl) rfl ?_
  refine lo_pv rfl rfl (sk_js (Tr.refl _) [0] rfl) (pv_ldo (i := 0) rfl Tryd.underlying25 rfl rfl rfl) rfl ?_
  refine lo_pv rfl rfl (sk_js (Tr.refl _) [0] rfl) (pv_move rfl) rfl ?_
  refine lo_pv rfl rfl (sk_js (Tr.refl _) [0] rfl) (pv_move rfl) rfl ?_
  refine lo_eff rfl rfl ?_
  refine ln_nilrow 5 1 ?_
  refine ln_append (i := 0) rfl Tryd.underlying22 tiuint8 rfl (by decide) rfl rfl (RS.src htv) (by simp only [maxLen]; omega) (by omega) rfl (k' := (us[k]'hj).2.length) (xs' := u8s (us[k]'hj).2) (by omega) (by simp) (fun vc hvc => ?_)
  refine ln_free1 (fun q h => by simpa using h) (fun s1 ht1 hK1 => ?_)
  have hcp : RSv s1 vc (us[k]'hj).2 := Known.rs hK1 (u8s_one _)
  clear hK1
  have htv := htv.mv ht1
  have hR := RUs.mv ht1 hR
  refine lo_back (sk_js ht1 [0] rfl) ?_
  refine lo_pv rfl rfl (sk_js ht1 [0] rfl) (pv_struct [(0, 1), (1, 1)] (l := [_, _]) rfl Tryd.underlying58 tiimpl_Tag (by kernel_rfl) rfl (by simp [okL, Nat.ble_eq, Value.cells, hvc.2])) rfl ?_
  refine lo_eff rfl rfl ?_
  refine ln_lit (vs := [_]) Tryd.underlying25 tiimpl_Tag rfl (by decide) rfl rfl rfl rfl rfl rfl (fun b1 => ?_)
  refine lo_back (sk_js ht1 [1] rfl) ?_
  refine lo_eff rfl rfl ?_
  refine ln_append (i := 2) rfl Tryd.underlying25 tiimpl_Tag rfl (by decide) rfl rfl (src_obj (j := 0) rfl rfl (by simp [flat, Value.cells, hvc.2])) (by first | omega | (simp only [maxLen]; omega)) (by first | omega | (simp only [maxLen]; omega)) rfl (k' := (k + 1)) (xs' := cs ++ [.int .u32 ((us[k]'hj).1 : Int), vc]) rfl (by simp [flat, Value.cells]) (fun v1 hv1 => ?_)
  refine lo_back (sk_js ht1 [1] rfl) ?_
  refine lo_pv rfl rfl (sk_js ht1 [1] rfl) (pv_fieldAddr (off := 4) (r := 4) Tryd.underlying27 rfl (tiSl_impl_Tag).size rfl rfl rfl) rfl ?_
  refine lo_eff rfl rfl ?_
  refine ln_store1 (i := 1) rfl rfl rfl hv1.2 (tiSl_impl_Tag).size rfl ?_
  refine lo_last (by kernel_rfl) ?_
  refine lo_nil ?_
  refine at_retH0 [TA b3 c0 c1 c2 c3 (v1, cs ++ [.int .u32 ((us[k]'hj).1 : Int), vc], k + 1), TB (v1, cs ++ [.int .u32 ((us[k]'hj).1 : Int), vc], k + 1)] (.cons _ (.cons_cons _ (.cons_cons _ .slnil))) rfl (fun w hS => ⟨(v1, cs ++ [.int .u32 ((us[k]'hj).1 : Int), vc], k + 1), rfl, fun w2 hw2 => ⟨rfl, ?_⟩⟩)
  rw [take_snoc' hj]
  have hq := (hS.trFinH _ _).trans hw2
  exact RUs.append (RUs.mv hq hR) (RUs.one_ (hk _ (List.getElem_mem hj)) (RSv.mv hcp hq))
theorem tlT_AlterPartitionResponse (y : Tre) : tlT F_AlterPartitionResponse y = .mk 0 [] false [.mk (IntKind.i32.wrap (y.at_ 0).n) [] false [] [], .mk (IntKind.i16.wrap (y.at_ 1).n) [] false [] [], .mk 0 [] (y.at_ 2).z ((els (y.at_ 2)).map (tlT F_sAlterPartitionResponseTopic)) []] y.u := rfl
set_option maxHeartbeats 2000000 in
theorem tell_AlterPartitionResponse (t : Vw) (b : Nat) (v : Int) (y : Tre) (cells : List Value) (hrc : RC t b 0 (.int .i16 v :: cells)) (hM : RMp t F_AlterPartitionResponse y cells) (htg : tgT F_AlterPartitionResponse y) : CA Tryd.prog 70 [.pointer (some ⟨b, 0, none⟩)] t fun u r => ∃ ds, r = .agg ds.toArray ∧ RT u (tlT F_AlterPartitionResponse y) ds := by
  rw [tlT_AlterPartitionResponse]
  obtain ⟨⟨hsrt, hkeys, hlens, hlen⟩, htl⟩ := htg
  simp only [F_AlterPartitionResponse, tgL] at htl
  obtain ⟨qg0, qg1, qg2, _⟩ := htl
  obtain ⟨fc1, mv1, hce1, hfl1, hTg1⟩ := hM
  simp only [F_AlterPartitionResponse, RMl] at hfl1
  obtain ⟨x1_0, z1_0, e1_0, g1_0, x1_1, z1_1, e1_1, g1_1, x1_2, z1_2, e1_2, g1_2, hend1⟩ := hfl1
  obtain rfl := RMf_i32.1 g1_0
  obtain rfl := RMf_i16.1 g1_1
  obtain ⟨_, rfl, Gg1_2⟩ := RMf_list.1 g1_2
  obtain ⟨ad1_2, cap1_2, rfl, hnil1_2, Hg1_2⟩ := Gg1_2.els
  subst hend1
  subst e1_2
  subst e1_1
  subst e1_0
  rw [hce1] at hrc
  simp only [List.cons_append, List.nil_append, List.append_assoc] at hrc
  have hLs_2 := LsF.of Hg1_2
  have hll_2 : (els (y.at_ 2)).length ≤ 32767 := (tgF_list.1 qg2).1
  obtain ⟨lt, hMK, hRK⟩ := hTg1
  have hrt : RC1 t b (0 + 4) mv1 := hrc.sub 4 (c1 := [_, _, _, _]) (c2 := [mv1]) (c3 := []) rfl rfl
  have hrc : RCx t b 0 _ _ := hrc
  refine ca_enter Tryd.func70 rfl Tryd.ntmps70 rfl ?_
  refine cd_sr ?_
  refine ln_alloc tiimpl_Tree rfl rfl (fun b1 => ?_)
  refine ln_cd ?_
  refine cd_sr ?_
  refine ln_makeN (m := 3) (l := [.int .i64 0, .slice none 0 0, .bool false, .slice none 0 0, .slice none 0 0, .int .i64 0, .slice none 0 0, .bool false, .slice none 0 0, .slice none 0 0, .int .i64 0, .slice none 0 0, .bool false, .slice none 0 0, .slice none 0 0]) Tryd.underlying24 tiimpl_Tree rfl rfl (by kernel_rfl) (by decide) (by decide) rfl (fun bL => ?_)
  refine ln_pv (pv_struct [(0, 1), (1, 1), (2, 1), (3, 1), (4, 1)] (l := [_, _, _, _, _]) rfl Tryd.underlying27 tiimpl_Tree (by kernel_rfl) rfl rfl) rfl ?_
  refine ln_alloc tiimpl_Tree rfl rfl (fun b2 => ?_)
  refine ln_storeW (i := 0) rfl rfl rfl rfl (tiimpl_Tree).size rfl (by simp []) ?_
  refine ln_cd ?_
  refine cd_dr' [0, 1, 2] [0, 1, 2, 3, 4, 5, 6, 7, 8] [0, 1, 2, 3, 4, 5, 6, 7, 8, 9] mixed (by kernel_rfl) ?_
  refine lo_pv rfl rfl (sk_js (Tr.refl _) [0, 1, 2] rfl) (pv_fieldAddr (off := 3) (r := 3) Tryd.underlying27 rfl (tiSl_impl_Tree).size rfl rfl rfl) rfl ?_
  refine lo_pv rfl rfl (sk_js (Tr.refl _) [0, 1, 2] rfl) (pv_ldo (i := 0) rfl Tryd.underlying24 rfl rfl rfl) rfl ?_
  refine lo_pv rfl rfl (sk_js (Tr.refl _) [0, 1, 2] rfl) (pv_move rfl) rfl ?_
  refine lo_pv rfl rfl (sk_js (Tr.refl _) [0, 1, 2] rfl) (pv_nilCheck rfl) rfl ?_
  refine lo_pv rfl rfl (sk_js (Tr.refl _) [0, 1, 2] rfl) (pv_fieldAddr (off := 1)  Tryd.underlying131 rfl (tiint32).size rfl rfl rfl) rfl ?_
  refine lo_pv rfl rfl (sk_js (Tr.refl _) [0, 1, 2] rfl) (pv_ldr (j := 1) hrc Tryd.underlying21 rfl rfl rfl) rfl ?_
  refine lo_pv rfl rfl (sk_js (Tr.refl _) [0, 1, 2] rfl) (pv_conv' Tryd.underlying21 Tryd.underlying2 rfl (w64_i32 _)) rfl ?_
  refine lo_pv rfl rfl (sk_js (Tr.refl _) [0, 1, 2] rfl) (pv_struct [(0, 1), (1, 1), (2, 1), (3, 1), (4, 1)] (l := [_, _, _, _, _]) rfl Tryd.underlying27 tiimpl_Tree (by kernel_rfl) rfl rfl) rfl ?_
  refine lo_pv rfl rfl (sk_js (Tr.refl _) [0, 1, 2] rfl) (pv_ixN (o := 0) (i := 0) Tryd.underlying24 (tiimpl_Tree).size rfl rfl (by decide)) rfl ?_
  refine lo_eff rfl rfl ?_
  refine ln_store (i := 1) (vs := [_, _, _, _, _]) rfl rfl rfl rfl (tiimpl_Tree).size rfl rfl rfl ?_
  refine lo_last (by kernel_rfl) ?_
  refine lo_cd ?_
  refine cd_dr' [0, 1, 2] [0, 1, 2, 3, 4, 5, 6, 7, 8] [0, 1, 2, 3, 4, 5, 6, 7, 8, 9] mixed (by kernel_rfl) ?_
  refine lo_pv rfl rfl (sk_js (Tr.refl _) [0, 1, 2] rfl) (pv_fieldAddr (off := 3) (r := 3) Tryd.underlying27 rfl (tiSl_impl_Tree).size rfl rfl rfl) rfl ?_
  refine lo_pv rfl rfl (sk_js (Tr.refl _) [0, 1, 2] rfl) (pv_ldo (i := 0) rfl Tryd.underlying24 rfl rfl rfl) rfl ?_
  refine lo_pv rfl rfl (sk_js (Tr.refl _) [0, 1, 2] rfl) (pv_move rfl) rfl ?_
  refine lo_pv rfl rfl (sk_js (Tr.refl _) [0, 1, 2] rfl) (pv_nilCheck rfl) rfl ?_
  refine lo_pv rfl rfl (sk_js (Tr.refl _) [0, 1, 2] rfl) (pv_fieldAddr (off := 2)  Tryd.underlying131 rfl (tiint16).size rfl rfl rfl) rfl ?_
  refine lo_pv rfl rfl (sk_js (Tr.refl _) [0, 1, 2] rfl) (pv_ldr (j := 2) hrc Tryd.underlying45 rfl rfl rfl) rfl ?_
  refine lo_pv rfl rfl (sk_js (Tr.refl _) [0, 1, 2] rfl) (pv_conv' Tryd.underlying45 Tryd.underlying2 rfl (w64_i16 _)) rfl ?_
  refine lo_pv rfl rfl (sk_js (Tr.refl _) [0, 1, 2] rfl) (pv_struct [(0, 1), (1, 1), (2, 1), (3, 1), (4, 1)] (l := [_, _, _, _, _]) rfl Tryd.underlying27 tiimpl_Tree (by kernel_rfl) rfl rfl) rfl ?_
  refine lo_pv rfl rfl (sk_js (Tr.refl _) [0, 1, 2] rfl) (pv_ixN (o := 0) (i := 1) Tryd.underlying24 (tiimpl_Tree).size rfl rfl (by decide)) rfl ?_
  refine lo_eff rfl rfl ?_
  refine ln_store (i := 1) (vs := [_, _, _, _, _]) rfl rfl rfl rfl (tiimpl_Tree).size rfl rfl rfl ?_
  refine lo_last (by kernel_rfl) ?_
  refine lo_cd ?_
  refine cd_dr' [0, 1, 2] [0, 1, 2, 3, 4, 5, 6, 8] [0, 1, 2, 3, 4, 5, 6, 7, 8, 9] mixed (by kernel_rfl) ?_
  refine lo_pv rfl rfl (sk_js (Tr.refl _) [0, 1, 2] rfl) (pv_fieldAddr (off := 3) (r := 3) Tryd.underlying27 rfl (tiSl_impl_Tree).size rfl rfl rfl) rfl ?_
  refine lo_pv rfl rfl (sk_js (Tr.refl _) [0, 1, 2] rfl) (pv_ldo (i := 0) rfl Tryd.underlying24 rfl rfl rfl) rfl ?_
  refine lo_pv rfl rfl (sk_js (Tr.refl _) [0, 1, 2] rfl) (pv_move rfl) rfl ?_
  refine lo_pv rfl rfl (sk_js (Tr.refl _) [0, 1, 2] rfl) (pv_nilCheck rfl) rfl ?_
  refine lo_pv rfl rfl (sk_js (Tr.refl _) [0, 1, 2] rfl) (pv_fieldAddr (off := 3)  Tryd.underlying131 rfl (tiSl_kmsg_AlterPartitionResponseTopic).size rfl rfl rfl) rfl ?_
  refine lo_pv rfl rfl (sk_js (Tr.refl _) [0, 1, 2] rfl) (pv_ldr (j := 3) hrc Tryd.underlying129 rfl rfl rfl) rfl ?_
  refine lo_pv rfl rfl (sk_js (Tr.refl _) [0, 1, 2] rfl) (pv_eqS Tryd.underlying129 rfl rfl) rfl ?_
  refine lo_eff rfl rfl ?_
  refine ln_pv (pv_ixN (o := 0) (i := 2) Tryd.underlying24 (tiimpl_Tree).size rfl rfl (by decide)) rfl ?_
  refine lo_back (sk_js (Tr.refl _) [0, 1, 2] rfl) ?_
  refine lo_pv rfl rfl (sk_js (Tr.refl _) [0, 1, 2] rfl) (pv_fieldAddr (off := 2) (r := 12) Tryd.underlying27 rfl (tibool).size rfl rfl rfl) rfl ?_
  refine lo_eff rfl rfl ?_
  refine ln_store1 (i := 1) rfl rfl rfl rfl (tibool).size rfl ?_
  refine lo_last (by kernel_rfl) ?_
  refine lo_cd ?_
  refine cd_seq ?_
  refine cd_nilrow 27 5 ?_
  refine cd_sr ?_
  refine ln_pv (pv_move rfl) rfl ?_
  refine ln_pv (pv_nilCheck rfl) rfl ?_
  refine ln_pv (pv_fieldAddr (off := 3)  Tryd.underlying131 rfl (tiSl_kmsg_AlterPartitionResponseTopic).size rfl rfl rfl) rfl ?_
  refine ln_pv (pv_ldr (j := 3) hrc Tryd.underlying129 rfl rfl rfl) rfl ?_
  refine ln_pv (pv_len_slice Tryd.underlying129 rfl) rfl ?_
  refine ln_pv (pv_move rfl) rfl ?_
  refine ln_cd ?_
  refine cd_block ?_
  refine cd_loop (⟨fun (z : Nat × List Value × Value) => [(0, .pointer (some ⟨b, 0, none⟩)), (2, .pointer (some ⟨b1, 0, none⟩)), (3, .pointer (some ⟨b2, 0, none⟩)), (38, .int .i64 ((els (y.at_ 2)).length : Int)), (39, .int .i64 ((z.1 : Nat) : Int))], fun (z : Nat × List Value × Value) => [.row z.2.2 27 5 ((els (y.at_ 2)).take z.1).length z.2.1, .obj b2 (.cells [.int .i64 0, .slice none 0 0, .bool false, .slice (some ⟨bL, 0, none⟩) 3 3, .slice none 0 0].toArray 27), .obj bL (.cells [.int .i64 (IntKind.i32.wrap (y.at_ 0).n), .slice none 0 0, .bool false, .slice none 0 0, .slice none 0 0, .int .i64 (IntKind.i16.wrap (y.at_ 1).n), .slice none 0 0, .bool false, .slice none 0 0, .slice none 0 0, .int .i64 0, .slice none 0 0, .bool ad1_2.isNone, z.2.2, .slice none 0 0].toArray 27), .obj b1 (.cells [.int .i64 0, .slice none 0 0, .bool false, .slice none 0 0, .slice none 0 0].toArray 27)], fun (z : Nat × List Value × Value) s => z.1 ≤ (els (y.at_ 2)).length ∧ RTs s (((els (y.at_ 2)).take z.1).map (tlT F_sAlterPartitionResponseTopic)) z.2.1, fun (z : Nat × List Value × Value) => (els (y.at_ 2)).length - z.1⟩ : Lp (Nat × List Value × Value)) (0, [], .slice none 0 0) ?_ ?_ ?_ ?_
  · intro s0 hs0
    exact ⟨Nat.zero_le _, rfl⟩
  · exact ⟨rfl, rfl, rfl, rfl, rfl,  trivial⟩
  · exact (.cons_cons _ (.cons_cons _ (.cons_cons _ (.cons_cons _ .slnil))))
  intro z s1 hl1 hI
  obtain ⟨i_2, ys_2, vv_2⟩ := z
  dsimp only at hI ⊢
  have hrc := hrc.mv hl1
  have hrt := hrt.mv hl1
  have hMK := hMK.mv hl1
  have hRK := hRK.mv hl1
  have hLs_2 := hLs_2.mv hl1
  obtain ⟨hI_2, hIr_2⟩ := hI
  refine cd_sr ?_
  refine ln_pv (pv_lss rfl rfl) rfl ?_
  refine ln_cd ?_
  refine cd_seq ?_
  refine cd_if rfl (fun hc1 => ?_) (fun hc1 => ?_)
  · -- yes
    refine cd_skip ?_
    refine at_cd ?_
    refine cd_seq ?_
    refine cd_block ?_
    have hi_2 : i_2 < (els (y.at_ 2)).length := by omega
    have hsl_2 : ((els (y.at_ 2)).take (i_2 + 1)).length = ((els (y.at_ 2)).take i_2).length + 1 := by simp only [List.length_take]; omega
    have hil_2 : ((els (y.at_ 2)).take i_2).length = i_2 := by rw [List.length_take]; omega
    obtain ⟨gE_2, oE_2, cE_2, hadE_2, hrce_2, hme_2⟩ := hLs_2.at_ hi_2 (show esl _ _ = 19 by kernel_rfl)
    subst hadE_2
    have hme_2 := RE_part hme_2
    have htge_2 : tgT F_sAlterPartitionResponseTopic (els (y.at_ 2))[i_2] := by have h := (tgF_list.1 qg2).2 _ (List.getElem_mem hi_2); rw [if_pos rfl] at h; exact h
    refine cd_sr ?_
    refine ln_pv (pv_move rfl) rfl ?_
    refine ln_pv (pv_assign rfl) rfl ?_
    refine ln_cd ?_
    refine cd_dr3 [1, 2, 3] [] [0] 1 2 [2, 3] [1, 3] mixed (by kernel_rfl) ?_
    refine lo_eff rfl rfl ?_
    refine ln_alloc tibool rfl rfl (fun b3 => ?_)
    refine lo_last (by kernel_rfl) ?_
    refine lo_nil (at_two ?_ ?_)
    · skip
      refine lo_eff rfl rfl ?_
      refine ln_store1 (i := 0) rfl rfl rfl rfl (tibool).size rfl ?_
      refine lo_last (by kernel_rfl) ?_
      refine lo_eff rfl rfl ?_
      refine ln_store1 (i := 0) rfl rfl rfl rfl (tibool).size rfl ?_
      refine lo_last (by kernel_rfl) ?_
      refine lo_eff rfl rfl ?_
      refine ln_pv (pv_ldo (i := 0) rfl Tryd.underlying4 rfl rfl rfl) rfl ?_
      refine lo_last (by kernel_rfl) ?_
      refine lo_cd ?_
      refine cd_ff rfl ?_
      refine cd_draw' [0, 2, 3, 4] [0, 1, 2, 3, 4, 5, 6, 7, 8, 9, 10, 11, 12, 17] [0, 1, 2, 3, 4, 5, 6, 7, 8, 9, 10, 11, 12, 13, 14, 15, 16, 17, 18] mixed (by kernel_rfl) ?_
      refine lo_pv rfl rfl (sk_js (Tr.refl _) [0, 2, 3, 4] rfl) (pv_fieldAddr (off := 3) (r := 3) Tryd.underlying27 rfl (tiSl_impl_Tree).size rfl rfl rfl) rfl ?_
      refine lo_pv rfl rfl (sk_js (Tr.refl _) [0, 2, 3, 4] rfl) (pv_ldo (i := 1) rfl Tryd.underlying24 rfl rfl rfl) rfl ?_
      refine lo_pv rfl rfl (sk_js (Tr.refl _) [0, 2, 3, 4] rfl) (pv_fieldAddr (off := 3) (r := 3) Tryd.underlying27 rfl (tiSl_impl_Tree).size rfl rfl rfl) rfl ?_
      refine lo_pv rfl rfl (sk_js (Tr.refl _) [0, 2, 3, 4] rfl) (pv_ldo (i := 1) rfl Tryd.underlying24 rfl rfl rfl) rfl ?_
      refine lo_pv rfl rfl (sk_js (Tr.refl _) [0, 2, 3, 4] rfl) (pv_ixN (o := 0) (i := 2) Tryd.underlying24 (tiimpl_Tree).size rfl rfl (by decide)) rfl ?_
      refine lo_pv rfl rfl (sk_js (Tr.refl _) [0, 2, 3, 4] rfl) (pv_fieldAddr (off := 3) (r := 13) Tryd.underlying27 rfl (tiSl_impl_Tree).size rfl rfl rfl) rfl ?_
      refine lo_pv rfl rfl (sk_js (Tr.refl _) [0, 2, 3, 4] rfl) (pv_ldo (i := 2) rfl Tryd.underlying24 rfl rfl rfl) rfl ?_
      refine lo_pv rfl rfl (sk_js (Tr.refl _) [0, 2, 3, 4] rfl) (pv_move rfl) rfl ?_
      refine lo_pv rfl rfl (sk_js (Tr.refl _) [0, 2, 3, 4] rfl) (pv_nilCheck rfl) rfl ?_
      refine lo_pv rfl rfl (sk_js (Tr.refl _) [0, 2, 3, 4] rfl) (pv_fieldAddr (off := 3)  Tryd.underlying131 rfl (tiSl_kmsg_AlterPartitionResponseTopic).size rfl rfl rfl) rfl ?_
      refine lo_pv rfl rfl (sk_js (Tr.refl _) [0, 2, 3, 4] rfl) (pv_ldr (j := 3) hrc Tryd.underlying129 rfl rfl rfl) rfl ?_
      refine lo_pv rfl rfl (sk_js (Tr.refl _) [0, 2, 3, 4] rfl) (pv_move rfl) rfl ?_
      refine lo_pv rfl rfl (sk_js (Tr.refl _) [0, 2, 3, 4] rfl) (pv_ixN Tryd.underlying129 (tipub_kmsg_AlterPartitionResponseTopic).size rfl rfl hi_2) rfl ?_
      refine lo_eff rfl rfl ?_
      refine ln_callA en_103 rfl (fun u hu => tell_AlterPartitionResponseTopic u gE_2 (oE_2 + i_2 * 19) (els (y.at_ 2))[i_2] cE_2 (hrce_2.mv hu).2 (RMp.mv hme_2 hu) htge_2) rfl (fun u1 v1 ht1 hR1 => ?_)
      have hrc := hrc.mv ht1
      have hrt := hrt.mv ht1
      have hMK := hMK.mv ht1
      have hRK := hRK.mv ht1
      have hLs_2 := hLs_2.mv ht1
      have hIr_2 := hIr_2.mv ht1
      have hrce_2 := hrce_2.mv ht1
      have hme_2 := hme_2.mv ht1
      obtain ⟨dsF2, rfl, hdF2⟩ := hR1
      refine lo_back (sk_js ht1 [0, 2, 3, 4] rfl) ?_
      refine lo_eff rfl rfl ?_
      refine ln_lit (vs := [_]) Tryd.underlying24 tiimpl_Tree rfl (by decide) rfl rfl rfl (by simp [partsOk, Value.cells, hdF2.len]; try exact .inl rfl) rfl rfl (fun b4 => ?_)
      refine lo_back (sk_js ht1 [1, 3, 4, 5] rfl) ?_
      refine lo_eff rfl rfl ?_
      refine ln_append (i := 2) rfl Tryd.underlying24 tiimpl_Tree rfl (by decide) rfl rfl (src_obj (j := 0) rfl (by simp [flat, Value.cells, hdF2.len]) (List.all_eq_true.2 (by simpa [flat, Value.cells] using hdF2.cells))) (by rw [hil_2]; first | omega | (simp only [maxLen]; omega)) (by rw [hil_2]; first | omega | (simp only [maxLen]; omega)) rfl (k' := ((els (y.at_ 2)).take (i_2 + 1)).length) (xs' := ys_2 ++ dsF2) hsl_2.symm (by simp [flat, Value.cells]) (fun v2 hv2 => ?_)
      refine lo_back (sk_js ht1 [1, 3, 4, 5] rfl) ?_
      refine lo_eff rfl rfl ?_
      refine ln_pv (pv_ixN (o := 0) (i := 2) Tryd.underlying24 (tiimpl_Tree).size rfl rfl (by decide)) rfl ?_
      refine lo_back (sk_js ht1 [1, 3, 4, 5] rfl) ?_
      refine lo_pv rfl rfl (sk_js ht1 [1, 3, 4, 5] rfl) (pv_fieldAddr (off := 3) (r := 13) Tryd.underlying27 rfl (tiSl_impl_Tree).size rfl rfl rfl) rfl ?_
      refine lo_eff rfl rfl ?_
      refine ln_store1 (i := 4) rfl rfl rfl hv2.2 (tiSl_impl_Tree).size rfl ?_
      refine lo_last (by kernel_rfl) ?_
      refine lo_nil ?_
      refine at_cd ?_
      refine cd_region ?_
      refine ln_pv (pv_add' rfl rfl (wrap_succ (by omega))) rfl ?_
      refine ln_pv (pv_move rfl) rfl ?_
      refine ln_nil ?_
      refine at_rnd (i_2 + 1, ys_2 ++ dsF2, v2) (hl1.trans ht1) ?_ ?_ ⟨rfl, rfl, rfl, rfl, rfl,  trivial⟩ (.cons _ (.cons _ (.cons_cons _ (.cons_cons _ (.cons_cons _ (.cons_cons _ .slnil))))))
      · intro s9 hs9
        exact ⟨by dsimp only; omega, RTs_snoc hi_2 (RTs.mv hIr_2 hs9) (RT.mv hdF2 hs9)⟩
      · dsimp only; omega
    · skip
      refine lo_eff rfl rfl ?_
      refine ln_store1 (i := 0) rfl rfl rfl rfl (tibool).size rfl ?_
      refine lo_last (by kernel_rfl) ?_
      refine lo_eff rfl rfl ?_
      refine ln_store1 (i := 0) rfl rfl rfl rfl (tibool).size rfl ?_
      refine lo_last (by kernel_rfl) ?_
      refine lo_eff rfl rfl ?_
      refine ln_pv (pv_ldo (i := 0) rfl Tryd.underlying4 rfl rfl rfl) rfl ?_
      refine lo_last (by kernel_rfl) ?_
      refine lo_cd ?_
      refine cd_tt rfl ?_
      refine cd_rowshape (i := 1) rfl (fun adR_2 cpR_2 hvR_2 hleR_2 hposR_2 => ?_)
      subst hvR_2
      refine cd_dr2 [0, 2, 3, 4] [0, 1, 2, 3, 4, 5, 6, 7, 8, 9, 10, 12, 16] [0, 1, 2, 3, 4, 5, 6, 7, 8, 9, 10, 12] 11 13 [13, 14, 15, 16, 17] [11, 14, 15, 16, 17] mixed (by kernel_rfl) ?_
      refine lo_pv rfl rfl (sk_js (Tr.refl _) [0, 2, 3, 4] rfl) (pv_fieldAddr (off := 3) (r := 3) Tryd.underlying27 rfl (tiSl_impl_Tree).size rfl rfl rfl) rfl ?_
      refine lo_pv rfl rfl (sk_js (Tr.refl _) [0, 2, 3, 4] rfl) (pv_ldo (i := 1) rfl Tryd.underlying24 rfl rfl rfl) rfl ?_
      refine lo_pv rfl rfl (sk_js (Tr.refl _) [0, 2, 3, 4] rfl) (pv_ixN (o := 0) (i := 2) Tryd.underlying24 (tiimpl_Tree).size rfl rfl (by decide)) rfl ?_
      refine lo_pv rfl rfl (sk_js (Tr.refl _) [0, 2, 3, 4] rfl) (pv_fieldAddr (off := 3) (r := 13) Tryd.underlying27 rfl (tiSl_impl_Tree).size rfl rfl rfl) rfl ?_
      refine lo_pv rfl rfl (sk_js (Tr.refl _) [0, 2, 3, 4] rfl) (pv_ldo (i := 2) rfl Tryd.underlying24 rfl rfl rfl) rfl ?_
      refine lo_pv rfl rfl (sk_js (Tr.refl _) [0, 2, 3, 4] rfl) (pv_move rfl) rfl ?_
      refine lo_pv rfl rfl (sk_js (Tr.refl _) [0, 2, 3, 4] rfl) (pv_nilCheck rfl) rfl ?_
      refine lo_pv rfl rfl (sk_js (Tr.refl _) [0, 2, 3, 4] rfl) (pv_fieldAddr (off := 3)  Tryd.underlying131 rfl (tiSl_kmsg_AlterPartitionResponseTopic).size rfl rfl rfl) rfl ?_
      refine lo_pv rfl rfl (sk_js (Tr.refl _) [0, 2, 3, 4] rfl) (pv_ldr (j := 3) hrc Tryd.underlying129 rfl rfl rfl) rfl ?_
      refine lo_pv rfl rfl (sk_js (Tr.refl _) [0, 2, 3, 4] rfl) (pv_move rfl) rfl ?_
      refine lo_pv rfl rfl (sk_js (Tr.refl _) [0, 2, 3, 4] rfl) (pv_ixN Tryd.underlying129 (tipub_kmsg_AlterPartitionResponseTopic).size rfl rfl hi_2) rfl ?_
      refine lo_pv rfl rfl (sk_js (Tr.refl _) [0, 2, 3, 4] rfl) (pv_len_slice Tryd.underlying24 rfl) rfl ?_
      refine lo_nil (at_two ?_ ?_)
      · skip
        refine lo_eff rfl rfl ?_
        refine ln_callA en_103 rfl (fun u hu => tell_AlterPartitionResponseTopic u gE_2 (oE_2 + i_2 * 19) (els (y.at_ 2))[i_2] cE_2 (hrce_2.mv hu).2 (RMp.mv hme_2 hu) htge_2) rfl (fun u3 v3 ht3 hR3 => ?_)
        have hrc := hrc.mv ht3
        have hrt := hrt.mv ht3
        have hMK := hMK.mv ht3
        have hRK := hRK.mv ht3
        have hLs_2 := hLs_2.mv ht3
        have hIr_2 := hIr_2.mv ht3
        have hrce_2 := hrce_2.mv ht3
        have hme_2 := hme_2.mv ht3
        obtain ⟨dsF2, rfl, hdF2⟩ := hR3
        refine lo_back (sk_js ht3 [0, 2, 3, 4] rfl) ?_
        refine lo_eff rfl rfl ?_
        refine ln_lit (vs := [_]) Tryd.underlying24 tiimpl_Tree rfl (by decide) rfl rfl rfl rfl rfl rfl (fun b5 => ?_)
        refine lo_back (sk_js ht3 [1, 3, 4, 5] rfl) ?_
        refine lo_eff rfl rfl ?_
        refine ln_append (i := 2) rfl Tryd.underlying24 tiimpl_Tree rfl (by decide) rfl rfl (src_obj (j := 0) rfl rfl rfl) (by rw [hil_2]; first | omega | (simp only [maxLen]; omega)) (by rw [hil_2]; first | omega | (simp only [maxLen]; omega)) rfl (k' := ((els (y.at_ 2)).take (i_2 + 1)).length) (xs' := ys_2 ++ [.int .i64 0, .slice none 0 0, .bool false, .slice none 0 0, .slice none 0 0]) hsl_2.symm (by simp [flat, Value.cells]) (fun v4 hv4 => ?_)
        refine lo_back (sk_js ht3 [1, 3, 4, 5] rfl) ?_
        refine lo_eff rfl rfl ?_
        refine ln_pv (pv_ixN (o := 0) (i := 2) Tryd.underlying24 (tiimpl_Tree).size rfl rfl (by decide)) rfl ?_
        refine lo_back (sk_js ht3 [1, 3, 4, 5] rfl) ?_
        refine lo_pv rfl rfl (sk_js ht3 [1, 3, 4, 5] rfl) (pv_fieldAddr (off := 3) (r := 13) Tryd.underlying27 rfl (tiSl_impl_Tree).size rfl rfl rfl) rfl ?_
        refine lo_eff rfl rfl ?_
        refine ln_store1 (i := 4) rfl rfl rfl hv4.2 (tiSl_impl_Tree).size rfl ?_
        refine lo_last (by kernel_rfl) ?_
        refine lo_cd ?_
        refine cd_region ?_
        refine ln_rowshp (i := 2) rfl (fun ad2_2 cp2_2 hv2_2 hle2_2 hpos2_2 => ?_)
        subst hv2_2
        obtain ⟨g2_2, rfl⟩ := hpos2_2 (by omega)
        refine ln_pv (pv_ixN Tryd.underlying24 tiimpl_Tree.size rfl rfl (by omega)) rfl ?_
        refine ln_storeR (i := 2) (vs := dsF2) (xs' := ys_2 ++ dsF2) rfl rfl rfl rfl (by rw [show List.length _ = 5 from hdF2.len]; exact tiimpl_Tree.size) (by have h5 : List.length (dsF2) = 5 := hdF2.len; omega) hdF2.cells (wr_end (show 5 = List.length _ from Eq.symm hdF2.len) (by have h6 := (RTs.len5 hIr_2); simp only [List.length_map] at h6; omega)) ?_
        refine ln_nil ?_
        refine at_cd ?_
        refine cd_region ?_
        refine ln_pv (pv_add' rfl rfl (wrap_succ (by omega))) rfl ?_
        refine ln_pv (pv_move rfl) rfl ?_
        refine ln_nil ?_
        refine at_rnd (i_2 + 1, ys_2 ++ dsF2, (.slice (some ⟨g2_2, 0, none⟩) ((els (y.at_ 2)).take (i_2 + 1)).length cp2_2)) (hl1.trans ht3) ?_ ?_ ⟨rfl, rfl, rfl, rfl, rfl,  trivial⟩ (.cons _ (.cons _ (.cons_cons _ (.cons_cons _ (.cons_cons _ (.cons_cons _ .slnil))))))
        · intro s9 hs9
          exact ⟨by dsimp only; omega, RTs_snoc hi_2 (RTs.mv hIr_2 hs9) (RT.mv hdF2 hs9)⟩
        · dsimp only; omega
      · skip
        refine lo_eff rfl rfl ?_
        refine ln_lit (vs := [_]) Tryd.underlying24 tiimpl_Tree rfl (by decide) rfl rfl rfl rfl rfl rfl (fun b6 => ?_)
        refine lo_back (sk_js (Tr.refl _) [1, 3, 4, 5] rfl) ?_
        refine lo_eff rfl rfl ?_
        refine ln_callA en_103 rfl (fun u hu => tell_AlterPartitionResponseTopic u gE_2 (oE_2 + i_2 * 19) (els (y.at_ 2))[i_2] cE_2 (hrce_2.mv hu).2 (RMp.mv hme_2 hu) htge_2) rfl (fun u6 v6 ht6 hR6 => ?_)
        have hrc := hrc.mv ht6
        have hrt := hrt.mv ht6
        have hMK := hMK.mv ht6
        have hRK := hRK.mv ht6
        have hLs_2 := hLs_2.mv ht6
        have hIr_2 := hIr_2.mv ht6
        have hrce_2 := hrce_2.mv ht6
        have hme_2 := hme_2.mv ht6
        obtain ⟨dsF2, rfl, hdF2⟩ := hR6
        refine lo_back (sk_js ht6 [1, 3, 4, 5] rfl) ?_
        refine lo_eff rfl rfl ?_
        refine ln_append (i := 2) rfl Tryd.underlying24 tiimpl_Tree rfl (by decide) rfl rfl (src_obj (j := 0) rfl rfl rfl) (by rw [hil_2]; first | omega | (simp only [maxLen]; omega)) (by rw [hil_2]; first | omega | (simp only [maxLen]; omega)) rfl (k' := ((els (y.at_ 2)).take (i_2 + 1)).length) (xs' := ys_2 ++ [.int .i64 0, .slice none 0 0, .bool false, .slice none 0 0, .slice none 0 0]) hsl_2.symm (by simp [flat, Value.cells]) (fun v7 hv7 => ?_)
        refine lo_back (sk_js ht6 [1, 3, 4, 5] rfl) ?_
        refine lo_eff rfl rfl ?_
        refine ln_pv (pv_ixN (o := 0) (i := 2) Tryd.underlying24 (tiimpl_Tree).size rfl rfl (by decide)) rfl ?_
        refine lo_back (sk_js ht6 [1, 3, 4, 5] rfl) ?_
        refine lo_pv rfl rfl (sk_js ht6 [1, 3, 4, 5] rfl) (pv_fieldAddr (off := 3) (r := 13) Tryd.underlying27 rfl (tiSl_impl_Tree).size rfl rfl rfl) rfl ?_
        refine lo_eff rfl rfl ?_
        refine ln_store1 (i := 4) rfl rfl rfl hv7.2 (tiSl_impl_Tree).size rfl ?_
        refine lo_last (by kernel_rfl) ?_
        refine lo_cd ?_
        refine cd_region ?_
        refine ln_rowshp (i := 2) rfl (fun ad2_2 cp2_2 hv2_2 hle2_2 hpos2_2 => ?_)
        subst hv2_2
        obtain ⟨g2_2, rfl⟩ := hpos2_2 (by omega)
        refine ln_pv (pv_ixN Tryd.underlying24 tiimpl_Tree.size rfl rfl (by omega)) rfl ?_
        refine ln_storeR (i := 2) (vs := dsF2) (xs' := ys_2 ++ dsF2) rfl rfl rfl rfl (by rw [show List.length _ = 5 from hdF2.len]; exact tiimpl_Tree.size) (by have h5 : List.length (dsF2) = 5 := hdF2.len; omega) hdF2.cells (wr_end (show 5 = List.length _ from Eq.symm hdF2.len) (by have h6 := (RTs.len5 hIr_2); simp only [List.length_map] at h6; omega)) ?_
        refine ln_nil ?_
        refine at_cd ?_
        refine cd_region ?_
        refine ln_pv (pv_add' rfl rfl (wrap_succ (by omega))) rfl ?_
        refine ln_pv (pv_move rfl) rfl ?_
        refine ln_nil ?_
        refine at_rnd (i_2 + 1, ys_2 ++ dsF2, (.slice (some ⟨g2_2, 0, none⟩) ((els (y.at_ 2)).take (i_2 + 1)).length cp2_2)) (hl1.trans ht6) ?_ ?_ ⟨rfl, rfl, rfl, rfl, rfl,  trivial⟩ (.cons _ (.cons _ (.cons_cons _ (.cons_cons _ (.cons_cons _ (.cons_cons _ .slnil))))))
        · intro s9 hs9
          exact ⟨by dsimp only; omega, RTs_snoc hi_2 (RTs.mv hIr_2 hs9) (RT.mv hdF2 hs9)⟩
        · dsimp only; omega
  · -- no
    refine cd_exit rfl ?_
    refine at_cd ?_
    have hq_2 : i_2 = (els (y.at_ 2)).length := by omega
    subst hq_2
    rw [List.take_length] at hIr_2
    refine cd_row (i := 0) (m' := ((els (y.at_ 2)).map (tlT F_sAlterPartitionResponseTopic)).length) (xs' := ys_2) rfl (by simp) rfl ?_
    refine cd_sr ?_
    refine ln_pv (pv_move rfl) rfl ?_
    refine ln_pv (pv_nilCheck rfl) rfl ?_
    refine ln_pv (pv_fieldAddr (off := 4)  Tryd.underlying131 rfl (tipub_kmsg_Tags).size rfl rfl rfl) rfl ?_
    refine ln_pv (pv_makeFunc (vf := #[]) (vc := #[.pointer (some ⟨b2, 0, none⟩)]) (by rw [List.map_toArray, List.map_toArray]; rfl) (by rw [List.map_toArray, List.map_toArray]; rfl)) rfl ?_
    refine ln_nilrow 58 2 ?_
    have hst := tclo_AlterPartitionResponse b2 (.int .i64 0) (.slice none 0 0) (.bool false) (.slice (some ⟨bL, 0, none⟩) 3 3) y.u hkeys hlens (Nat.le_of_lt hlen)
    have hEa := fun (u : Vw) hr hm hk h0 hok hav hnd => tags_EachG (fun z => TA b2 (.int .i64 0) (.slice none 0 0) (.bool false) (.slice (some ⟨bL, 0, none⟩) 3 3) z) TB (TInv y.u) 104 (.pointer (some ⟨b2, 0, none⟩)) en_104 u b (0 + 4) mv1 lt y.u (.slice none 0 0, [], 0) hr hm hk hsrt (by omega) h0 hst hok hav hnd
    refine ln_callH (E := [TA b2 (.int .i64 0) (.slice none 0 0) (.bool false) (.slice (some ⟨bL, 0, none⟩) 3 3) (.slice none 0 0, [], 0), TB (.slice none 0 0, [], 0)]) (H0 := [_, _, _]) (List.perm_middle (l₁ := [_, _])) en_82 rfl (fun u hu hok hav hnd => hEa u (RC1.mv hrt hu) (hMK.mv hu) (RKp.mv hu hRK) (fun w hw => ⟨rfl, by rw [List.take_zero]; rfl⟩) hok hav hnd) rfl ?_
    rintro u9 v9 _ ht9 ⟨xu9, ⟨⟨vU, csU, kU⟩, rfl, hzU⟩, hxu9⟩
    obtain ⟨hkU, hRU⟩ := (hzU.mv hxu9).get
    dsimp only at hkU hRU
    subst hkU
    rw [List.take_length] at hRU
    have hrc := hrc.mv ht9
    have hrt := hrt.mv ht9
    have hMK := hMK.mv ht9
    have hRK := hRK.mv ht9
    have hLs_2 := hLs_2.mv ht9
    have hIr_2 := hIr_2.mv ht9
    refine ln_cd ?_
    refine cd_sr ?_
    refine ln_pv (pv_fieldAddr (off := 4) (r := 4) Tryd.underlying27 rfl (tiSl_impl_Tag).size rfl rfl rfl) rfl ?_
    refine ln_pv (pv_ldo (i := 0) rfl Tryd.underlying25 rfl rfl rfl) rfl ?_
    refine ln_callT (i := 1) en_84 rfl rfl (fun u hu hok hav => impl_sorted u vU y.u csU hsrt (by omega) (RUs.cells hRU).1 (fun i hi => by obtain ⟨c1, tv, c3, he, hc, _, _⟩ := RUs.at_ hi hRU; rw [he, List.append_assoc, List.getElem?_append_right (by omega), hc]; simp) hok hav) rfl ?_
    rintro u10 v10 _ ht10 ⟨_, rfl, _⟩
    have hrc := hrc.mv ht10
    have hrt := hrt.mv ht10
    have hMK := hMK.mv ht10
    have hRK := hRK.mv ht10
    have hLs_2 := hLs_2.mv ht10
    have hIr_2 := hIr_2.mv ht10
    have hRU := hRU.mv ht10
    refine ln_cd ?_
    refine cd_rowone (i := 1) rfl (fun hoU => ?_)
    refine cd_sr ?_
    refine ln_pv (pv_ldO (i := 0) rfl Tryd.underlying27 rfl (tiimpl_Tree).size rfl rfl) rfl ?_
    refine ln_storeW (i := 4) rfl rfl rfl rfl (tiimpl_Tree).size rfl (by simp [hoU]) ?_
    refine ln_cd ?_
    refine cd_ret ?_
    refine at_retC (i := 4) rfl rfl rfl Tryd.underlying27 rfl tiimpl_Tree.size rfl (fun w hS => ?_)
    have hRTs : RTs hS.fin [.mk (IntKind.i32.wrap (y.at_ 0).n) [] false [] [], .mk (IntKind.i16.wrap (y.at_ 1).n) [] false [] [], .mk 0 [] (y.at_ 2).z ((els (y.at_ 2)).map (tlT F_sAlterPartitionResponseTopic)) []] _ := ⟨[.int .i64 (IntKind.i32.wrap (y.at_ 0).n), .slice none 0 0, .bool false, .slice none 0 0, .slice none 0 0], _, rfl, RT_num (I64_i32 _), ⟨[.int .i64 (IntKind.i16.wrap (y.at_ 1).n), .slice none 0 0, .bool false, .slice none 0 0, .slice none 0 0], _, rfl, RT_num (I64_i16 _), ⟨[_, _, _, _, _], _, rfl, RT_list hnil1_2 rfl (row_rs hS (j := 2) rfl (RTs.cells hIr_2)) (RTs.mv hIr_2 hS.trFin), rfl⟩⟩⟩
    refine ⟨_, rfl, RT.shut ⟨_, _, _, rfl, (show I64 0 from by unfold I64; omega), RS_nil 1, ⟨_, obj_rsS hS (i := 3) (sz := 5) (m := 3) rfl rfl (RTs.cells hRTs), hRTs⟩, ⟨csU, row_rs hS (j := 1) rfl (RUs.cells hRU).2, RUs.mv hS.trFin hRU⟩⟩⟩
end K
end Go.Proofs.YtjjfpdofkdolnaaDoor
