import Derived.Test.YtkcdocdldebeoaaGreatDoorRA8
import Derived.Test.YtkcdocdldebeoaaGreatDoorRMas
set_option linter.unusedVariables false
set_option linter.unusedSimpArgs false
namespace Go.Proofs.YtkcdocdldebeoaaGreatDoorR
namespace K
open Go Go.Lib
theorem append_WriteShareGroupStateRequest (t : Vw) (b : Nat) (v : Int) (y : Tre) (cells : List Value) (vd : Value) (L0 : List UInt8) (hrc : RC t b 0 (.int .i16 v :: cells)) (hM : RMp t F_WriteShareGroupStateRequest y cells) (hfit : okP F_WriteShareGroupStateRequest v (flexB 0 v) y) (h0 : 0 ≤ v) (h1 : v ≤ 1) (hB : (L0 ++ partB F_WriteShareGroupStateRequest v (flexB 0 v) y).length ≤ 4398046511104) (hok : (OctRow vd L0).ok t.w) (hav : ∀ q ∈ (OctRow vd L0).blk, t.av q) : CT Tryz.prog 88 [.pointer (some ⟨b, 0, none⟩), vd] t (OctRow vd L0) fun _ r e' => e' = OctRow r (L0 ++ partB F_WriteShareGroupStateRequest v (flexB 0 v) y) ∧ r.oneCell' = true := by
  have hv0 := h0
  clear h0
  obtain ⟨fc1, mv1, hce1, hfl1, hTg1⟩ := hM
  simp only [F_WriteShareGroupStateRequest, RMl] at hfl1
  obtain ⟨x1_0, z1_0, e1_0, g1_0, x1_1, z1_1, e1_1, g1_1, hend1⟩ := hfl1
  obtain rfl := (RMf_str (by decide)).1 g1_0
  obtain ⟨_, rfl, Gg1_1⟩ := RMf_list.1 g1_1
  obtain ⟨ad1_1, cap1_1, rfl, hnil1_1, Hg1_1⟩ := Gg1_1.els
  subst hend1
  subst e1_1
  subst e1_0
  rw [hce1] at hrc
  simp only [List.cons_append, List.nil_append, List.append_assoc] at hrc
  obtain ⟨hfl, hfu⟩ := hfit
  obtain ⟨k2, hfl⟩ := okFl_cons hfl
  obtain ⟨k3, hfl⟩ := okFl_cons hfl
  have hq0 : decide (v ≥ 0) = flexB 0 v := by simp [flexB]
  obtain ⟨Full, hFull⟩ : ∃ F : List UInt8, L0 ++ partB F_WriteShareGroupStateRequest v (flexB 0 v) y = F := ⟨_, rfl⟩
  rw [hFull] at hB ⊢
  have hE : L0 ++ (partB F_WriteShareGroupStateRequest v (flexB 0 v) y ++ []) = Full := by rw [List.append_nil]; exact hFull
  clear hFull
  generalize flexB 0 v = q at *
  have hE := pt_open (by decide) hfu hE
  refine ct_enter Tryz.func88 rfl Tryz.ntmps88 rfl hok hav (by simp only [Ent.blk]; cases vd.ownBlock <;> simp) ?_
  generalize L0 = Lc at *
  have h0 : Tr t t := Tr.refl t
  refine cd_sub_ (L' := [(1, vd), (0, .pointer (some ⟨b, 0, none⟩))]) (.put rfl (.put rfl .nil)) ?_
  refine cd_sq ?_
  refine ap_const rfl ?_
  refine at_sub (.skip rfl .rfl') ?_
  refine at_cd ?_
  refine cd_sq ?_
  refine ap_load0 rfl Tryz.underlying165 rfl tiint16.size rfl Tryz.underlying49 rfl (hrc.mv h0 (by simp)) rfl rfl ?_
  refine at_sub (.swap rfl) ?_
  refine at_cd ?_
  refine cd_sq ?_
  refine ap_blank rfl rfl ?_
  refine at_cd ?_
  refine cd_sq ?_
  refine ap_geqF rfl hq0 rfl ?_
  refine at_sub (.swap rfl) ?_
  refine at_cd ?_
  refine cd_sq ?_
  refine ap_blank rfl rfl ?_
  refine at_cd ?_
  refine cd_sq ?_
  have hE := pl_all (by decide) (hasB_all hv0) hE
  have hkk := okV_get k2 (by decide) (hasB_all hv0)
  refine cd_sq ?_
  refine ap_load (off := 1) rfl Tryz.underlying165 rfl tistring.size rfl Tryz.underlying9 rfl (hrc.mv h0 (by simp)) rfl rfl ?_
  refine at_cd ?_
  refine ap_flex rfl en_112 en_113 rfl rfl rfl rfl (fun hq u hu => by subst hq; rw [fieldB_s0 (by decide) (by decide) (by decide)]; exact as_cstr u _ (okV_s (by decide) (by decide) hkk (.inl rfl)).1) (fun hq u hu => by subst hq; rw [fieldB_s0 (by decide) (by decide) (by decide)]; exact as_str u _ (okV_s (by decide) (by decide) hkk (.inl rfl)).1) hE hB (fun u vd Lc ht4 hE => ?_)
  have h0 := h0.trans ht4
  refine at_sub (.cons (.skip rfl (.cons (.cons (.cons .rfl'))))) ?_
  refine at_cd ?_
  refine cd_sq ?_
  have hE := pl_all (by decide) (hasB_all hv0) hE
  have hkk := okV_get k3 (by decide) (hasB_all hv0)
  refine cd_sq ?_
  refine ap_load (off := 2) rfl Tryz.underlying165 rfl tiSl_kmsg_WriteShareGroupStateRequestTopic.size rfl Tryz.underlying163 rfl (hrc.mv h0 (by simp)) rfl rfl ?_
  refine at_cd ?_
  obtain ⟨hll, hlz, hle⟩ := okV_l hkk
  have hE := ls_open (by decide) hll hlz hE
  have hel := els_len hll
  refine cd_sq ?_
  refine ap_flexL (T' := 0) rfl en_124 en_125 Tryz.underlying163 rfl rfl rfl rfl (fun hq u hu => by subst hq; exact al_c u _ hel) (fun hq u hu => by subst hq; exact al_n u _ hel) hE hB (fun u vd Lc ht5 hE => ?_)
  have h0 := h0.trans ht5
  refine at_cd ?_
  refine ap_range (Tl := fun i => ((els (y.at_ 1)).drop i).flatMap (valueB 10 F_sWriteShareGroupStateRequestTopic false v q)) Tryz.underlying163 rfl (by omega) rfl hE (fun i8 u vd Lc N' X' hi9 hu7 hE kb => ?_) (fun u vd Lc ht6 hE => ?_)
  · skip
    have h0 := h0.trans hu7
    have hE := ls_step hi9 hE
    rcases Hg1_1 with hm0 | ⟨gg, oo, lc, rfl, hgc, hgl, hge⟩
    · omega
    have hy := hge i8 hi9
    have hyr := seg_rc hgc hgl hi9
    have hkk := hle i8 hi9
    refine cd_sq ?_
    refine ap_copy rfl rfl ?_
    refine at_cd ?_
    refine cd_sq ?_
    refine ap_idx (ez := 18) rfl Tryz.underlying163 tipub_kmsg_WriteShareGroupStateRequestTopic.size hi9 rfl rfl ?_
    refine at_cd ?_
    have hy := RE_part hy
    have hyr : RC t gg (oo + i8 * 18) _ := hyr
    generalize hyy : (els (y.at_ 1))[i8] = ye10 at *
    obtain ⟨fc11, mv11, hce11, hfl11, hTg11⟩ := hy
    simp only [F_sWriteShareGroupStateRequestTopic, RMl] at hfl11
    obtain ⟨x11_0, z11_0, e11_0, g11_0, x11_1, z11_1, e11_1, g11_1, hend11⟩ := hfl11
    have hq11_0 := RMf_uuid.1 g11_0
    obtain ⟨u11_0_0, u11_0_1, u11_0_2, u11_0_3, u11_0_4, u11_0_5, u11_0_6, u11_0_7, u11_0_8, u11_0_9, u11_0_10, u11_0_11, u11_0_12, u11_0_13, u11_0_14, u11_0_15, hu11_0⟩ := uuid16 (ye10.at_ 0).s
    rw [hu11_0] at hq11_0
    subst hq11_0
    obtain ⟨_, rfl, Gg11_1⟩ := RMf_list.1 g11_1
    obtain ⟨ad11_1, cap11_1, rfl, hnil11_1, Hg11_1⟩ := Gg11_1.els
    subst hend11
    subst e11_1
    subst e11_0
    rw [hce11] at hyr
    simp only [List.cons_append, List.nil_append, List.append_assoc] at hyr
    obtain ⟨hfl, hfu12⟩ := (show okP F_sWriteShareGroupStateRequestTopic v q ye10 from hkk)
    obtain ⟨k13, hfl⟩ := okFl_cons hfl
    obtain ⟨k14, hfl⟩ := okFl_cons hfl
    have hE := vt_open (by decide) hfu12 hE
    have hyr15 := hyr
    refine cd_sq ?_
    have hE := pl_all (by decide) (hasB_all hv0) hE
    have hkk := okV_get k13 (by decide) (hasB_all hv0)
    refine ap_uuid (off := 0) (vs := [u11_0_0, u11_0_1, u11_0_2, u11_0_3, u11_0_4, u11_0_5, u11_0_6, u11_0_7, u11_0_8, u11_0_9, u11_0_10, u11_0_11, u11_0_12, u11_0_13, u11_0_14, u11_0_15]) rfl Tryz.underlying169 rfl ti_16_uint8.size rfl Tryz.underlying114 rfl ti_16_uint8 (zl := List.replicate 16 (.int .u8 0)) rfl rfl (hyr15.mv h0 (by simp)) rfl rfl (by rw [← hu11_0]; exact u8s_one _) en_141 rfl (fun u hu => by have h := as_uuid u (ye10.at_ 0) false q; rw [hu11_0] at h; rw [fieldB_s0 (by decide) (by decide) (by decide)]; exact h) hE hB (fun u vd Lc ht16 hE => ?_)
    have h0 := h0.trans ht16
    refine at_cd ?_
    refine cd_sq ?_
    have hE := pl_all (by decide) (hasB_all hv0) hE
    have hkk := okV_get k14 (by decide) (hasB_all hv0)
    refine cd_sq ?_
    refine ap_load (off := 16) rfl Tryz.underlying169 rfl tiSl_kmsg_WriteShareGroupStateRequestTopicPartition.size rfl Tryz.underlying167 rfl (hyr15.mv h0 (by simp)) rfl rfl ?_
    refine at_cd ?_
    obtain ⟨hll, hlz, hle⟩ := okV_l hkk
    have hE := ls_open (by decide) hll hlz hE
    have hel := els_len hll
    refine cd_sq ?_
    refine ap_flexL (T' := 0) rfl en_124 en_125 Tryz.underlying167 rfl rfl rfl rfl (fun hq u hu => by subst hq; exact al_c u _ hel) (fun hq u hu => by subst hq; exact al_n u _ hel) hE hB (fun u vd Lc ht17 hE => ?_)
    have h0 := h0.trans ht17
    refine at_cd ?_
    refine ap_range (Tl := fun i => ((els (ye10.at_ 1)).drop i).flatMap (valueB 10 F_sWriteShareGroupStateRequestTopicPartition false v q)) Tryz.underlying167 rfl (by omega) rfl hE (fun i20 u vd Lc N' X' hi21 hu19 hE kb => ?_) (fun u vd Lc ht18 hE => ?_)
    · skip
      have h0 := h0.trans hu19
      have hE := ls_step hi21 hE
      rcases Hg11_1 with hm0 | ⟨gg, oo, lc, rfl, hgc, hgl, hge⟩
      · omega
      have hy := hge i20 hi21
      have hyr := seg_rc hgc hgl hi21
      have hkk := hle i20 hi21
      refine cd_sq ?_
      refine ap_copy rfl rfl ?_
      refine at_cd ?_
      refine cd_sq ?_
      refine ap_idx (ez := 7) rfl Tryz.underlying167 tipub_kmsg_WriteShareGroupStateRequestTopicPartition.size hi21 rfl rfl ?_
      refine at_cd ?_
      have hy := RE_part hy
      have hyr : RC t gg (oo + i20 * 7) _ := hyr
      generalize hyy : (els (ye10.at_ 1))[i20] = ye22 at *
      obtain ⟨fc23, mv23, hce23, hfl23, hTg23⟩ := hy
      simp only [F_sWriteShareGroupStateRequestTopicPartition, RMl] at hfl23
      obtain ⟨x23_0, z23_0, e23_0, g23_0, x23_1, z23_1, e23_1, g23_1, x23_2, z23_2, e23_2, g23_2, x23_3, z23_3, e23_3, g23_3, x23_4, z23_4, e23_4, g23_4, x23_5, z23_5, e23_5, g23_5, hend23⟩ := hfl23
      obtain rfl := RMf_i32.1 g23_0
      obtain rfl := RMf_i32.1 g23_1
      obtain rfl := RMf_i32.1 g23_2
      obtain ⟨rfl, hI23_3⟩ := RMf_i64.1 g23_3
      obtain rfl := RMf_i32.1 g23_4
      obtain ⟨_, rfl, Gg23_5⟩ := RMf_list.1 g23_5
      obtain ⟨ad23_5, cap23_5, rfl, hnil23_5, Hg23_5⟩ := Gg23_5.els
      subst hend23
      subst e23_5
      subst e23_4
      subst e23_3
      subst e23_2
      subst e23_1
      subst e23_0
      rw [hce23] at hyr
      simp only [List.cons_append, List.nil_append, List.append_assoc] at hyr
      obtain ⟨hfl, hfu24⟩ := (show okP F_sWriteShareGroupStateRequestTopicPartition v q ye22 from hkk)
      obtain ⟨k25, hfl⟩ := okFl_cons hfl
      obtain ⟨k26, hfl⟩ := okFl_cons hfl
      obtain ⟨k27, hfl⟩ := okFl_cons hfl
      obtain ⟨k28, hfl⟩ := okFl_cons hfl
      obtain ⟨k29, hfl⟩ := okFl_cons hfl
      obtain ⟨k30, hfl⟩ := okFl_cons hfl
      have hE := vt_open (by decide) hfu24 hE
      have hyr31 := hyr
      refine cd_sq ?_
      have hE := pl_all (by decide) (hasB_all hv0) hE
      have hkk := okV_get k25 (by decide) (hasB_all hv0)
      refine cd_sq ?_
      refine ap_load (off := 0) rfl Tryz.underlying174 rfl tiint32.size rfl Tryz.underlying21 rfl (hyr31.mv h0 (by simp)) rfl rfl ?_
      refine at_cd ?_
      refine ap_call en_105 rfl rfl (fun u hu => by rw [fieldB_s0 (by decide) (by decide) (by decide)]; exact as_i32 u _ _ _) hE hB (fun u vd Lc ht32 hE => ?_)
      have h0 := h0.trans ht32
      refine at_sub (.cons (.skip rfl (.cons (.cons (.cons (.cons (.cons (.cons (.cons (.cons (.cons (.cons (.cons (.cons (.cons .rfl'))))))))))))))) ?_
      refine at_cd ?_
      refine cd_sq ?_
      have hE := pl_all (by decide) (hasB_all hv0) hE
      have hkk := okV_get k26 (by decide) (hasB_all hv0)
      refine cd_sq ?_
      refine ap_load (off := 1) rfl Tryz.underlying174 rfl tiint32.size rfl Tryz.underlying21 rfl (hyr31.mv h0 (by simp)) rfl rfl ?_
      refine at_cd ?_
      refine ap_call en_105 rfl rfl (fun u hu => by rw [fieldB_s0 (by decide) (by decide) (by decide)]; exact as_i32 u _ _ _) hE hB (fun u vd Lc ht33 hE => ?_)
      have h0 := h0.trans ht33
      refine at_sub (.cons (.skip rfl (.cons (.cons (.cons (.cons (.cons (.cons (.cons (.cons (.cons (.cons (.cons (.cons (.cons .rfl'))))))))))))))) ?_
      refine at_cd ?_
      refine cd_sq ?_
      have hE := pl_all (by decide) (hasB_all hv0) hE
      have hkk := okV_get k27 (by decide) (hasB_all hv0)
      refine cd_sq ?_
      refine ap_load (off := 2) rfl Tryz.underlying174 rfl tiint32.size rfl Tryz.underlying21 rfl (hyr31.mv h0 (by simp)) rfl rfl ?_
      refine at_cd ?_
      refine ap_call en_105 rfl rfl (fun u hu => by rw [fieldB_s0 (by decide) (by decide) (by decide)]; exact as_i32 u _ _ _) hE hB (fun u vd Lc ht34 hE => ?_)
      have h0 := h0.trans ht34
      refine at_sub (.cons (.skip rfl (.cons (.cons (.cons (.cons (.cons (.cons (.cons (.cons (.cons (.cons (.cons (.cons (.cons .rfl'))))))))))))))) ?_
      refine at_cd ?_
      refine cd_sq ?_
      have hE := pl_all (by decide) (hasB_all hv0) hE
      have hkk := okV_get k28 (by decide) (hasB_all hv0)
      refine cd_sq ?_
      refine ap_load (off := 3) rfl Tryz.underlying174 rfl tiint64.size rfl Tryz.underlying2 rfl (hyr31.mv h0 (by simp)) rfl rfl ?_
      refine at_cd ?_
      refine ap_call en_134 rfl rfl (fun u hu => by rw [fieldB_s0 (by decide) (by decide) (by decide)]; exact as_i64 u _ _ _) hE hB (fun u vd Lc ht35 hE => ?_)
      have h0 := h0.trans ht35
      refine at_sub (.cons (.skip rfl (.cons (.cons (.cons (.cons (.cons (.cons (.cons (.cons (.cons (.cons (.cons (.cons (.cons .rfl'))))))))))))))) ?_
      refine at_cd ?_
      refine cd_sq ?_
      have hE := pl_if (by decide) (hasB_from) hE
      refine ap_if rfl rfl hE (fun u vd Lc ht36 hE => ?_) (fun hva hE kk => ?_)
      rotate_left
      · skip
        have hkk := okV_get k29 (by decide) (by rw [hasB_from]; exact decide_eq_true hva)
        refine cd_sq ?_
        refine ap_load (off := 4) rfl Tryz.underlying174 rfl tiint32.size rfl Tryz.underlying21 rfl (hyr31.mv h0 (by simp)) rfl rfl ?_
        refine at_cd ?_
        refine ap_call en_105 rfl rfl (fun u hu => by rw [fieldB_s0 (by decide) (by decide) (by decide)]; exact as_i32 u _ _ _) hE hB (fun u vd Lc ht37 hE => ?_)
        have h0 := h0.trans ht37
        refine at_sub (.cons (.skip rfl (.cons (.cons (.cons (.cons (.cons (.cons (.cons (.cons (.cons (.cons (.cons (.cons (.cons .rfl'))))))))))))))) ?_
        exact at_sub (.cons (.cons (.cons (.cons (.cons (.cons (.cons (.cons (.cons (.cons (.cons (.cons (.cons (.cons .rfl')))))))))))))) (kk _ _ _ ht37 hE)
      have h0 := h0.trans ht36
      refine at_cd ?_
      refine cd_sq ?_
      have hE := pl_all (by decide) (hasB_all hv0) hE
      have hkk := okV_get k30 (by decide) (hasB_all hv0)
      refine cd_sq ?_
      refine ap_load (off := 5) rfl Tryz.underlying174 rfl tiSl_kmsg_WriteShareGroupStateRequestTopicPartitionStateBatch.size rfl Tryz.underlying172 rfl (hyr31.mv h0 (by simp)) rfl rfl ?_
      refine at_cd ?_
      obtain ⟨hll, hlz, hle⟩ := okV_l hkk
      have hE := ls_open (by decide) hll hlz hE
      have hel := els_len hll
      refine cd_sq ?_
      refine ap_flexL (T' := 0) rfl en_124 en_125 Tryz.underlying172 rfl rfl rfl rfl (fun hq u hu => by subst hq; exact al_c u _ hel) (fun hq u hu => by subst hq; exact al_n u _ hel) hE hB (fun u vd Lc ht38 hE => ?_)
      have h0 := h0.trans ht38
      refine at_cd ?_
      refine ap_range (Tl := fun i => ((els (ye22.at_ 5)).drop i).flatMap (valueB 10 F_sWriteShareGroupStateRequestTopicPartitionStateBatch false v q)) Tryz.underlying172 rfl (by omega) rfl hE (fun i41 u vd Lc N' X' hi42 hu40 hE kb => ?_) (fun u vd Lc ht39 hE => ?_)
      · skip
        have h0 := h0.trans hu40
        have hE := ls_step hi42 hE
        rcases Hg23_5 with hm0 | ⟨gg, oo, lc, rfl, hgc, hgl, hge⟩
        · omega
        have hy := hge i41 hi42
        have hyr := seg_rc hgc hgl hi42
        have hkk := hle i41 hi42
        refine cd_sq ?_
        refine ap_copy rfl rfl ?_
        refine at_cd ?_
        refine cd_sq ?_
        refine ap_idx (ez := 5) rfl Tryz.underlying172 tipub_kmsg_WriteShareGroupStateRequestTopicPartitionStateBatch.size hi42 rfl rfl ?_
        refine at_cd ?_
        have hy := RE_part hy
        have hyr : RC t gg (oo + i41 * 5) _ := hyr
        generalize hyy : (els (ye22.at_ 5))[i41] = ye43 at *
        obtain ⟨fc44, mv44, hce44, hfl44, hTg44⟩ := hy
        simp only [F_sWriteShareGroupStateRequestTopicPartitionStateBatch, RMl] at hfl44
        obtain ⟨x44_0, z44_0, e44_0, g44_0, x44_1, z44_1, e44_1, g44_1, x44_2, z44_2, e44_2, g44_2, x44_3, z44_3, e44_3, g44_3, hend44⟩ := hfl44
        obtain ⟨rfl, hI44_0⟩ := RMf_i64.1 g44_0
        obtain ⟨rfl, hI44_1⟩ := RMf_i64.1 g44_1
        obtain rfl := RMf_i8.1 g44_2
        obtain rfl := RMf_i16.1 g44_3
        subst hend44
        subst e44_3
        subst e44_2
        subst e44_1
        subst e44_0
        rw [hce44] at hyr
        simp only [List.cons_append, List.nil_append, List.append_assoc] at hyr
        obtain ⟨hfl, hfu45⟩ := (show okP F_sWriteShareGroupStateRequestTopicPartitionStateBatch v q ye43 from hkk)
        obtain ⟨k46, hfl⟩ := okFl_cons hfl
        obtain ⟨k47, hfl⟩ := okFl_cons hfl
        obtain ⟨k48, hfl⟩ := okFl_cons hfl
        obtain ⟨k49, hfl⟩ := okFl_cons hfl
        have hE := vt_open (by decide) hfu45 hE
        have hyr50 := hyr
        refine cd_sq ?_
        have hE := pl_all (by decide) (hasB_all hv0) hE
        have hkk := okV_get k46 (by decide) (hasB_all hv0)
        refine cd_sq ?_
        refine ap_load (off := 0) rfl Tryz.underlying177 rfl tiint64.size rfl Tryz.underlying2 rfl (hyr50.mv h0 (by simp)) rfl rfl ?_
        refine at_cd ?_
        refine ap_call en_134 rfl rfl (fun u hu => by rw [fieldB_s0 (by decide) (by decide) (by decide)]; exact as_i64 u _ _ _) hE hB (fun u vd Lc ht51 hE => ?_)
        have h0 := h0.trans ht51
        refine at_sub (.cons (.skip rfl (.cons (.cons (.cons (.cons (.cons (.cons (.cons (.cons (.cons (.cons (.cons (.cons (.cons (.cons (.cons (.cons (.cons (.cons .rfl')))))))))))))))))))) ?_
        refine at_cd ?_
        refine cd_sq ?_
        have hE := pl_all (by decide) (hasB_all hv0) hE
        have hkk := okV_get k47 (by decide) (hasB_all hv0)
        refine cd_sq ?_
        refine ap_load (off := 1) rfl Tryz.underlying177 rfl tiint64.size rfl Tryz.underlying2 rfl (hyr50.mv h0 (by simp)) rfl rfl ?_
        refine at_cd ?_
        refine ap_call en_134 rfl rfl (fun u hu => by rw [fieldB_s0 (by decide) (by decide) (by decide)]; exact as_i64 u _ _ _) hE hB (fun u vd Lc ht52 hE => ?_)
        have h0 := h0.trans ht52
        refine at_sub (.cons (.skip rfl (.cons (.cons (.cons (.cons (.cons (.cons (.cons (.cons (.cons (.cons (.cons (.cons (.cons (.cons (.cons (.cons (.cons (.cons .rfl')))))))))))))))))))) ?_
        refine at_cd ?_
        refine cd_sq ?_
        have hE := pl_all (by decide) (hasB_all hv0) hE
        have hkk := okV_get k48 (by decide) (hasB_all hv0)
        refine cd_sq ?_
        refine ap_load (off := 2) rfl Tryz.underlying177 rfl tiint8.size rfl Tryz.underlying121 rfl (hyr50.mv h0 (by simp)) rfl rfl ?_
        refine at_cd ?_
        refine ap_call en_142 rfl rfl (fun u hu => by rw [fieldB_s0 (by decide) (by decide) (by decide)]; exact as_i8 u _ _ _) hE hB (fun u vd Lc ht53 hE => ?_)
        have h0 := h0.trans ht53
        refine at_sub (.cons (.skip rfl (.cons (.cons (.cons (.cons (.cons (.cons (.cons (.cons (.cons (.cons (.cons (.cons (.cons (.cons (.cons (.cons (.cons (.cons .rfl')))))))))))))))))))) ?_
        refine at_cd ?_
        refine cd_sq ?_
        have hE := pl_all (by decide) (hasB_all hv0) hE
        have hkk := okV_get k49 (by decide) (hasB_all hv0)
        refine cd_sq ?_
        refine ap_load (off := 3) rfl Tryz.underlying177 rfl tiint16.size rfl Tryz.underlying49 rfl (hyr50.mv h0 (by simp)) rfl rfl ?_
        refine at_cd ?_
        refine ap_call en_106 rfl rfl (fun u hu => by rw [fieldB_s0 (by decide) (by decide) (by decide)]; exact as_i16 u _ _ _) hE hB (fun u vd Lc ht54 hE => ?_)
        have h0 := h0.trans ht54
        refine at_sub (.cons (.skip rfl (.cons (.cons (.cons (.cons (.cons (.cons (.cons (.cons (.cons (.cons (.cons (.cons (.cons (.cons (.cons (.cons (.cons (.cons .rfl')))))))))))))))))))) ?_
        refine at_cd ?_
        have hE := pl_nil hE
        refine ap_tags (off := 4) rfl rfl Tryz.underlying177 rfl tipub_kmsg_Tags.size rfl (hyr50.mv h0 (by simp)) rfl (hTg44.mv h0) (fun h => (hfu45 h).2) rfl rfl rfl hE hB (fun u vd Lc ht55 hE => ?_)
        have h0 := h0.trans ht55
        exact at_sub (.cons (.skip rfl (.skip rfl (.cons (.cons (.cons (.cons (.cons (.cons (.cons (.cons (.cons (.cons (.cons (.cons (.cons (.cons (.cons (.cons .rfl'))))))))))))))))))) (kb _ _ _ ((((ht51.trans ht52).trans ht53).trans ht54).trans ht55) hE)
      have hE := ls_end hE
      have h0 := h0.trans ht39
      refine at_sub (.cons (.skip rfl (.cons (.cons (.cons (.cons (.cons (.cons (.cons (.cons (.cons (.cons (.cons (.cons (.cons .rfl'))))))))))))))) ?_
      refine at_cd ?_
      have hE := pl_nil hE
      refine ap_tags (off := 6) rfl rfl Tryz.underlying174 rfl tipub_kmsg_Tags.size rfl (hyr31.mv h0 (by simp)) rfl (hTg23.mv h0) (fun h => (hfu24 h).2) rfl rfl rfl hE hB (fun u vd Lc ht56 hE => ?_)
      have h0 := h0.trans ht56
      exact at_sub (.cons (.skip rfl (.skip rfl (.cons (.cons (.cons (.cons (.cons (.cons (.cons (.cons (.cons (.cons (.cons .rfl')))))))))))))) (kb _ _ _ (((((((ht32.trans ht33).trans ht34).trans ht35).trans ht36).trans ht38).trans ht39).trans ht56) hE)
    have hE := ls_end hE
    have h0 := h0.trans ht18
    refine at_sub (.cons (.skip rfl (.cons (.cons (.cons (.cons (.cons (.cons (.cons (.cons .rfl')))))))))) ?_
    refine at_cd ?_
    have hE := pl_nil hE
    refine ap_tags (off := 17) rfl rfl Tryz.underlying169 rfl tipub_kmsg_Tags.size rfl (hyr15.mv h0 (by simp)) rfl (hTg11.mv h0) (fun h => (hfu12 h).2) rfl rfl rfl hE hB (fun u vd Lc ht57 hE => ?_)
    have h0 := h0.trans ht57
    exact at_sub (.cons (.skip rfl (.skip rfl (.cons (.cons (.cons (.cons (.cons (.cons .rfl'))))))))) (kb _ _ _ (((ht16.trans ht17).trans ht18).trans ht57) hE)
  have hE := ls_end hE
  have h0 := h0.trans ht6
  refine at_sub (.cons (.skip rfl (.cons (.cons (.cons .rfl'))))) ?_
  refine at_cd ?_
  have hE := pl_nil hE
  refine cd_sq ?_
  refine ap_tags (off := 3) rfl rfl Tryz.underlying165 rfl tipub_kmsg_Tags.size rfl (hrc.mv h0 (by simp)) rfl (hTg1.mv h0) (fun h => (hfu h).2) rfl rfl rfl hE hB (fun u vd Lc ht58 hE => ?_)
  have h0 := h0.trans ht58
  refine at_cd ?_
  have hE : Lc = Full := by simpa using hE
  subst hE
  refine cd_rowone (i := 0) rfl (fun hone => ?_)
  refine cd_sr ?_
  refine ln_pv (pv_move rfl) rfl ?_
  refine ln_pv (pv_assign rfl) rfl ?_
  refine ln_cd ?_
  refine cd_ret ?_
  exact at_retT (i := 0) rfl rfl rfl (fun w hS => ⟨rfl, hone⟩)
end K
end Go.Proofs.YtkcdocdldebeoaaGreatDoorR
