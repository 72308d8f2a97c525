import Derived.Test.YtmknncmdbmnmgabGreatA5
import Derived.Test.YtmknncmdbmnmgabGreatMcs
set_option linter.unusedVariables false
set_option linter.unusedSimpArgs false
namespace Go.Proofs.YtmknncmdbmnmgabGreat
namespace K
open Go Go.Lib
theorem append_ShareFetchResponse (t : Vw) (b : Nat) (v : Int) (y : Tre) (cells : List Value) (vd : Value) (L0 : List UInt8) (hrc : RC t b 0 (.int .i16 v :: cells)) (hM : RMp t F_ShareFetchResponse y cells) (hfit : okP F_ShareFetchResponse v (flexB 0 v) y) (h0 : 0 ≤ v) (h1 : v ≤ 2) (hB : (L0 ++ partB F_ShareFetchResponse v (flexB 0 v) y).length ≤ 4398046511104) (hok : (OctRow vd L0).ok t.w) (hav : ∀ q ∈ (OctRow vd L0).blk, t.av q) : CT Tryz.prog 49 [.pointer (some ⟨b, 0, none⟩), vd] t (OctRow vd L0) fun _ r e' => e' = OctRow r (L0 ++ partB F_ShareFetchResponse v (flexB 0 v) y) ∧ r.oneCell' = true := by
  have hv0 := h0
  clear h0
  obtain ⟨fc1, mv1, hce1, hfl1, hTg1⟩ := hM
  simp only [F_ShareFetchResponse, RMl] at hfl1
  obtain ⟨x1_0, z1_0, e1_0, g1_0, x1_1, z1_1, e1_1, g1_1, x1_2, z1_2, e1_2, g1_2, x1_3, z1_3, e1_3, g1_3, x1_4, z1_4, e1_4, g1_4, x1_5, z1_5, e1_5, g1_5, hend1⟩ := hfl1
  obtain rfl := RMf_i32.1 g1_0
  obtain rfl := RMf_i16.1 g1_1
  obtain ⟨d1_2, rfl, Gg1_2⟩ := (RMf_txt (by decide)).1 g1_2
  obtain rfl := RMf_i32.1 g1_3
  obtain ⟨_, rfl, Gg1_4⟩ := RMf_list.1 g1_4
  obtain ⟨ad1_4, cap1_4, rfl, hnil1_4, Hg1_4⟩ := Gg1_4.els
  obtain ⟨_, rfl, Gg1_5⟩ := RMf_list.1 g1_5
  obtain ⟨ad1_5, cap1_5, rfl, hnil1_5, Hg1_5⟩ := Gg1_5.els
  subst hend1
  subst e1_5
  subst e1_4
  subst e1_3
  subst e1_2
  subst e1_1
  subst e1_0
  rw [hce1] at hrc
  simp only [List.cons_append, List.nil_append, List.append_assoc] at hrc
  obtain ⟨hfl, hfu⟩ := hfit
  obtain ⟨k2, hfl⟩ := okFl_cons hfl
  obtain ⟨k3, hfl⟩ := okFl_cons hfl
  obtain ⟨k4, hfl⟩ := okFl_cons hfl
  obtain ⟨k5, hfl⟩ := okFl_cons hfl
  obtain ⟨k6, hfl⟩ := okFl_cons hfl
  obtain ⟨k7, hfl⟩ := okFl_cons hfl
  have hq0 : decide (v ≥ 0) = flexB 0 v := by simp [flexB]
  obtain ⟨Full, hFull⟩ : ∃ F : List UInt8, L0 ++ partB F_ShareFetchResponse v (flexB 0 v) y = F := ⟨_, rfl⟩
  rw [hFull] at hB ⊢
  have hE : L0 ++ (partB F_ShareFetchResponse v (flexB 0 v) y ++ []) = Full := by rw [List.append_nil]; exact hFull
  clear hFull
  generalize flexB 0 v = q at *
  have hE := pt_open (by decide) hfu hE
  refine ct_enter Tryz.func49 rfl Tryz.ntmps49 rfl hok hav (by simp only [Ent.blk]; cases vd.ownBlock <;> simp) ?_
  generalize L0 = Lc at *
  have h0 : Tr t t := Tr.refl t
  refine cd_sub_ (L' := [(1, vd), (0, .pointer (some ⟨b, 0, none⟩))]) (.put rfl (.put rfl .nil)) ?_
  refine cd_sq ?_
  refine ap_const rfl ?_
  refine at_sub (.skip rfl .rfl') ?_
  refine at_cd ?_
  refine cd_sq ?_
  refine ap_load0 rfl Tryz.underlying81 rfl tiint16.size rfl Tryz.underlying45 rfl (hrc.mv h0 (by simp)) rfl rfl ?_
  refine at_sub (.swap rfl) ?_
  refine at_cd ?_
  refine cd_sq ?_
  refine ap_blank rfl rfl ?_
  refine at_cd ?_
  refine cd_sq ?_
  refine ap_geqF rfl hq0 rfl ?_
  refine at_sub (.swap rfl) ?_
  refine at_cd ?_
  refine cd_sq ?_
  refine ap_blank rfl rfl ?_
  refine at_cd ?_
  refine cd_sq ?_
  have hE := pl_all (by decide) (hasB_all hv0) hE
  have hkk := okV_get k2 (by decide) (hasB_all hv0)
  refine cd_sq ?_
  refine ap_load (off := 1) rfl Tryz.underlying81 rfl tiint32.size rfl Tryz.underlying21 rfl (hrc.mv h0 (by simp)) rfl rfl ?_
  refine at_cd ?_
  refine ap_call en_64 rfl rfl (fun u hu => by rw [fieldB_s0 (by decide) (by decide) (by decide)]; exact as_i32 u _ _ _) hE hB (fun u vd Lc ht8 hE => ?_)
  have h0 := h0.trans ht8
  refine at_sub (.cons (.skip rfl (.cons (.cons (.cons .rfl'))))) ?_
  refine at_cd ?_
  refine cd_sq ?_
  have hE := pl_all (by decide) (hasB_all hv0) hE
  have hkk := okV_get k3 (by decide) (hasB_all hv0)
  refine cd_sq ?_
  refine ap_load (off := 2) rfl Tryz.underlying81 rfl tiint16.size rfl Tryz.underlying45 rfl (hrc.mv h0 (by simp)) rfl rfl ?_
  refine at_cd ?_
  refine ap_call en_86 rfl rfl (fun u hu => by rw [fieldB_s0 (by decide) (by decide) (by decide)]; exact as_i16 u _ _ _) hE hB (fun u vd Lc ht9 hE => ?_)
  have h0 := h0.trans ht9
  refine at_sub (.cons (.skip rfl (.cons (.cons (.cons .rfl'))))) ?_
  refine at_cd ?_
  refine cd_sq ?_
  have hE := pl_all (by decide) (hasB_all hv0) hE
  have hkk := okV_get k4 (by decide) (hasB_all hv0)
  refine cd_sq ?_
  refine ap_load (off := 3) rfl Tryz.underlying81 rfl tiPt_string.size rfl Tryz.underlying52 rfl (hrc.mv h0 (by simp)) rfl rfl ?_
  refine at_cd ?_
  refine ap_flex rfl en_74 en_75 rfl rfl rfl rfl (fun hq u hu => by subst hq; rw [fieldB_sz (by decide) (by decide) (by decide) (by omega)]; exact as_ctxt u _ _ (Gg1_2.mv (h0.trans hu)) (okV_s (by decide) (by decide) hkk (.inl rfl)).1) (fun hq u hu => by subst hq; rw [fieldB_sz (by decide) (by decide) (by decide) (by omega)]; exact as_txt u _ _ (Gg1_2.mv (h0.trans hu)) (okV_s (by decide) (by decide) hkk (.inl rfl)).1) hE hB (fun u vd Lc ht10 hE => ?_)
  have h0 := h0.trans ht10
  refine at_sub (.cons (.skip rfl (.cons (.cons (.cons .rfl'))))) ?_
  refine at_cd ?_
  refine cd_sq ?_
  have hE := pl_if (by decide) (hasB_from) hE
  refine ap_if rfl rfl hE (fun u vd Lc ht11 hE => ?_) (fun hva hE kk => ?_)
  rotate_left
  · skip
    have hkk := okV_get k5 (by decide) (by rw [hasB_from]; exact decide_eq_true hva)
    refine cd_sq ?_
    refine ap_load (off := 4) rfl Tryz.underlying81 rfl tiint32.size rfl Tryz.underlying21 rfl (hrc.mv h0 (by simp)) rfl rfl ?_
    refine at_cd ?_
    refine ap_call en_64 rfl rfl (fun u hu => by rw [fieldB_s0 (by decide) (by decide) (by decide)]; exact as_i32 u _ _ _) hE hB (fun u vd Lc ht12 hE => ?_)
    have h0 := h0.trans ht12
    refine at_sub (.cons (.skip rfl (.cons (.cons (.cons .rfl'))))) ?_
    exact at_sub (.cons (.cons (.cons (.cons .rfl')))) (kk _ _ _ ht12 hE)
  have h0 := h0.trans ht11
  refine at_cd ?_
  refine cd_sq ?_
  have hE := pl_all (by decide) (hasB_all hv0) hE
  have hkk := okV_get k6 (by decide) (hasB_all hv0)
  refine cd_sq ?_
  refine ap_load (off := 5) rfl Tryz.underlying81 rfl tiSl_kmsg_ShareFetchResponseTopic.size rfl Tryz.underlying78 rfl (hrc.mv h0 (by simp)) rfl rfl ?_
  refine at_cd ?_
  obtain ⟨hll, hlz, hle⟩ := okV_l hkk
  have hE := ls_open (by decide) hll hlz hE
  have hel := els_len hll
  refine cd_sq ?_
  refine ap_flexL (T' := 0) rfl en_65 en_66 Tryz.underlying78 rfl rfl rfl rfl (fun hq u hu => by subst hq; exact al_c u _ hel) (fun hq u hu => by subst hq; exact al_n u _ hel) hE hB (fun u vd Lc ht13 hE => ?_)
  have h0 := h0.trans ht13
  refine at_cd ?_
  refine ap_range (Tl := fun i => ((els (y.at_ 4)).drop i).flatMap (valueB 10 F_sShareFetchResponseTopic false v q)) Tryz.underlying78 rfl (by omega) rfl hE (fun i16 u vd Lc N' X' hi17 hu15 hE kb => ?_) (fun u vd Lc ht14 hE => ?_)
  · skip
    have h0 := h0.trans hu15
    have hE := ls_step hi17 hE
    rcases Hg1_4 with hm0 | ⟨gg, oo, lc, rfl, hgc, hgl, hge⟩
    · omega
    have hy := hge i16 hi17
    have hyr := seg_rc hgc hgl hi17
    have hkk := hle i16 hi17
    refine cd_sq ?_
    refine ap_copy rfl rfl ?_
    refine at_cd ?_
    refine cd_sq ?_
    refine ap_idx (ez := 18) rfl Tryz.underlying78 tipub_kmsg_ShareFetchResponseTopic.size hi17 rfl rfl ?_
    refine at_cd ?_
    have hy := RE_part hy
    have hyr : RC t gg (oo + i16 * 18) _ := hyr
    generalize hyy : (els (y.at_ 4))[i16] = ye18 at *
    obtain ⟨fc19, mv19, hce19, hfl19, hTg19⟩ := hy
    simp only [F_sShareFetchResponseTopic, RMl] at hfl19
    obtain ⟨x19_0, z19_0, e19_0, g19_0, x19_1, z19_1, e19_1, g19_1, hend19⟩ := hfl19
    have hq19_0 := RMf_uuid.1 g19_0
    obtain ⟨u19_0_0, u19_0_1, u19_0_2, u19_0_3, u19_0_4, u19_0_5, u19_0_6, u19_0_7, u19_0_8, u19_0_9, u19_0_10, u19_0_11, u19_0_12, u19_0_13, u19_0_14, u19_0_15, hu19_0⟩ := uuid16 (ye18.at_ 0).s
    rw [hu19_0] at hq19_0
    subst hq19_0
    obtain ⟨_, rfl, Gg19_1⟩ := RMf_list.1 g19_1
    obtain ⟨ad19_1, cap19_1, rfl, hnil19_1, Hg19_1⟩ := Gg19_1.els
    subst hend19
    subst e19_1
    subst e19_0
    rw [hce19] at hyr
    simp only [List.cons_append, List.nil_append, List.append_assoc] at hyr
    obtain ⟨hfl, hfu20⟩ := (show okP F_sShareFetchResponseTopic v q ye18 from hkk)
    obtain ⟨k21, hfl⟩ := okFl_cons hfl
    obtain ⟨k22, hfl⟩ := okFl_cons hfl
    have hE := vt_open (by decide) hfu20 hE
    have hyr23 := hyr
    refine cd_sq ?_
    have hE := pl_all (by decide) (hasB_all hv0) hE
    have hkk := okV_get k21 (by decide) (hasB_all hv0)
    refine ap_uuid (off := 0) (vs := [u19_0_0, u19_0_1, u19_0_2, u19_0_3, u19_0_4, u19_0_5, u19_0_6, u19_0_7, u19_0_8, u19_0_9, u19_0_10, u19_0_11, u19_0_12, u19_0_13, u19_0_14, u19_0_15]) rfl Tryz.underlying137 rfl ti_16_uint8.size rfl Tryz.underlying105 rfl ti_16_uint8 (zl := List.replicate 16 (.int .u8 0)) rfl rfl (hyr23.mv h0 (by simp)) rfl rfl (by rw [← hu19_0]; exact u8s_one _) en_73 rfl (fun u hu => by have h := as_uuid u (ye18.at_ 0) false q; rw [hu19_0] at h; rw [fieldB_s0 (by decide) (by decide) (by decide)]; exact h) hE hB (fun u vd Lc ht24 hE => ?_)
    have h0 := h0.trans ht24
    refine at_cd ?_
    refine cd_sq ?_
    have hE := pl_all (by decide) (hasB_all hv0) hE
    have hkk := okV_get k22 (by decide) (hasB_all hv0)
    refine cd_sq ?_
    refine ap_load (off := 16) rfl Tryz.underlying137 rfl tiSl_kmsg_ShareFetchResponseTopicPartition.size rfl Tryz.underlying135 rfl (hyr23.mv h0 (by simp)) rfl rfl ?_
    refine at_cd ?_
    obtain ⟨hll, hlz, hle⟩ := okV_l hkk
    have hE := ls_open (by decide) hll hlz hE
    have hel := els_len hll
    refine cd_sq ?_
    refine ap_flexL (T' := 0) rfl en_65 en_66 Tryz.underlying135 rfl rfl rfl rfl (fun hq u hu => by subst hq; exact al_c u _ hel) (fun hq u hu => by subst hq; exact al_n u _ hel) hE hB (fun u vd Lc ht25 hE => ?_)
    have h0 := h0.trans ht25
    refine at_cd ?_
    refine ap_range (Tl := fun i => ((els (ye18.at_ 1)).drop i).flatMap (valueB 10 F_sShareFetchResponseTopicPartition false v q)) Tryz.underlying135 rfl (by omega) rfl hE (fun i28 u vd Lc N' X' hi29 hu27 hE kb => ?_) (fun u vd Lc ht26 hE => ?_)
    · skip
      have h0 := h0.trans hu27
      have hE := ls_step hi29 hE
      rcases Hg19_1 with hm0 | ⟨gg, oo, lc, rfl, hgc, hgl, hge⟩
      · omega
      have hy := hge i28 hi29
      have hyr := seg_rc hgc hgl hi29
      have hkk := hle i28 hi29
      refine cd_sq ?_
      refine ap_copy rfl rfl ?_
      refine at_cd ?_
      refine cd_sq ?_
      refine ap_idx (ez := 11) rfl Tryz.underlying135 tipub_kmsg_ShareFetchResponseTopicPartition.size hi29 rfl rfl ?_
      refine at_cd ?_
      have hy := RE_part hy
      have hyr : RC t gg (oo + i28 * 11) _ := hyr
      generalize hyy : (els (ye18.at_ 1))[i28] = ye30 at *
      obtain ⟨fc31, mv31, hce31, hfl31, hTg31⟩ := hy
      simp only [F_sShareFetchResponseTopicPartition, RMl] at hfl31
      obtain ⟨x31_0, z31_0, e31_0, g31_0, x31_1, z31_1, e31_1, g31_1, x31_2, z31_2, e31_2, g31_2, x31_3, z31_3, e31_3, g31_3, x31_4, z31_4, e31_4, g31_4, x31_5, z31_5, e31_5, g31_5, x31_6, z31_6, e31_6, g31_6, x31_7, z31_7, e31_7, g31_7, hend31⟩ := hfl31
      obtain rfl := RMf_i32.1 g31_0
      obtain rfl := RMf_i16.1 g31_1
      obtain ⟨d31_2, rfl, Gg31_2⟩ := (RMf_txt (by decide)).1 g31_2
      obtain rfl := RMf_i16.1 g31_3
      obtain ⟨d31_4, rfl, Gg31_4⟩ := (RMf_txt (by decide)).1 g31_4
      obtain ⟨fc32, mv32, hce32, hfl32, hTg32⟩ := (RMf_part (by decide)).1 g31_5
      simp only [F_sShareFetchResponseTopicPartitionCurrentLeader, RMl] at hfl32
      obtain ⟨x32_0, z32_0, e32_0, g32_0, x32_1, z32_1, e32_1, g32_1, hend32⟩ := hfl32
      obtain rfl := RMf_i32.1 g32_0
      obtain rfl := RMf_i32.1 g32_1
      subst hend32
      subst e32_1
      subst e32_0
      subst hce32
      obtain ⟨d31_6, rfl, Gg31_6⟩ := RMf_oct.1 g31_6
      obtain ⟨_, rfl, Gg31_7⟩ := RMf_list.1 g31_7
      obtain ⟨ad31_7, cap31_7, rfl, hnil31_7, Hg31_7⟩ := Gg31_7.els
      subst hend31
      subst e31_7
      subst e31_6
      subst e31_5
      subst e31_4
      subst e31_3
      subst e31_2
      subst e31_1
      subst e31_0
      rw [hce31] at hyr
      simp only [List.cons_append, List.nil_append, List.append_assoc] at hyr
      obtain ⟨hfl, hfu33⟩ := (show okP F_sShareFetchResponseTopicPartition v q ye30 from hkk)
      obtain ⟨k34, hfl⟩ := okFl_cons hfl
      obtain ⟨k35, hfl⟩ := okFl_cons hfl
      obtain ⟨k36, hfl⟩ := okFl_cons hfl
      obtain ⟨k37, hfl⟩ := okFl_cons hfl
      obtain ⟨k38, hfl⟩ := okFl_cons hfl
      obtain ⟨k39, hfl⟩ := okFl_cons hfl
      obtain ⟨k40, hfl⟩ := okFl_cons hfl
      obtain ⟨k41, hfl⟩ := okFl_cons hfl
      have hE := vt_open (by decide) hfu33 hE
      have hyr42 := hyr
      refine cd_sq ?_
      have hE := pl_all (by decide) (hasB_all hv0) hE
      have hkk := okV_get k34 (by decide) (hasB_all hv0)
      refine cd_sq ?_
      refine ap_load (off := 0) rfl Tryz.underlying148 rfl tiint32.size rfl Tryz.underlying21 rfl (hyr42.mv h0 (by simp)) rfl rfl ?_
      refine at_cd ?_
      refine ap_call en_64 rfl rfl (fun u hu => by rw [fieldB_s0 (by decide) (by decide) (by decide)]; exact as_i32 u _ _ _) hE hB (fun u vd Lc ht43 hE => ?_)
      have h0 := h0.trans ht43
      refine at_sub (.cons (.skip rfl (.cons (.cons (.cons (.cons (.cons (.cons (.cons (.cons (.cons (.cons (.cons (.cons (.cons .rfl'))))))))))))))) ?_
      refine at_cd ?_
      refine cd_sq ?_
      have hE := pl_all (by decide) (hasB_all hv0) hE
      have hkk := okV_get k35 (by decide) (hasB_all hv0)
      refine cd_sq ?_
      refine ap_load (off := 1) rfl Tryz.underlying148 rfl tiint16.size rfl Tryz.underlying45 rfl (hyr42.mv h0 (by simp)) rfl rfl ?_
      refine at_cd ?_
      refine ap_call en_86 rfl rfl (fun u hu => by rw [fieldB_s0 (by decide) (by decide) (by decide)]; exact as_i16 u _ _ _) hE hB (fun u vd Lc ht44 hE => ?_)
      have h0 := h0.trans ht44
      refine at_sub (.cons (.skip rfl (.cons (.cons (.cons (.cons (.cons (.cons (.cons (.cons (.cons (.cons (.cons (.cons (.cons .rfl'))))))))))))))) ?_
      refine at_cd ?_
      refine cd_sq ?_
      have hE := pl_all (by decide) (hasB_all hv0) hE
      have hkk := okV_get k36 (by decide) (hasB_all hv0)
      refine cd_sq ?_
      refine ap_load (off := 2) rfl Tryz.underlying148 rfl tiPt_string.size rfl Tryz.underlying52 rfl (hyr42.mv h0 (by simp)) rfl rfl ?_
      refine at_cd ?_
      refine ap_flex rfl en_74 en_75 rfl rfl rfl rfl (fun hq u hu => by subst hq; rw [fieldB_sz (by decide) (by decide) (by decide) (by omega)]; exact as_ctxt u _ _ (Gg31_2.mv (h0.trans hu)) (okV_s (by decide) (by decide) hkk (.inl rfl)).1) (fun hq u hu => by subst hq; rw [fieldB_sz (by decide) (by decide) (by decide) (by omega)]; exact as_txt u _ _ (Gg31_2.mv (h0.trans hu)) (okV_s (by decide) (by decide) hkk (.inl rfl)).1) hE hB (fun u vd Lc ht45 hE => ?_)
      have h0 := h0.trans ht45
      refine at_sub (.cons (.skip rfl (.cons (.cons (.cons (.cons (.cons (.cons (.cons (.cons (.cons (.cons (.cons (.cons (.cons .rfl'))))))))))))))) ?_
      refine at_cd ?_
      refine cd_sq ?_
      have hE := pl_all (by decide) (hasB_all hv0) hE
      have hkk := okV_get k37 (by decide) (hasB_all hv0)
      refine cd_sq ?_
      refine ap_load (off := 3) rfl Tryz.underlying148 rfl tiint16.size rfl Tryz.underlying45 rfl (hyr42.mv h0 (by simp)) rfl rfl ?_
      refine at_cd ?_
      refine ap_call en_86 rfl rfl (fun u hu => by rw [fieldB_s0 (by decide) (by decide) (by decide)]; exact as_i16 u _ _ _) hE hB (fun u vd Lc ht46 hE => ?_)
      have h0 := h0.trans ht46
      refine at_sub (.cons (.skip rfl (.cons (.cons (.cons (.cons (.cons (.cons (.cons (.cons (.cons (.cons (.cons (.cons (.cons .rfl'))))))))))))))) ?_
      refine at_cd ?_
      refine cd_sq ?_
      have hE := pl_all (by decide) (hasB_all hv0) hE
      have hkk := okV_get k38 (by decide) (hasB_all hv0)
      refine cd_sq ?_
      refine ap_load (off := 4) rfl Tryz.underlying148 rfl tiPt_string.size rfl Tryz.underlying52 rfl (hyr42.mv h0 (by simp)) rfl rfl ?_
      refine at_cd ?_
      refine ap_flex rfl en_74 en_75 rfl rfl rfl rfl (fun hq u hu => by subst hq; rw [fieldB_sz (by decide) (by decide) (by decide) (by omega)]; exact as_ctxt u _ _ (Gg31_4.mv (h0.trans hu)) (okV_s (by decide) (by decide) hkk (.inl rfl)).1) (fun hq u hu => by subst hq; rw [fieldB_sz (by decide) (by decide) (by decide) (by omega)]; exact as_txt u _ _ (Gg31_4.mv (h0.trans hu)) (okV_s (by decide) (by decide) hkk (.inl rfl)).1) hE hB (fun u vd Lc ht47 hE => ?_)
      have h0 := h0.trans ht47
      refine at_sub (.cons (.skip rfl (.cons (.cons (.cons (.cons (.cons (.cons (.cons (.cons (.cons (.cons (.cons (.cons (.cons .rfl'))))))))))))))) ?_
      refine at_cd ?_
      refine cd_sq ?_
      have hE := pl_all (by decide) (hasB_all hv0) hE
      have hkk := okV_get k39 (by decide) (hasB_all hv0)
      refine cd_sq ?_
      refine ap_addr (off := 5) rfl Tryz.underlying148 rfl tipub_kmsg_ShareFetchResponseTopicPartitionCurrentLeader.size rfl rfl ?_
      refine at_cd ?_
      have hrP48 := hyr42.dropk 5 (Nat.le_of_ble_eq_true rfl)
      obtain ⟨hflP48, hfuP48⟩ := okV_p (by decide) hkk
      obtain ⟨k49, hflP48⟩ := okFl_cons hflP48
      obtain ⟨k50, hflP48⟩ := okFl_cons hflP48
      have hE := fp_open (by decide) (by decide) hfuP48 hE
      refine cd_sq ?_
      have hE := pl_all (by decide) (hasB_all hv0) hE
      have hkk := okV_get k49 (by decide) (hasB_all hv0)
      refine cd_sq ?_
      refine ap_load (off := 0) rfl Tryz.underlying145 rfl tiint32.size rfl Tryz.underlying21 rfl (hrP48.mv h0 (by simp)) rfl rfl ?_
      refine at_cd ?_
      refine ap_call en_64 rfl rfl (fun u hu => by rw [fieldB_s0 (by decide) (by decide) (by decide)]; exact as_i32 u _ _ _) hE hB (fun u vd Lc ht51 hE => ?_)
      have h0 := h0.trans ht51
      refine at_sub (.cons (.skip rfl (.cons (.cons (.cons (.cons (.cons (.cons (.cons (.cons (.cons (.cons (.cons (.cons (.cons (.cons .rfl')))))))))))))))) ?_
      refine at_cd ?_
      refine cd_sq ?_
      have hE := pl_all (by decide) (hasB_all hv0) hE
      have hkk := okV_get k50 (by decide) (hasB_all hv0)
      refine cd_sq ?_
      refine ap_load (off := 1) rfl Tryz.underlying145 rfl tiint32.size rfl Tryz.underlying21 rfl (hrP48.mv h0 (by simp)) rfl rfl ?_
      refine at_cd ?_
      refine ap_call en_64 rfl rfl (fun u hu => by rw [fieldB_s0 (by decide) (by decide) (by decide)]; exact as_i32 u _ _ _) hE hB (fun u vd Lc ht52 hE => ?_)
      have h0 := h0.trans ht52
      refine at_sub (.cons (.skip rfl (.cons (.cons (.cons (.cons (.cons (.cons (.cons (.cons (.cons (.cons (.cons (.cons (.cons (.cons .rfl')))))))))))))))) ?_
      refine at_cd ?_
      have hE := pl_nil hE
      refine ap_tags (off := 2) rfl rfl Tryz.underlying145 rfl tipub_kmsg_Tags.size rfl (hrP48.mv h0 (by simp)) rfl (hTg32.mv h0) (fun h => (hfuP48 h).2) rfl rfl rfl hE hB (fun u vd Lc ht53 hE => ?_)
      have h0 := h0.trans ht53
      refine at_sub (.cons (.skip rfl (.cons (.cons (.cons (.cons (.cons (.cons (.cons (.cons (.cons (.cons (.cons (.cons (.cons .rfl'))))))))))))))) ?_
      refine at_cd ?_
      refine cd_sq ?_
      have hE := pl_all (by decide) (hasB_all hv0) hE
      have hkk := okV_get k40 (by decide) (hasB_all hv0)
      refine cd_sq ?_
      refine ap_load (off := 8) rfl Tryz.underlying148 rfl tiSl_uint8.size rfl Tryz.underlying22 rfl (hyr42.mv h0 (by simp)) rfl rfl ?_
      refine at_cd ?_
      refine ap_flex rfl en_95 en_96 rfl rfl rfl rfl (fun hq u hu => by subst hq; rw [fieldB_s0 (by decide) (by decide) (by decide)]; exact (by have hz : _ = false := (Bool.eq_false_iff.2 fun hz => absurd ((okV_s (by decide) (by decide) hkk (.inr rfl)).2 hz).1 (by decide)); have h := as_coctn u _ _ (Gg31_6.mv (h0.trans hu)) (okV_s (by decide) (by decide) hkk (.inr rfl)).1; rw [hz] at h; exact h)) (fun hq u hu => by subst hq; rw [fieldB_s0 (by decide) (by decide) (by decide)]; exact (by have hz : _ = false := (Bool.eq_false_iff.2 fun hz => absurd ((okV_s (by decide) (by decide) hkk (.inr rfl)).2 hz).1 (by decide)); have h := as_octn u _ _ (Gg31_6.mv (h0.trans hu)) (okV_s (by decide) (by decide) hkk (.inr rfl)).1; rw [hz] at h; exact h)) hE hB (fun u vd Lc ht54 hE => ?_)
      have h0 := h0.trans ht54
      refine at_sub (.cons (.skip rfl (.cons (.cons (.cons (.cons (.cons (.cons (.cons (.cons (.cons (.cons (.cons (.cons (.cons .rfl'))))))))))))))) ?_
      refine at_cd ?_
      refine cd_sq ?_
      have hE := pl_all (by decide) (hasB_all hv0) hE
      have hkk := okV_get k41 (by decide) (hasB_all hv0)
      refine cd_sq ?_
      refine ap_load (off := 9) rfl Tryz.underlying148 rfl tiSl_kmsg_ShareFetchResponseTopicPartitionAcquiredRecord.size rfl Tryz.underlying146 rfl (hyr42.mv h0 (by simp)) rfl rfl ?_
      refine at_cd ?_
      obtain ⟨hll, hlz, hle⟩ := okV_l hkk
      have hE := ls_open (by decide) hll hlz hE
      have hel := els_len hll
      refine cd_sq ?_
      refine ap_flexL (T' := 0) rfl en_65 en_66 Tryz.underlying146 rfl rfl rfl rfl (fun hq u hu => by subst hq; exact al_c u _ hel) (fun hq u hu => by subst hq; exact al_n u _ hel) hE hB (fun u vd Lc ht55 hE => ?_)
      have h0 := h0.trans ht55
      refine at_cd ?_
      refine ap_range (Tl := fun i => ((els (ye30.at_ 7)).drop i).flatMap (valueB 10 F_sShareFetchResponseTopicPartitionAcquiredRecord false v q)) Tryz.underlying146 rfl (by omega) rfl hE (fun i58 u vd Lc N' X' hi59 hu57 hE kb => ?_) (fun u vd Lc ht56 hE => ?_)
      · skip
        have h0 := h0.trans hu57
        have hE := ls_step hi59 hE
        rcases Hg31_7 with hm0 | ⟨gg, oo, lc, rfl, hgc, hgl, hge⟩
        · omega
        have hy := hge i58 hi59
        have hyr := seg_rc hgc hgl hi59
        have hkk := hle i58 hi59
        refine cd_sq ?_
        refine ap_copy rfl rfl ?_
        refine at_cd ?_
        refine cd_sq ?_
        refine ap_idx (ez := 4) rfl Tryz.underlying146 tipub_kmsg_ShareFetchResponseTopicPartitionAcquiredRecord.size hi59 rfl rfl ?_
        refine at_cd ?_
        have hy := RE_part hy
        have hyr : RC t gg (oo + i58 * 4) _ := hyr
        generalize hyy : (els (ye30.at_ 7))[i58] = ye60 at *
        obtain ⟨fc61, mv61, hce61, hfl61, hTg61⟩ := hy
        simp only [F_sShareFetchResponseTopicPartitionAcquiredRecord, RMl] at hfl61
        obtain ⟨x61_0, z61_0, e61_0, g61_0, x61_1, z61_1, e61_1, g61_1, x61_2, z61_2, e61_2, g61_2, hend61⟩ := hfl61
        obtain ⟨rfl, hI61_0⟩ := RMf_i64.1 g61_0
        obtain ⟨rfl, hI61_1⟩ := RMf_i64.1 g61_1
        obtain rfl := RMf_i16.1 g61_2
        subst hend61
        subst e61_2
        subst e61_1
        subst e61_0
        rw [hce61] at hyr
        simp only [List.cons_append, List.nil_append, List.append_assoc] at hyr
        obtain ⟨hfl, hfu62⟩ := (show okP F_sShareFetchResponseTopicPartitionAcquiredRecord v q ye60 from hkk)
        obtain ⟨k63, hfl⟩ := okFl_cons hfl
        obtain ⟨k64, hfl⟩ := okFl_cons hfl
        obtain ⟨k65, hfl⟩ := okFl_cons hfl
        have hE := vt_open (by decide) hfu62 hE
        have hyr66 := hyr
        refine cd_sq ?_
        have hE := pl_all (by decide) (hasB_all hv0) hE
        have hkk := okV_get k63 (by decide) (hasB_all hv0)
        refine cd_sq ?_
        refine ap_load (off := 0) rfl Tryz.underlying153 rfl tiint64.size rfl Tryz.underlying2 rfl (hyr66.mv h0 (by simp)) rfl rfl ?_
        refine at_cd ?_
        refine ap_call en_69 rfl rfl (fun u hu => by rw [fieldB_s0 (by decide) (by decide) (by decide)]; exact as_i64 u _ _ _) hE hB (fun u vd Lc ht67 hE => ?_)
        have h0 := h0.trans ht67
        refine at_sub (.cons (.skip rfl (.cons (.cons (.cons (.cons (.cons (.cons (.cons (.cons (.cons (.cons (.cons (.cons (.cons (.cons (.cons (.cons (.cons (.cons .rfl')))))))))))))))))))) ?_
        refine at_cd ?_
        refine cd_sq ?_
        have hE := pl_all (by decide) (hasB_all hv0) hE
        have hkk := okV_get k64 (by decide) (hasB_all hv0)
        refine cd_sq ?_
        refine ap_load (off := 1) rfl Tryz.underlying153 rfl tiint64.size rfl Tryz.underlying2 rfl (hyr66.mv h0 (by simp)) rfl rfl ?_
        refine at_cd ?_
        refine ap_call en_69 rfl rfl (fun u hu => by rw [fieldB_s0 (by decide) (by decide) (by decide)]; exact as_i64 u _ _ _) hE hB (fun u vd Lc ht68 hE => ?_)
        have h0 := h0.trans ht68
        refine at_sub (.cons (.skip rfl (.cons (.cons (.cons (.cons (.cons (.cons (.cons (.cons (.cons (.cons (.cons (.cons (.cons (.cons (.cons (.cons (.cons (.cons .rfl')))))))))))))))))))) ?_
        refine at_cd ?_
        refine cd_sq ?_
        have hE := pl_all (by decide) (hasB_all hv0) hE
        have hkk := okV_get k65 (by decide) (hasB_all hv0)
        refine cd_sq ?_
        refine ap_load (off := 2) rfl Tryz.underlying153 rfl tiint16.size rfl Tryz.underlying45 rfl (hyr66.mv h0 (by simp)) rfl rfl ?_
        refine at_cd ?_
        refine ap_call en_86 rfl rfl (fun u hu => by rw [fieldB_s0 (by decide) (by decide) (by decide)]; exact as_i16 u _ _ _) hE hB (fun u vd Lc ht69 hE => ?_)
        have h0 := h0.trans ht69
        refine at_sub (.cons (.skip rfl (.cons (.cons (.cons (.cons (.cons (.cons (.cons (.cons (.cons (.cons (.cons (.cons (.cons (.cons (.cons (.cons (.cons (.cons .rfl')))))))))))))))))))) ?_
        refine at_cd ?_
        have hE := pl_nil hE
        refine ap_tags (off := 3) rfl rfl Tryz.underlying153 rfl tipub_kmsg_Tags.size rfl (hyr66.mv h0 (by simp)) rfl (hTg61.mv h0) (fun h => (hfu62 h).2) rfl rfl rfl hE hB (fun u vd Lc ht70 hE => ?_)
        have h0 := h0.trans ht70
        exact at_sub (.cons (.skip rfl (.skip rfl (.cons (.cons (.cons (.cons (.cons (.cons (.cons (.cons (.cons (.cons (.cons (.cons (.cons (.cons (.cons (.cons .rfl'))))))))))))))))))) (kb _ _ _ (((ht67.trans ht68).trans ht69).trans ht70) hE)
      have hE := ls_end hE
      have h0 := h0.trans ht56
      refine at_sub (.cons (.skip rfl (.cons (.cons (.cons (.cons (.cons (.cons (.cons (.cons (.cons (.cons (.cons (.cons (.cons .rfl'))))))))))))))) ?_
      refine at_cd ?_
      have hE := pl_nil hE
      refine ap_tags (off := 10) rfl rfl Tryz.underlying148 rfl tipub_kmsg_Tags.size rfl (hyr42.mv h0 (by simp)) rfl (hTg31.mv h0) (fun h => (hfu33 h).2) rfl rfl rfl hE hB (fun u vd Lc ht71 hE => ?_)
      have h0 := h0.trans ht71
      exact at_sub (.cons (.skip rfl (.skip rfl (.cons (.cons (.cons (.cons (.cons (.cons (.cons (.cons (.cons (.cons (.cons .rfl')))))))))))))) (kb _ _ _ (((((((((((ht43.trans ht44).trans ht45).trans ht46).trans ht47).trans ht51).trans ht52).trans ht53).trans ht54).trans ht55).trans ht56).trans ht71) hE)
    have hE := ls_end hE
    have h0 := h0.trans ht26
    refine at_sub (.cons (.skip rfl (.cons (.cons (.cons (.cons (.cons (.cons (.cons (.cons .rfl')))))))))) ?_
    refine at_cd ?_
    have hE := pl_nil hE
    refine ap_tags (off := 17) rfl rfl Tryz.underlying137 rfl tipub_kmsg_Tags.size rfl (hyr23.mv h0 (by simp)) rfl (hTg19.mv h0) (fun h => (hfu20 h).2) rfl rfl rfl hE hB (fun u vd Lc ht72 hE => ?_)
    have h0 := h0.trans ht72
    exact at_sub (.cons (.skip rfl (.skip rfl (.cons (.cons (.cons (.cons (.cons (.cons .rfl'))))))))) (kb _ _ _ (((ht24.trans ht25).trans ht26).trans ht72) hE)
  have hE := ls_end hE
  have h0 := h0.trans ht14
  refine at_sub (.cons (.skip rfl (.cons (.cons (.cons .rfl'))))) ?_
  refine at_cd ?_
  refine cd_sq ?_
  have hE := pl_all (by decide) (hasB_all hv0) hE
  have hkk := okV_get k7 (by decide) (hasB_all hv0)
  refine cd_sq ?_
  refine ap_load (off := 6) rfl Tryz.underlying81 rfl tiSl_kmsg_ShareFetchResponseNodeEndpoint.size rfl Tryz.underlying79 rfl (hrc.mv h0 (by simp)) rfl rfl ?_
  refine at_cd ?_
  obtain ⟨hll, hlz, hle⟩ := okV_l hkk
  have hE := ls_open (by decide) hll hlz hE
  have hel := els_len hll
  refine cd_sq ?_
  refine ap_flexL (T' := 0) rfl en_65 en_66 Tryz.underlying79 rfl rfl rfl rfl (fun hq u hu => by subst hq; exact al_c u _ hel) (fun hq u hu => by subst hq; exact al_n u _ hel) hE hB (fun u vd Lc ht73 hE => ?_)
  have h0 := h0.trans ht73
  refine at_cd ?_
  refine ap_range (Tl := fun i => ((els (y.at_ 5)).drop i).flatMap (valueB 10 F_sShareFetchResponseNodeEndpoint false v q)) Tryz.underlying79 rfl (by omega) rfl hE (fun i76 u vd Lc N' X' hi77 hu75 hE kb => ?_) (fun u vd Lc ht74 hE => ?_)
  · skip
    have h0 := h0.trans hu75
    have hE := ls_step hi77 hE
    rcases Hg1_5 with hm0 | ⟨gg, oo, lc, rfl, hgc, hgl, hge⟩
    · omega
    have hy := hge i76 hi77
    have hyr := seg_rc hgc hgl hi77
    have hkk := hle i76 hi77
    refine cd_sq ?_
    refine ap_copy rfl rfl ?_
    refine at_cd ?_
    refine cd_sq ?_
    refine ap_idx (ez := 5) rfl Tryz.underlying79 tipub_kmsg_ShareFetchResponseNodeEndpoint.size hi77 rfl rfl ?_
    refine at_cd ?_
    have hy := RE_part hy
    have hyr : RC t gg (oo + i76 * 5) _ := hyr
    generalize hyy : (els (y.at_ 5))[i76] = ye78 at *
    obtain ⟨fc79, mv79, hce79, hfl79, hTg79⟩ := hy
    simp only [F_sShareFetchResponseNodeEndpoint, RMl] at hfl79
    obtain ⟨x79_0, z79_0, e79_0, g79_0, x79_1, z79_1, e79_1, g79_1, x79_2, z79_2, e79_2, g79_2, x79_3, z79_3, e79_3, g79_3, hend79⟩ := hfl79
    obtain rfl := RMf_i32.1 g79_0
    obtain rfl := (RMf_str (by decide)).1 g79_1
    obtain rfl := RMf_i32.1 g79_2
    obtain ⟨d79_3, rfl, Gg79_3⟩ := (RMf_txt (by decide)).1 g79_3
    subst hend79
    subst e79_3
    subst e79_2
    subst e79_1
    subst e79_0
    rw [hce79] at hyr
    simp only [List.cons_append, List.nil_append, List.append_assoc] at hyr
    obtain ⟨hfl, hfu80⟩ := (show okP F_sShareFetchResponseNodeEndpoint v q ye78 from hkk)
    obtain ⟨k81, hfl⟩ := okFl_cons hfl
    obtain ⟨k82, hfl⟩ := okFl_cons hfl
    obtain ⟨k83, hfl⟩ := okFl_cons hfl
    obtain ⟨k84, hfl⟩ := okFl_cons hfl
    have hE := vt_open (by decide) hfu80 hE
    have hyr85 := hyr
    refine cd_sq ?_
    have hE := pl_all (by decide) (hasB_all hv0) hE
    have hkk := okV_get k81 (by decide) (hasB_all hv0)
    refine cd_sq ?_
    refine ap_load (off := 0) rfl Tryz.underlying140 rfl tiint32.size rfl Tryz.underlying21 rfl (hyr85.mv h0 (by simp)) rfl rfl ?_
    refine at_cd ?_
    refine ap_call en_64 rfl rfl (fun u hu => by rw [fieldB_s0 (by decide) (by decide) (by decide)]; exact as_i32 u _ _ _) hE hB (fun u vd Lc ht86 hE => ?_)
    have h0 := h0.trans ht86
    refine at_sub (.cons (.skip rfl (.cons (.cons (.cons (.cons (.cons (.cons (.cons (.cons .rfl')))))))))) ?_
    refine at_cd ?_
    refine cd_sq ?_
    have hE := pl_all (by decide) (hasB_all hv0) hE
    have hkk := okV_get k82 (by decide) (hasB_all hv0)
    refine cd_sq ?_
    refine ap_load (off := 1) rfl Tryz.underlying140 rfl tistring.size rfl Tryz.underlying9 rfl (hyr85.mv h0 (by simp)) rfl rfl ?_
    refine at_cd ?_
    refine ap_flex rfl en_67 en_68 rfl rfl rfl rfl (fun hq u hu => by subst hq; rw [fieldB_s0 (by decide) (by decide) (by decide)]; exact as_cstr u _ (okV_s (by decide) (by decide) hkk (.inl rfl)).1) (fun hq u hu => by subst hq; rw [fieldB_s0 (by decide) (by decide) (by decide)]; exact as_str u _ (okV_s (by decide) (by decide) hkk (.inl rfl)).1) hE hB (fun u vd Lc ht87 hE => ?_)
    have h0 := h0.trans ht87
    refine at_sub (.cons (.skip rfl (.cons (.cons (.cons (.cons (.cons (.cons (.cons (.cons .rfl')))))))))) ?_
    refine at_cd ?_
    refine cd_sq ?_
    have hE := pl_all (by decide) (hasB_all hv0) hE
    have hkk := okV_get k83 (by decide) (hasB_all hv0)
    refine cd_sq ?_
    refine ap_load (off := 2) rfl Tryz.underlying140 rfl tiint32.size rfl Tryz.underlying21 rfl (hyr85.mv h0 (by simp)) rfl rfl ?_
    refine at_cd ?_
    refine ap_call en_64 rfl rfl (fun u hu => by rw [fieldB_s0 (by decide) (by decide) (by decide)]; exact as_i32 u _ _ _) hE hB (fun u vd Lc ht88 hE => ?_)
    have h0 := h0.trans ht88
    refine at_sub (.cons (.skip rfl (.cons (.cons (.cons (.cons (.cons (.cons (.cons (.cons .rfl')))))))))) ?_
    refine at_cd ?_
    refine cd_sq ?_
    have hE := pl_all (by decide) (hasB_all hv0) hE
    have hkk := okV_get k84 (by decide) (hasB_all hv0)
    refine cd_sq ?_
    refine ap_load (off := 3) rfl Tryz.underlying140 rfl tiPt_string.size rfl Tryz.underlying52 rfl (hyr85.mv h0 (by simp)) rfl rfl ?_
    refine at_cd ?_
    refine ap_flex rfl en_74 en_75 rfl rfl rfl rfl (fun hq u hu => by subst hq; rw [fieldB_sz (by decide) (by decide) (by decide) (by omega)]; exact as_ctxt u _ _ (Gg79_3.mv (h0.trans hu)) (okV_s (by decide) (by decide) hkk (.inl rfl)).1) (fun hq u hu => by subst hq; rw [fieldB_sz (by decide) (by decide) (by decide) (by omega)]; exact as_txt u _ _ (Gg79_3.mv (h0.trans hu)) (okV_s (by decide) (by decide) hkk (.inl rfl)).1) hE hB (fun u vd Lc ht89 hE => ?_)
    have h0 := h0.trans ht89
    refine at_sub (.cons (.skip rfl (.cons (.cons (.cons (.cons (.cons (.cons (.cons (.cons .rfl')))))))))) ?_
    refine at_cd ?_
    have hE := pl_nil hE
    refine ap_tags (off := 4) rfl rfl Tryz.underlying140 rfl tipub_kmsg_Tags.size rfl (hyr85.mv h0 (by simp)) rfl (hTg79.mv h0) (fun h => (hfu80 h).2) rfl rfl rfl hE hB (fun u vd Lc ht90 hE => ?_)
    have h0 := h0.trans ht90
    exact at_sub (.cons (.skip rfl (.skip rfl (.cons (.cons (.cons (.cons (.cons (.cons .rfl'))))))))) (kb _ _ _ ((((ht86.trans ht87).trans ht88).trans ht89).trans ht90) hE)
  have hE := ls_end hE
  have h0 := h0.trans ht74
  refine at_sub (.cons (.skip rfl (.cons (.cons (.cons .rfl'))))) ?_
  refine at_cd ?_
  have hE := pl_nil hE
  refine cd_sq ?_
  refine ap_tags (off := 7) rfl rfl Tryz.underlying81 rfl tipub_kmsg_Tags.size rfl (hrc.mv h0 (by simp)) rfl (hTg1.mv h0) (fun h => (hfu h).2) rfl rfl rfl hE hB (fun u vd Lc ht91 hE => ?_)
  have h0 := h0.trans ht91
  refine at_cd ?_
  have hE : Lc = Full := by simpa using hE
  subst hE
  refine cd_rowone (i := 0) rfl (fun hone => ?_)
  refine cd_sr ?_
  refine ln_pv (pv_move rfl) rfl ?_
  refine ln_pv (pv_assign rfl) rfl ?_
  refine ln_cd ?_
  refine cd_ret ?_
  exact at_retT (i := 0) rfl rfl rfl (fun w hS => ⟨rfl, hone⟩)
end K
end Go.Proofs.YtmknncmdbmnmgabGreat
