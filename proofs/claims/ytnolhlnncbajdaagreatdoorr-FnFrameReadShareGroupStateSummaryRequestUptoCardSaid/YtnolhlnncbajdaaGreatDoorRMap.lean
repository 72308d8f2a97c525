import Derived.Test.YtnolhlnncbajdaaGreatDoorRA8
import Derived.Test.YtnolhlnncbajdaaGreatDoorRMas
set_option linter.unusedVariables false
set_option linter.unusedSimpArgs false
namespace Go.Proofs.YtnolhlnncbajdaaGreatDoorR
namespace K
open Go Go.Lib
theorem append_ReadShareGroupStateSummaryRequest (t : Vw) (b : Nat) (v : Int) (y : Tre) (cells : List Value) (vd : Value) (L0 : List UInt8) (hrc : RC t b 0 (.int .i16 v :: cells)) (hM : RMp t F_ReadShareGroupStateSummaryRequest y cells) (hfit : okP F_ReadShareGroupStateSummaryRequest v (flexB 0 v) y) (h0 : 0 ≤ v) (h1 : v ≤ 1) (hB : (L0 ++ partB F_ReadShareGroupStateSummaryRequest v (flexB 0 v) y).length ≤ 4398046511104) (hok : (OctRow vd L0).ok t.w) (hav : ∀ q ∈ (OctRow vd L0).blk, t.av q) : CT Tryz.prog 123 [.pointer (some ⟨b, 0, none⟩), vd] t (OctRow vd L0) fun _ r e' => e' = OctRow r (L0 ++ partB F_ReadShareGroupStateSummaryRequest v (flexB 0 v) y) ∧ r.oneCell' = true := by
  have hv0 := h0
  clear h0
  obtain ⟨fc1, mv1, hce1, hfl1, hTg1⟩ := hM
  simp only [F_ReadShareGroupStateSummaryRequest, RMl] at hfl1
  obtain ⟨x1_0, z1_0, e1_0, g1_0, x1_1, z1_1, e1_1, g1_1, hend1⟩ := hfl1
  obtain rfl := (RMf_str (by decide)).1 g1_0
  obtain ⟨_, rfl, Gg1_1⟩ := RMf_list.1 g1_1
  obtain ⟨ad1_1, cap1_1, rfl, hnil1_1, Hg1_1⟩ := Gg1_1.els
  subst hend1
  subst e1_1
  subst e1_0
  rw [hce1] at hrc
  simp only [List.cons_append, List.nil_append, List.append_assoc] at hrc
  obtain ⟨hfl, hfu⟩ := hfit
  obtain ⟨k2, hfl⟩ := okFl_cons hfl
  obtain ⟨k3, hfl⟩ := okFl_cons hfl
  have hq0 : decide (v ≥ 0) = flexB 0 v := by simp [flexB]
  obtain ⟨Full, hFull⟩ : ∃ F : List UInt8, L0 ++ partB F_ReadShareGroupStateSummaryRequest v (flexB 0 v) y = F := ⟨_, rfl⟩
  rw [hFull] at hB ⊢
  have hE : L0 ++ (partB F_ReadShareGroupStateSummaryRequest v (flexB 0 v) y ++ []) = Full := by rw [List.append_nil]; exact hFull
  clear hFull
  generalize flexB 0 v = q at *
  have hE := pt_open (by decide) hfu hE
  refine ct_enter Tryz.func123 rfl Tryz.ntmps123 rfl hok hav (by simp only [Ent.blk]; cases vd.ownBlock <;> simp) ?_
  generalize L0 = Lc at *
  have h0 : Tr t t := Tr.refl t
  refine cd_sub_ (L' := [(1, vd), (0, .pointer (some ⟨b, 0, none⟩))]) (.put rfl (.put rfl .nil)) ?_
  refine cd_sq ?_
  refine ap_const rfl ?_
  refine at_sub (.skip rfl .rfl') ?_
  refine at_cd ?_
  refine cd_sq ?_
  refine ap_load0 rfl Tryz.underlying74 rfl tiint16.size rfl Tryz.underlying45 rfl (hrc.mv h0 (by simp)) rfl rfl ?_
  refine at_sub (.swap rfl) ?_
  refine at_cd ?_
  refine cd_sq ?_
  refine ap_blank rfl rfl ?_
  refine at_cd ?_
  refine cd_sq ?_
  refine ap_geqF rfl hq0 rfl ?_
  refine at_sub (.swap rfl) ?_
  refine at_cd ?_
  refine cd_sq ?_
  refine ap_blank rfl rfl ?_
  refine at_cd ?_
  refine cd_sq ?_
  have hE := pl_all (by decide) (hasB_all hv0) hE
  have hkk := okV_get k2 (by decide) (hasB_all hv0)
  refine cd_sq ?_
  refine ap_load (off := 1) rfl Tryz.underlying74 rfl tistring.size rfl Tryz.underlying9 rfl (hrc.mv h0 (by simp)) rfl rfl ?_
  refine at_cd ?_
  refine ap_flex rfl en_127 en_104 rfl rfl rfl rfl (fun hq u hu => by subst hq; rw [fieldB_s0 (by decide) (by decide) (by decide)]; exact as_cstr u _ (okV_s (by decide) (by decide) hkk (.inl rfl)).1) (fun hq u hu => by subst hq; rw [fieldB_s0 (by decide) (by decide) (by decide)]; exact as_str u _ (okV_s (by decide) (by decide) hkk (.inl rfl)).1) hE hB (fun u vd Lc ht4 hE => ?_)
  have h0 := h0.trans ht4
  refine at_sub (.cons (.skip rfl (.cons (.cons (.cons .rfl'))))) ?_
  refine at_cd ?_
  refine cd_sq ?_
  have hE := pl_all (by decide) (hasB_all hv0) hE
  have hkk := okV_get k3 (by decide) (hasB_all hv0)
  refine cd_sq ?_
  refine ap_load (off := 2) rfl Tryz.underlying74 rfl tiSl_kmsg_ReadShareGroupStateSummaryRequestTopic.size rfl Tryz.underlying69 rfl (hrc.mv h0 (by simp)) rfl rfl ?_
  refine at_cd ?_
  obtain ⟨hll, hlz, hle⟩ := okV_l hkk
  have hE := ls_open (by decide) hll hlz hE
  have hel := els_len hll
  refine cd_sq ?_
  refine ap_flexL (T' := 0) rfl en_128 en_129 Tryz.underlying69 rfl rfl rfl rfl (fun hq u hu => by subst hq; exact al_c u _ hel) (fun hq u hu => by subst hq; exact al_n u _ hel) hE hB (fun u vd Lc ht5 hE => ?_)
  have h0 := h0.trans ht5
  refine at_cd ?_
  refine ap_range (Tl := fun i => ((els (y.at_ 1)).drop i).flatMap (valueB 10 F_sReadShareGroupStateSummaryRequestTopic false v q)) Tryz.underlying69 rfl (by omega) rfl hE (fun i8 u vd Lc N' X' hi9 hu7 hE kb => ?_) (fun u vd Lc ht6 hE => ?_)
  · skip
    have h0 := h0.trans hu7
    have hE := ls_step hi9 hE
    rcases Hg1_1 with hm0 | ⟨gg, oo, lc, rfl, hgc, hgl, hge⟩
    · omega
    have hy := hge i8 hi9
    have hyr := seg_rc hgc hgl hi9
    have hkk := hle i8 hi9
    refine cd_sq ?_
    refine ap_copy rfl rfl ?_
    refine at_cd ?_
    refine cd_sq ?_
    refine ap_idx (ez := 18) rfl Tryz.underlying69 tipub_kmsg_ReadShareGroupStateSummaryRequestTopic.size hi9 rfl rfl ?_
    refine at_cd ?_
    have hy := RE_part hy
    have hyr : RC t gg (oo + i8 * 18) _ := hyr
    generalize hyy : (els (y.at_ 1))[i8] = ye10 at *
    obtain ⟨fc11, mv11, hce11, hfl11, hTg11⟩ := hy
    simp only [F_sReadShareGroupStateSummaryRequestTopic, RMl] at hfl11
    obtain ⟨x11_0, z11_0, e11_0, g11_0, x11_1, z11_1, e11_1, g11_1, hend11⟩ := hfl11
    have hq11_0 := RMf_uuid.1 g11_0
    obtain ⟨u11_0_0, u11_0_1, u11_0_2, u11_0_3, u11_0_4, u11_0_5, u11_0_6, u11_0_7, u11_0_8, u11_0_9, u11_0_10, u11_0_11, u11_0_12, u11_0_13, u11_0_14, u11_0_15, hu11_0⟩ := uuid16 (ye10.at_ 0).s
    rw [hu11_0] at hq11_0
    subst hq11_0
    obtain ⟨_, rfl, Gg11_1⟩ := RMf_list.1 g11_1
    obtain ⟨ad11_1, cap11_1, rfl, hnil11_1, Hg11_1⟩ := Gg11_1.els
    subst hend11
    subst e11_1
    subst e11_0
    rw [hce11] at hyr
    simp only [List.cons_append, List.nil_append, List.append_assoc] at hyr
    obtain ⟨hfl, hfu12⟩ := (show okP F_sReadShareGroupStateSummaryRequestTopic v q ye10 from hkk)
    obtain ⟨k13, hfl⟩ := okFl_cons hfl
    obtain ⟨k14, hfl⟩ := okFl_cons hfl
    have hE := vt_open (by decide) hfu12 hE
    have hyr15 := hyr
    refine cd_sq ?_
    have hE := pl_all (by decide) (hasB_all hv0) hE
    have hkk := okV_get k13 (by decide) (hasB_all hv0)
    refine ap_uuid (off := 0) (vs := [u11_0_0, u11_0_1, u11_0_2, u11_0_3, u11_0_4, u11_0_5, u11_0_6, u11_0_7, u11_0_8, u11_0_9, u11_0_10, u11_0_11, u11_0_12, u11_0_13, u11_0_14, u11_0_15]) rfl Tryz.underlying117 rfl ti_16_uint8.size rfl Tryz.underlying114 rfl ti_16_uint8 (zl := List.replicate 16 (.int .u8 0)) rfl rfl (hyr15.mv h0 (by simp)) rfl rfl (by rw [← hu11_0]; exact u8s_one _) en_130 rfl (fun u hu => by have h := as_uuid u (ye10.at_ 0) false q; rw [hu11_0] at h; rw [fieldB_s0 (by decide) (by decide) (by decide)]; exact h) hE hB (fun u vd Lc ht16 hE => ?_)
    have h0 := h0.trans ht16
    refine at_cd ?_
    refine cd_sq ?_
    have hE := pl_all (by decide) (hasB_all hv0) hE
    have hkk := okV_get k14 (by decide) (hasB_all hv0)
    refine cd_sq ?_
    refine ap_load (off := 16) rfl Tryz.underlying117 rfl tiSl_kmsg_ReadShareGroupStateSummaryRequestTopicPartition.size rfl Tryz.underlying115 rfl (hyr15.mv h0 (by simp)) rfl rfl ?_
    refine at_cd ?_
    obtain ⟨hll, hlz, hle⟩ := okV_l hkk
    have hE := ls_open (by decide) hll hlz hE
    have hel := els_len hll
    refine cd_sq ?_
    refine ap_flexL (T' := 0) rfl en_128 en_129 Tryz.underlying115 rfl rfl rfl rfl (fun hq u hu => by subst hq; exact al_c u _ hel) (fun hq u hu => by subst hq; exact al_n u _ hel) hE hB (fun u vd Lc ht17 hE => ?_)
    have h0 := h0.trans ht17
    refine at_cd ?_
    refine ap_range (Tl := fun i => ((els (ye10.at_ 1)).drop i).flatMap (valueB 10 F_sReadShareGroupStateSummaryRequestTopicPartition false v q)) Tryz.underlying115 rfl (by omega) rfl hE (fun i20 u vd Lc N' X' hi21 hu19 hE kb => ?_) (fun u vd Lc ht18 hE => ?_)
    · skip
      have h0 := h0.trans hu19
      have hE := ls_step hi21 hE
      rcases Hg11_1 with hm0 | ⟨gg, oo, lc, rfl, hgc, hgl, hge⟩
      · omega
      have hy := hge i20 hi21
      have hyr := seg_rc hgc hgl hi21
      have hkk := hle i20 hi21
      refine cd_sq ?_
      refine ap_copy rfl rfl ?_
      refine at_cd ?_
      refine cd_sq ?_
      refine ap_idx (ez := 3) rfl Tryz.underlying115 tipub_kmsg_ReadShareGroupStateSummaryRequestTopicPartition.size hi21 rfl rfl ?_
      refine at_cd ?_
      have hy := RE_part hy
      have hyr : RC t gg (oo + i20 * 3) _ := hyr
      generalize hyy : (els (ye10.at_ 1))[i20] = ye22 at *
      obtain ⟨fc23, mv23, hce23, hfl23, hTg23⟩ := hy
      simp only [F_sReadShareGroupStateSummaryRequestTopicPartition, RMl] at hfl23
      obtain ⟨x23_0, z23_0, e23_0, g23_0, x23_1, z23_1, e23_1, g23_1, hend23⟩ := hfl23
      obtain rfl := RMf_i32.1 g23_0
      obtain rfl := RMf_i32.1 g23_1
      subst hend23
      subst e23_1
      subst e23_0
      rw [hce23] at hyr
      simp only [List.cons_append, List.nil_append, List.append_assoc] at hyr
      obtain ⟨hfl, hfu24⟩ := (show okP F_sReadShareGroupStateSummaryRequestTopicPartition v q ye22 from hkk)
      obtain ⟨k25, hfl⟩ := okFl_cons hfl
      obtain ⟨k26, hfl⟩ := okFl_cons hfl
      have hE := vt_open (by decide) hfu24 hE
      have hyr27 := hyr
      refine cd_sq ?_
      have hE := pl_all (by decide) (hasB_all hv0) hE
      have hkk := okV_get k25 (by decide) (hasB_all hv0)
      refine cd_sq ?_
      refine ap_load (off := 0) rfl Tryz.underlying121 rfl tiint32.size rfl Tryz.underlying21 rfl (hyr27.mv h0 (by simp)) rfl rfl ?_
      refine at_cd ?_
      refine ap_call en_90 rfl rfl (fun u hu => by rw [fieldB_s0 (by decide) (by decide) (by decide)]; exact as_i32 u _ _ _) hE hB (fun u vd Lc ht28 hE => ?_)
      have h0 := h0.trans ht28
      refine at_sub (.cons (.skip rfl (.cons (.cons (.cons (.cons (.cons (.cons (.cons (.cons (.cons (.cons (.cons (.cons (.cons .rfl'))))))))))))))) ?_
      refine at_cd ?_
      refine cd_sq ?_
      have hE := pl_all (by decide) (hasB_all hv0) hE
      have hkk := okV_get k26 (by decide) (hasB_all hv0)
      refine cd_sq ?_
      refine ap_load (off := 1) rfl Tryz.underlying121 rfl tiint32.size rfl Tryz.underlying21 rfl (hyr27.mv h0 (by simp)) rfl rfl ?_
      refine at_cd ?_
      refine ap_call en_90 rfl rfl (fun u hu => by rw [fieldB_s0 (by decide) (by decide) (by decide)]; exact as_i32 u _ _ _) hE hB (fun u vd Lc ht29 hE => ?_)
      have h0 := h0.trans ht29
      refine at_sub (.cons (.skip rfl (.cons (.cons (.cons (.cons (.cons (.cons (.cons (.cons (.cons (.cons (.cons (.cons (.cons .rfl'))))))))))))))) ?_
      refine at_cd ?_
      have hE := pl_nil hE
      refine ap_tags (off := 2) rfl rfl Tryz.underlying121 rfl tipub_kmsg_Tags.size rfl (hyr27.mv h0 (by simp)) rfl (hTg23.mv h0) (fun h => (hfu24 h).2) rfl rfl rfl hE hB (fun u vd Lc ht30 hE => ?_)
      have h0 := h0.trans ht30
      exact at_sub (.cons (.skip rfl (.skip rfl (.cons (.cons (.cons (.cons (.cons (.cons (.cons (.cons (.cons (.cons (.cons .rfl')))))))))))))) (kb _ _ _ ((ht28.trans ht29).trans ht30) hE)
    have hE := ls_end hE
    have h0 := h0.trans ht18
    refine at_sub (.cons (.skip rfl (.cons (.cons (.cons (.cons (.cons (.cons (.cons (.cons .rfl')))))))))) ?_
    refine at_cd ?_
    have hE := pl_nil hE
    refine ap_tags (off := 17) rfl rfl Tryz.underlying117 rfl tipub_kmsg_Tags.size rfl (hyr15.mv h0 (by simp)) rfl (hTg11.mv h0) (fun h => (hfu12 h).2) rfl rfl rfl hE hB (fun u vd Lc ht31 hE => ?_)
    have h0 := h0.trans ht31
    exact at_sub (.cons (.skip rfl (.skip rfl (.cons (.cons (.cons (.cons (.cons (.cons .rfl'))))))))) (kb _ _ _ (((ht16.trans ht17).trans ht18).trans ht31) hE)
  have hE := ls_end hE
  have h0 := h0.trans ht6
  refine at_sub (.cons (.skip rfl (.cons (.cons (.cons .rfl'))))) ?_
  refine at_cd ?_
  have hE := pl_nil hE
  refine cd_sq ?_
  refine ap_tags (off := 3) rfl rfl Tryz.underlying74 rfl tipub_kmsg_Tags.size rfl (hrc.mv h0 (by simp)) rfl (hTg1.mv h0) (fun h => (hfu h).2) rfl rfl rfl hE hB (fun u vd Lc ht32 hE => ?_)
  have h0 := h0.trans ht32
  refine at_cd ?_
  have hE : Lc = Full := by simpa using hE
  subst hE
  refine cd_rowone (i := 0) rfl (fun hone => ?_)
  refine cd_sr ?_
  refine ln_pv (pv_move rfl) rfl ?_
  refine ln_pv (pv_assign rfl) rfl ?_
  refine ln_cd ?_
  refine cd_ret ?_
  exact at_retT (i := 0) rfl rfl rfl (fun w hS => ⟨rfl, hone⟩)
end K
end Go.Proofs.YtnolhlnncbajdaaGreatDoorR
