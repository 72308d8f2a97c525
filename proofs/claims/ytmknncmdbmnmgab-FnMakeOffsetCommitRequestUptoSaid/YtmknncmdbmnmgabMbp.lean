import Derived.Test.YtmknncmdbmnmgabA5
import Derived.Test.YtmknncmdbmnmgabMbs
set_option linter.unusedVariables false
set_option linter.unusedSimpArgs false
namespace Go.Proofs.Ytmknncmdbmnmgab
namespace K
open Go Go.Lib
theorem append_OffsetCommitRequest (t : Vw) (b : Nat) (v : Int) (y : Tre) (cells : List Value) (vd : Value) (L0 : List UInt8) (hrc : RC t b 0 (.int .i16 v :: cells)) (hM : RMp t F_OffsetCommitRequest y cells) (hfit : okP F_OffsetCommitRequest v (flexB 8 v) y) (h0 : 0 ≤ v) (h1 : v ≤ 10) (hB : (L0 ++ partB F_OffsetCommitRequest v (flexB 8 v) y).length ≤ 4398046511104) (hok : (OctRow vd L0).ok t.w) (hav : ∀ q ∈ (OctRow vd L0).blk, t.av q) : CT Try.prog 39 [.pointer (some ⟨b, 0, none⟩), vd] t (OctRow vd L0) fun _ r e' => e' = OctRow r (L0 ++ partB F_OffsetCommitRequest v (flexB 8 v) y) ∧ r.oneCell' = true := by
  have hv0 := h0
  clear h0
  obtain ⟨fc1, mv1, hce1, hfl1, hTg1⟩ := hM
  simp only [F_OffsetCommitRequest, RMl] at hfl1
  obtain ⟨x1_0, z1_0, e1_0, g1_0, x1_1, z1_1, e1_1, g1_1, x1_2, z1_2, e1_2, g1_2, x1_3, z1_3, e1_3, g1_3, x1_4, z1_4, e1_4, g1_4, x1_5, z1_5, e1_5, g1_5, hend1⟩ := hfl1
  obtain rfl := (RMf_str (by decide)).1 g1_0
  obtain rfl := RMf_i32.1 g1_1
  obtain rfl := (RMf_str (by decide)).1 g1_2
  obtain ⟨d1_3, rfl, Gg1_3⟩ := (RMf_txt (by decide)).1 g1_3
  obtain ⟨rfl, hI1_4⟩ := RMf_i64.1 g1_4
  obtain ⟨_, rfl, Gg1_5⟩ := RMf_list.1 g1_5
  obtain ⟨ad1_5, cap1_5, rfl, hnil1_5, Hg1_5⟩ := Gg1_5.els
  subst hend1
  subst e1_5
  subst e1_4
  subst e1_3
  subst e1_2
  subst e1_1
  subst e1_0
  rw [hce1] at hrc
  simp only [List.cons_append, List.nil_append, List.append_assoc] at hrc
  obtain ⟨hfl, hfu⟩ := hfit
  obtain ⟨k2, hfl⟩ := okFl_cons hfl
  obtain ⟨k3, hfl⟩ := okFl_cons hfl
  obtain ⟨k4, hfl⟩ := okFl_cons hfl
  obtain ⟨k5, hfl⟩ := okFl_cons hfl
  obtain ⟨k6, hfl⟩ := okFl_cons hfl
  obtain ⟨k7, hfl⟩ := okFl_cons hfl
  have hq0 : decide (v ≥ 8) = flexB 8 v := by simp [flexB]
  obtain ⟨Full, hFull⟩ : ∃ F : List UInt8, L0 ++ partB F_OffsetCommitRequest v (flexB 8 v) y = F := ⟨_, rfl⟩
  rw [hFull] at hB ⊢
  have hE : L0 ++ (partB F_OffsetCommitRequest v (flexB 8 v) y ++ []) = Full := by rw [List.append_nil]; exact hFull
  clear hFull
  generalize flexB 8 v = q at *
  have hE := pt_open (by decide) hfu hE
  refine ct_enter Try.func39 rfl Try.ntmps39 rfl hok hav (by simp only [Ent.blk]; cases vd.ownBlock <;> simp) ?_
  generalize L0 = Lc at *
  have h0 : Tr t t := Tr.refl t
  refine cd_sub_ (L' := [(1, vd), (0, .pointer (some ⟨b, 0, none⟩))]) (.put rfl (.put rfl .nil)) ?_
  refine cd_sq ?_
  refine ap_const rfl ?_
  refine at_sub (.skip rfl .rfl') ?_
  refine at_cd ?_
  refine cd_sq ?_
  refine ap_load0 rfl Try.underlying75 rfl tiint16.size rfl Try.underlying45 rfl (hrc.mv h0 (by simp)) rfl rfl ?_
  refine at_sub (.swap rfl) ?_
  refine at_cd ?_
  refine cd_sq ?_
  refine ap_blank rfl rfl ?_
  refine at_cd ?_
  refine cd_sq ?_
  refine ap_geqF rfl hq0 rfl ?_
  refine at_sub (.swap rfl) ?_
  refine at_cd ?_
  refine cd_sq ?_
  refine ap_blank rfl rfl ?_
  refine at_cd ?_
  refine cd_sq ?_
  have hE := pl_all (by decide) (hasB_all hv0) hE
  have hkk := okV_get k2 (by decide) (hasB_all hv0)
  refine cd_sq ?_
  refine ap_load (off := 1) rfl Try.underlying75 rfl tistring.size rfl Try.underlying9 rfl (hrc.mv h0 (by simp)) rfl rfl ?_
  refine at_cd ?_
  refine ap_flex rfl en_56 en_57 rfl rfl rfl rfl (fun hq u hu => by subst hq; rw [fieldB_s0 (by decide) (by decide) (by decide)]; exact as_cstr u _ (okV_s (by decide) (by decide) hkk (.inl rfl)).1) (fun hq u hu => by subst hq; rw [fieldB_s0 (by decide) (by decide) (by decide)]; exact as_str u _ (okV_s (by decide) (by decide) hkk (.inl rfl)).1) hE hB (fun u vd Lc ht8 hE => ?_)
  have h0 := h0.trans ht8
  refine at_sub (.cons (.skip rfl (.cons (.cons (.cons .rfl'))))) ?_
  refine at_cd ?_
  refine cd_sq ?_
  have hE := pl_if (by decide) (hasB_from) hE
  refine ap_if rfl rfl hE (fun u vd Lc ht9 hE => ?_) (fun hva hE kk => ?_)
  rotate_left
  · skip
    have hkk := okV_get k3 (by decide) (by rw [hasB_from]; exact decide_eq_true hva)
    refine cd_sq ?_
    refine ap_load (off := 2) rfl Try.underlying75 rfl tiint32.size rfl Try.underlying21 rfl (hrc.mv h0 (by simp)) rfl rfl ?_
    refine at_cd ?_
    refine ap_call en_58 rfl rfl (fun u hu => by rw [fieldB_s0 (by decide) (by decide) (by decide)]; exact as_i32 u _ _ _) hE hB (fun u vd Lc ht10 hE => ?_)
    have h0 := h0.trans ht10
    refine at_sub (.cons (.skip rfl (.cons (.cons (.cons .rfl'))))) ?_
    exact at_sub (.cons (.cons (.cons (.cons .rfl')))) (kk _ _ _ ht10 hE)
  have h0 := h0.trans ht9
  refine at_cd ?_
  refine cd_sq ?_
  have hE := pl_if (by decide) (hasB_from) hE
  refine ap_if rfl rfl hE (fun u vd Lc ht11 hE => ?_) (fun hva hE kk => ?_)
  rotate_left
  · skip
    have hkk := okV_get k4 (by decide) (by rw [hasB_from]; exact decide_eq_true hva)
    refine cd_sq ?_
    refine ap_load (off := 3) rfl Try.underlying75 rfl tistring.size rfl Try.underlying9 rfl (hrc.mv h0 (by simp)) rfl rfl ?_
    refine at_cd ?_
    refine ap_flex rfl en_56 en_57 rfl rfl rfl rfl (fun hq u hu => by subst hq; rw [fieldB_s0 (by decide) (by decide) (by decide)]; exact as_cstr u _ (okV_s (by decide) (by decide) hkk (.inl rfl)).1) (fun hq u hu => by subst hq; rw [fieldB_s0 (by decide) (by decide) (by decide)]; exact as_str u _ (okV_s (by decide) (by decide) hkk (.inl rfl)).1) hE hB (fun u vd Lc ht12 hE => ?_)
    have h0 := h0.trans ht12
    refine at_sub (.cons (.skip rfl (.cons (.cons (.cons .rfl'))))) ?_
    exact at_sub (.cons (.cons (.cons (.cons .rfl')))) (kk _ _ _ ht12 hE)
  have h0 := h0.trans ht11
  refine at_cd ?_
  refine cd_sq ?_
  have hE := pl_if (by decide) (hasB_from) hE
  refine ap_if rfl rfl hE (fun u vd Lc ht13 hE => ?_) (fun hva hE kk => ?_)
  rotate_left
  · skip
    have hkk := okV_get k5 (by decide) (by rw [hasB_from]; exact decide_eq_true hva)
    refine cd_sq ?_
    refine ap_load (off := 4) rfl Try.underlying75 rfl tiPt_string.size rfl Try.underlying72 rfl (hrc.mv h0 (by simp)) rfl rfl ?_
    refine at_cd ?_
    refine ap_flex rfl en_74 en_75 rfl rfl rfl rfl (fun hq u hu => by subst hq; rw [fieldB_sz (by decide) (by decide) (by decide) (by omega)]; exact as_ctxt u _ _ (Gg1_3.mv (h0.trans hu)) (okV_s (by decide) (by decide) hkk (.inl rfl)).1) (fun hq u hu => by subst hq; rw [fieldB_sz (by decide) (by decide) (by decide) (by omega)]; exact as_txt u _ _ (Gg1_3.mv (h0.trans hu)) (okV_s (by decide) (by decide) hkk (.inl rfl)).1) hE hB (fun u vd Lc ht14 hE => ?_)
    have h0 := h0.trans ht14
    refine at_sub (.cons (.skip rfl (.cons (.cons (.cons .rfl'))))) ?_
    exact at_sub (.cons (.cons (.cons (.cons .rfl')))) (kk _ _ _ ht14 hE)
  have h0 := h0.trans ht13
  refine at_cd ?_
  refine cd_sq ?_
  have hE := pl_if (by decide) (hasB_to (by decide)) hE
  refine ap_if2 rfl rfl hE (fun u vd Lc ht15 hE => ?_) (fun hva hvb hE kk => ?_)
  rotate_left
  · skip
    have hkk := okV_get k6 (by decide) (by rw [hasB_to (by decide)]; exact decide_eq_true ⟨hva, hvb⟩)
    refine cd_sq ?_
    refine ap_load (off := 5) rfl Try.underlying75 rfl tiint64.size rfl Try.underlying2 rfl (hrc.mv h0 (by simp)) rfl rfl ?_
    refine at_cd ?_
    refine ap_call en_76 rfl rfl (fun u hu => by rw [fieldB_s0 (by decide) (by decide) (by decide)]; exact as_i64 u _ _ _) hE hB (fun u vd Lc ht16 hE => ?_)
    have h0 := h0.trans ht16
    refine at_sub (.cons (.skip rfl (.cons (.cons (.cons .rfl'))))) ?_
    exact at_sub (.cons (.cons (.cons (.cons .rfl')))) (kk _ _ _ ht16 hE)
  have h0 := h0.trans ht15
  refine at_cd ?_
  refine cd_sq ?_
  have hE := pl_all (by decide) (hasB_all hv0) hE
  have hkk := okV_get k7 (by decide) (hasB_all hv0)
  refine cd_sq ?_
  refine ap_load (off := 6) rfl Try.underlying75 rfl tiSl_kmsg_OffsetCommitRequestTopic.size rfl Try.underlying73 rfl (hrc.mv h0 (by simp)) rfl rfl ?_
  refine at_cd ?_
  obtain ⟨hll, hlz, hle⟩ := okV_l hkk
  have hE := ls_open (by decide) hll hlz hE
  have hel := els_len hll
  refine cd_sq ?_
  refine ap_flexL (T' := 0) rfl en_54 en_55 Try.underlying73 rfl rfl rfl rfl (fun hq u hu => by subst hq; exact al_c u _ hel) (fun hq u hu => by subst hq; exact al_n u _ hel) hE hB (fun u vd Lc ht17 hE => ?_)
  have h0 := h0.trans ht17
  refine at_cd ?_
  refine ap_range (Tl := fun i => ((els (y.at_ 5)).drop i).flatMap (valueB 10 F_sOffsetCommitRequestTopic false v q)) Try.underlying73 rfl (by omega) rfl hE (fun i20 u vd Lc N' X' hi21 hu19 hE kb => ?_) (fun u vd Lc ht18 hE => ?_)
  · skip
    have h0 := h0.trans hu19
    have hE := ls_step hi21 hE
    rcases Hg1_5 with hm0 | ⟨gg, oo, lc, rfl, hgc, hgl, hge⟩
    · omega
    have hy := hge i20 hi21
    have hyr := seg_rc hgc hgl hi21
    have hkk := hle i20 hi21
    refine cd_sq ?_
    refine ap_copy rfl rfl ?_
    refine at_cd ?_
    refine cd_sq ?_
    refine ap_idx (ez := 19) rfl Try.underlying73 tipub_kmsg_OffsetCommitRequestTopic.size hi21 rfl rfl ?_
    refine at_cd ?_
    have hy := RE_part hy
    have hyr : RC t gg (oo + i20 * 19) _ := hyr
    generalize hyy : (els (y.at_ 5))[i20] = ye22 at *
    obtain ⟨fc23, mv23, hce23, hfl23, hTg23⟩ := hy
    simp only [F_sOffsetCommitRequestTopic, RMl] at hfl23
    obtain ⟨x23_0, z23_0, e23_0, g23_0, x23_1, z23_1, e23_1, g23_1, x23_2, z23_2, e23_2, g23_2, hend23⟩ := hfl23
    obtain rfl := (RMf_str (by decide)).1 g23_0
    have hq23_1 := RMf_uuid.1 g23_1
    obtain ⟨u23_1_0, u23_1_1, u23_1_2, u23_1_3, u23_1_4, u23_1_5, u23_1_6, u23_1_7, u23_1_8, u23_1_9, u23_1_10, u23_1_11, u23_1_12, u23_1_13, u23_1_14, u23_1_15, hu23_1⟩ := uuid16 (ye22.at_ 1).s
    rw [hu23_1] at hq23_1
    subst hq23_1
    obtain ⟨_, rfl, Gg23_2⟩ := RMf_list.1 g23_2
    obtain ⟨ad23_2, cap23_2, rfl, hnil23_2, Hg23_2⟩ := Gg23_2.els
    subst hend23
    subst e23_2
    subst e23_1
    subst e23_0
    rw [hce23] at hyr
    simp only [List.cons_append, List.nil_append, List.append_assoc] at hyr
    obtain ⟨hfl, hfu24⟩ := (show okP F_sOffsetCommitRequestTopic v q ye22 from hkk)
    obtain ⟨k25, hfl⟩ := okFl_cons hfl
    obtain ⟨k26, hfl⟩ := okFl_cons hfl
    obtain ⟨k27, hfl⟩ := okFl_cons hfl
    have hE := vt_open (by decide) hfu24 hE
    have hyr28 := hyr
    refine cd_sq ?_
    have hE := pl_if (by decide) (hasB_to (by decide)) hE
    refine ap_if2 rfl rfl hE (fun u vd Lc ht29 hE => ?_) (fun hva hvb hE kk => ?_)
    rotate_left
    · skip
      have hkk := okV_get k25 (by decide) (by rw [hasB_to (by decide)]; exact decide_eq_true ⟨hva, hvb⟩)
      refine cd_sq ?_
      refine ap_load (off := 0) rfl Try.underlying118 rfl tistring.size rfl Try.underlying9 rfl (hyr28.mv h0 (by simp)) rfl rfl ?_
      refine at_cd ?_
      refine ap_flex rfl en_56 en_57 rfl rfl rfl rfl (fun hq u hu => by subst hq; rw [fieldB_s0 (by decide) (by decide) (by decide)]; exact as_cstr u _ (okV_s (by decide) (by decide) hkk (.inl rfl)).1) (fun hq u hu => by subst hq; rw [fieldB_s0 (by decide) (by decide) (by decide)]; exact as_str u _ (okV_s (by decide) (by decide) hkk (.inl rfl)).1) hE hB (fun u vd Lc ht30 hE => ?_)
      have h0 := h0.trans ht30
      refine at_sub (.cons (.skip rfl (.cons (.cons (.cons (.cons (.cons (.cons (.cons (.cons .rfl')))))))))) ?_
      exact at_sub (.cons (.cons (.cons (.cons (.cons (.cons (.cons (.cons (.cons .rfl'))))))))) (kk _ _ _ ht30 hE)
    have h0 := h0.trans ht29
    refine at_cd ?_
    refine cd_sq ?_
    have hE := pl_if (by decide) (hasB_from) hE
    refine ap_if rfl rfl hE (fun u vd Lc ht31 hE => ?_) (fun hva hE kk => ?_)
    rotate_left
    · skip
      have hkk := okV_get k26 (by decide) (by rw [hasB_from]; exact decide_eq_true hva)
      refine ap_uuid (off := 1) (vs := [u23_1_0, u23_1_1, u23_1_2, u23_1_3, u23_1_4, u23_1_5, u23_1_6, u23_1_7, u23_1_8, u23_1_9, u23_1_10, u23_1_11, u23_1_12, u23_1_13, u23_1_14, u23_1_15]) rfl Try.underlying118 rfl ti_16_uint8.size rfl Try.underlying115 rfl ti_16_uint8 (zl := List.replicate 16 (.int .u8 0)) rfl rfl (hyr28.mv h0 (by simp)) rfl rfl (by rw [← hu23_1]; exact u8s_one _) en_77 rfl (fun u hu => by have h := as_uuid u (ye22.at_ 1) false q; rw [hu23_1] at h; rw [fieldB_s0 (by decide) (by decide) (by decide)]; exact h) hE hB (fun u vd Lc ht32 hE => ?_)
      have h0 := h0.trans ht32
      exact at_sub (.cons (.cons (.cons (.cons (.cons (.cons (.cons (.cons (.cons .rfl'))))))))) (kk _ _ _ ht32 hE)
    have h0 := h0.trans ht31
    refine at_cd ?_
    refine cd_sq ?_
    have hE := pl_all (by decide) (hasB_all hv0) hE
    have hkk := okV_get k27 (by decide) (hasB_all hv0)
    refine cd_sq ?_
    refine ap_load (off := 17) rfl Try.underlying118 rfl tiSl_kmsg_OffsetCommitRequestTopicPartition.size rfl Try.underlying116 rfl (hyr28.mv h0 (by simp)) rfl rfl ?_
    refine at_cd ?_
    obtain ⟨hll, hlz, hle⟩ := okV_l hkk
    have hE := ls_open (by decide) hll hlz hE
    have hel := els_len hll
    refine cd_sq ?_
    refine ap_flexL (T' := 0) rfl en_54 en_55 Try.underlying116 rfl rfl rfl rfl (fun hq u hu => by subst hq; exact al_c u _ hel) (fun hq u hu => by subst hq; exact al_n u _ hel) hE hB (fun u vd Lc ht33 hE => ?_)
    have h0 := h0.trans ht33
    refine at_cd ?_
    refine ap_range (Tl := fun i => ((els (ye22.at_ 2)).drop i).flatMap (valueB 10 F_sOffsetCommitRequestTopicPartition false v q)) Try.underlying116 rfl (by omega) rfl hE (fun i36 u vd Lc N' X' hi37 hu35 hE kb => ?_) (fun u vd Lc ht34 hE => ?_)
    · skip
      have h0 := h0.trans hu35
      have hE := ls_step hi37 hE
      rcases Hg23_2 with hm0 | ⟨gg, oo, lc, rfl, hgc, hgl, hge⟩
      · omega
      have hy := hge i36 hi37
      have hyr := seg_rc hgc hgl hi37
      have hkk := hle i36 hi37
      refine cd_sq ?_
      refine ap_copy rfl rfl ?_
      refine at_cd ?_
      refine cd_sq ?_
      refine ap_idx (ez := 6) rfl Try.underlying116 tipub_kmsg_OffsetCommitRequestTopicPartition.size hi37 rfl rfl ?_
      refine at_cd ?_
      have hy := RE_part hy
      have hyr : RC t gg (oo + i36 * 6) _ := hyr
      generalize hyy : (els (ye22.at_ 2))[i36] = ye38 at *
      obtain ⟨fc39, mv39, hce39, hfl39, hTg39⟩ := hy
      simp only [F_sOffsetCommitRequestTopicPartition, RMl] at hfl39
      obtain ⟨x39_0, z39_0, e39_0, g39_0, x39_1, z39_1, e39_1, g39_1, x39_2, z39_2, e39_2, g39_2, x39_3, z39_3, e39_3, g39_3, x39_4, z39_4, e39_4, g39_4, hend39⟩ := hfl39
      obtain rfl := RMf_i32.1 g39_0
      obtain ⟨rfl, hI39_1⟩ := RMf_i64.1 g39_1
      obtain ⟨rfl, hI39_2⟩ := RMf_i64.1 g39_2
      obtain rfl := RMf_i32.1 g39_3
      obtain ⟨d39_4, rfl, Gg39_4⟩ := (RMf_txt (by decide)).1 g39_4
      subst hend39
      subst e39_4
      subst e39_3
      subst e39_2
      subst e39_1
      subst e39_0
      rw [hce39] at hyr
      simp only [List.cons_append, List.nil_append, List.append_assoc] at hyr
      obtain ⟨hfl, hfu40⟩ := (show okP F_sOffsetCommitRequestTopicPartition v q ye38 from hkk)
      obtain ⟨k41, hfl⟩ := okFl_cons hfl
      obtain ⟨k42, hfl⟩ := okFl_cons hfl
      obtain ⟨k43, hfl⟩ := okFl_cons hfl
      obtain ⟨k44, hfl⟩ := okFl_cons hfl
      obtain ⟨k45, hfl⟩ := okFl_cons hfl
      have hE := vt_open (by decide) hfu40 hE
      have hyr46 := hyr
      refine cd_sq ?_
      have hE := pl_all (by decide) (hasB_all hv0) hE
      have hkk := okV_get k41 (by decide) (hasB_all hv0)
      refine cd_sq ?_
      refine ap_load (off := 0) rfl Try.underlying126 rfl tiint32.size rfl Try.underlying21 rfl (hyr46.mv h0 (by simp)) rfl rfl ?_
      refine at_cd ?_
      refine ap_call en_58 rfl rfl (fun u hu => by rw [fieldB_s0 (by decide) (by decide) (by decide)]; exact as_i32 u _ _ _) hE hB (fun u vd Lc ht47 hE => ?_)
      have h0 := h0.trans ht47
      refine at_sub (.cons (.skip rfl (.cons (.cons (.cons (.cons (.cons (.cons (.cons (.cons (.cons (.cons (.cons (.cons (.cons .rfl'))))))))))))))) ?_
      refine at_cd ?_
      refine cd_sq ?_
      have hE := pl_all (by decide) (hasB_all hv0) hE
      have hkk := okV_get k42 (by decide) (hasB_all hv0)
      refine cd_sq ?_
      refine ap_load (off := 1) rfl Try.underlying126 rfl tiint64.size rfl Try.underlying2 rfl (hyr46.mv h0 (by simp)) rfl rfl ?_
      refine at_cd ?_
      refine ap_call en_76 rfl rfl (fun u hu => by rw [fieldB_s0 (by decide) (by decide) (by decide)]; exact as_i64 u _ _ _) hE hB (fun u vd Lc ht48 hE => ?_)
      have h0 := h0.trans ht48
      refine at_sub (.cons (.skip rfl (.cons (.cons (.cons (.cons (.cons (.cons (.cons (.cons (.cons (.cons (.cons (.cons (.cons .rfl'))))))))))))))) ?_
      refine at_cd ?_
      refine cd_sq ?_
      have hE := pl_if (by decide) (hasB_to (by decide)) hE
      refine ap_if2 rfl rfl hE (fun u vd Lc ht49 hE => ?_) (fun hva hvb hE kk => ?_)
      rotate_left
      · skip
        have hkk := okV_get k43 (by decide) (by rw [hasB_to (by decide)]; exact decide_eq_true ⟨hva, hvb⟩)
        refine cd_sq ?_
        refine ap_load (off := 2) rfl Try.underlying126 rfl tiint64.size rfl Try.underlying2 rfl (hyr46.mv h0 (by simp)) rfl rfl ?_
        refine at_cd ?_
        refine ap_call en_76 rfl rfl (fun u hu => by rw [fieldB_s0 (by decide) (by decide) (by decide)]; exact as_i64 u _ _ _) hE hB (fun u vd Lc ht50 hE => ?_)
        have h0 := h0.trans ht50
        refine at_sub (.cons (.skip rfl (.cons (.cons (.cons (.cons (.cons (.cons (.cons (.cons (.cons (.cons (.cons (.cons (.cons .rfl'))))))))))))))) ?_
        exact at_sub (.cons (.cons (.cons (.cons (.cons (.cons (.cons (.cons (.cons (.cons (.cons (.cons (.cons (.cons .rfl')))))))))))))) (kk _ _ _ ht50 hE)
      have h0 := h0.trans ht49
      refine at_cd ?_
      refine cd_sq ?_
      have hE := pl_if (by decide) (hasB_from) hE
      refine ap_if rfl rfl hE (fun u vd Lc ht51 hE => ?_) (fun hva hE kk => ?_)
      rotate_left
      · skip
        have hkk := okV_get k44 (by decide) (by rw [hasB_from]; exact decide_eq_true hva)
        refine cd_sq ?_
        refine ap_load (off := 3) rfl Try.underlying126 rfl tiint32.size rfl Try.underlying21 rfl (hyr46.mv h0 (by simp)) rfl rfl ?_
        refine at_cd ?_
        refine ap_call en_58 rfl rfl (fun u hu => by rw [fieldB_s0 (by decide) (by decide) (by decide)]; exact as_i32 u _ _ _) hE hB (fun u vd Lc ht52 hE => ?_)
        have h0 := h0.trans ht52
        refine at_sub (.cons (.skip rfl (.cons (.cons (.cons (.cons (.cons (.cons (.cons (.cons (.cons (.cons (.cons (.cons (.cons .rfl'))))))))))))))) ?_
        exact at_sub (.cons (.cons (.cons (.cons (.cons (.cons (.cons (.cons (.cons (.cons (.cons (.cons (.cons (.cons .rfl')))))))))))))) (kk _ _ _ ht52 hE)
      have h0 := h0.trans ht51
      refine at_cd ?_
      refine cd_sq ?_
      have hE := pl_all (by decide) (hasB_all hv0) hE
      have hkk := okV_get k45 (by decide) (hasB_all hv0)
      refine cd_sq ?_
      refine ap_load (off := 4) rfl Try.underlying126 rfl tiPt_string.size rfl Try.underlying72 rfl (hyr46.mv h0 (by simp)) rfl rfl ?_
      refine at_cd ?_
      refine ap_flex rfl en_74 en_75 rfl rfl rfl rfl (fun hq u hu => by subst hq; rw [fieldB_sz (by decide) (by decide) (by decide) (by omega)]; exact as_ctxt u _ _ (Gg39_4.mv (h0.trans hu)) (okV_s (by decide) (by decide) hkk (.inl rfl)).1) (fun hq u hu => by subst hq; rw [fieldB_sz (by decide) (by decide) (by decide) (by omega)]; exact as_txt u _ _ (Gg39_4.mv (h0.trans hu)) (okV_s (by decide) (by decide) hkk (.inl rfl)).1) hE hB (fun u vd Lc ht53 hE => ?_)
      have h0 := h0.trans ht53
      refine at_sub (.cons (.skip rfl (.cons (.cons (.cons (.cons (.cons (.cons (.cons (.cons (.cons (.cons (.cons (.cons (.cons .rfl'))))))))))))))) ?_
      refine at_cd ?_
      have hE := pl_nil hE
      refine ap_tags (off := 5) rfl rfl Try.underlying126 rfl tipub_kmsg_Tags.size rfl (hyr46.mv h0 (by simp)) rfl (hTg39.mv h0) (fun h => (hfu40 h).2) rfl rfl rfl hE hB (fun u vd Lc ht54 hE => ?_)
      have h0 := h0.trans ht54
      exact at_sub (.cons (.skip rfl (.skip rfl (.cons (.cons (.cons (.cons (.cons (.cons (.cons (.cons (.cons (.cons (.cons .rfl')))))))))))))) (kb _ _ _ (((((ht47.trans ht48).trans ht49).trans ht51).trans ht53).trans ht54) hE)
    have hE := ls_end hE
    have h0 := h0.trans ht34
    refine at_sub (.cons (.skip rfl (.cons (.cons (.cons (.cons (.cons (.cons (.cons (.cons .rfl')))))))))) ?_
    refine at_cd ?_
    have hE := pl_nil hE
    refine ap_tags (off := 18) rfl rfl Try.underlying118 rfl tipub_kmsg_Tags.size rfl (hyr28.mv h0 (by simp)) rfl (hTg23.mv h0) (fun h => (hfu24 h).2) rfl rfl rfl hE hB (fun u vd Lc ht55 hE => ?_)
    have h0 := h0.trans ht55
    exact at_sub (.cons (.skip rfl (.skip rfl (.cons (.cons (.cons (.cons (.cons (.cons .rfl'))))))))) (kb _ _ _ ((((ht29.trans ht31).trans ht33).trans ht34).trans ht55) hE)
  have hE := ls_end hE
  have h0 := h0.trans ht18
  refine at_sub (.cons (.skip rfl (.cons (.cons (.cons .rfl'))))) ?_
  refine at_cd ?_
  have hE := pl_nil hE
  refine cd_sq ?_
  refine ap_tags (off := 7) rfl rfl Try.underlying75 rfl tipub_kmsg_Tags.size rfl (hrc.mv h0 (by simp)) rfl (hTg1.mv h0) (fun h => (hfu h).2) rfl rfl rfl hE hB (fun u vd Lc ht56 hE => ?_)
  have h0 := h0.trans ht56
  refine at_cd ?_
  have hE : Lc = Full := by simpa using hE
  subst hE
  refine cd_rowone (i := 0) rfl (fun hone => ?_)
  refine cd_sr ?_
  refine ln_pv (pv_move rfl) rfl ?_
  refine ln_pv (pv_assign rfl) rfl ?_
  refine ln_cd ?_
  refine cd_ret ?_
  exact at_retT (i := 0) rfl rfl rfl (fun w hS => ⟨rfl, hone⟩)
end K
end Go.Proofs.Ytmknncmdbmnmgab
