import Derived.Test.YtmknncmdbmnmgabA5
import Derived.Test.YtmknncmdbmnmgabMcs
set_option linter.unusedVariables false
set_option linter.unusedSimpArgs false
namespace Go.Proofs.Ytmknncmdbmnmgab
namespace K
open Go Go.Lib
theorem append_TxnOffsetCommitRequest (t : Vw) (b : Nat) (v : Int) (y : Tre) (cells : List Value) (vd : Value) (L0 : List UInt8) (hrc : RC t b 0 (.int .i16 v :: cells)) (hM : RMp t F_TxnOffsetCommitRequest y cells) (hfit : okP F_TxnOffsetCommitRequest v (flexB 3 v) y) (h0 : 0 ≤ v) (h1 : v ≤ 6) (hB : (L0 ++ partB F_TxnOffsetCommitRequest v (flexB 3 v) y).length ≤ 4398046511104) (hok : (OctRow vd L0).ok t.w) (hav : ∀ q ∈ (OctRow vd L0).blk, t.av q) : CT Try.prog 45 [.pointer (some ⟨b, 0, none⟩), vd] t (OctRow vd L0) fun _ r e' => e' = OctRow r (L0 ++ partB F_TxnOffsetCommitRequest v (flexB 3 v) y) ∧ r.oneCell' = true := by
  have hv0 := h0
  clear h0
  obtain ⟨fc1, mv1, hce1, hfl1, hTg1⟩ := hM
  simp only [F_TxnOffsetCommitRequest, RMl] at hfl1
  obtain ⟨x1_0, z1_0, e1_0, g1_0, x1_1, z1_1, e1_1, g1_1, x1_2, z1_2, e1_2, g1_2, x1_3, z1_3, e1_3, g1_3, x1_4, z1_4, e1_4, g1_4, x1_5, z1_5, e1_5, g1_5, x1_6, z1_6, e1_6, g1_6, x1_7, z1_7, e1_7, g1_7, hend1⟩ := hfl1
  obtain rfl := (RMf_str (by decide)).1 g1_0
  obtain rfl := (RMf_str (by decide)).1 g1_1
  obtain ⟨rfl, hI1_2⟩ := RMf_i64.1 g1_2
  obtain rfl := RMf_i16.1 g1_3
  obtain rfl := RMf_i32.1 g1_4
  obtain rfl := (RMf_str (by decide)).1 g1_5
  obtain ⟨d1_6, rfl, Gg1_6⟩ := (RMf_txt (by decide)).1 g1_6
  obtain ⟨_, rfl, Gg1_7⟩ := RMf_list.1 g1_7
  obtain ⟨ad1_7, cap1_7, rfl, hnil1_7, Hg1_7⟩ := Gg1_7.els
  subst hend1
  subst e1_7
  subst e1_6
  subst e1_5
  subst e1_4
  subst e1_3
  subst e1_2
  subst e1_1
  subst e1_0
  rw [hce1] at hrc
  simp only [List.cons_append, List.nil_append, List.append_assoc] at hrc
  obtain ⟨hfl, hfu⟩ := hfit
  obtain ⟨k2, hfl⟩ := okFl_cons hfl
  obtain ⟨k3, hfl⟩ := okFl_cons hfl
  obtain ⟨k4, hfl⟩ := okFl_cons hfl
  obtain ⟨k5, hfl⟩ := okFl_cons hfl
  obtain ⟨k6, hfl⟩ := okFl_cons hfl
  obtain ⟨k7, hfl⟩ := okFl_cons hfl
  obtain ⟨k8, hfl⟩ := okFl_cons hfl
  obtain ⟨k9, hfl⟩ := okFl_cons hfl
  have hq0 : decide (v ≥ 3) = flexB 3 v := by simp [flexB]
  obtain ⟨Full, hFull⟩ : ∃ F : List UInt8, L0 ++ partB F_TxnOffsetCommitRequest v (flexB 3 v) y = F := ⟨_, rfl⟩
  rw [hFull] at hB ⊢
  have hE : L0 ++ (partB F_TxnOffsetCommitRequest v (flexB 3 v) y ++ []) = Full := by rw [List.append_nil]; exact hFull
  clear hFull
  generalize flexB 3 v = q at *
  have hE := pt_open (by decide) hfu hE
  refine ct_enter Try.func45 rfl Try.ntmps45 rfl hok hav (by simp only [Ent.blk]; cases vd.ownBlock <;> simp) ?_
  generalize L0 = Lc at *
  have h0 : Tr t t := Tr.refl t
  refine cd_sub_ (L' := [(1, vd), (0, .pointer (some ⟨b, 0, none⟩))]) (.put rfl (.put rfl .nil)) ?_
  refine cd_sq ?_
  refine ap_const rfl ?_
  refine at_sub (.skip rfl .rfl') ?_
  refine at_cd ?_
  refine cd_sq ?_
  refine ap_load0 rfl Try.underlying81 rfl tiint16.size rfl Try.underlying45 rfl (hrc.mv h0 (by simp)) rfl rfl ?_
  refine at_sub (.swap rfl) ?_
  refine at_cd ?_
  refine cd_sq ?_
  refine ap_blank rfl rfl ?_
  refine at_cd ?_
  refine cd_sq ?_
  refine ap_geqF rfl hq0 rfl ?_
  refine at_sub (.swap rfl) ?_
  refine at_cd ?_
  refine cd_sq ?_
  refine ap_blank rfl rfl ?_
  refine at_cd ?_
  refine cd_sq ?_
  have hE := pl_all (by decide) (hasB_all hv0) hE
  have hkk := okV_get k2 (by decide) (hasB_all hv0)
  refine cd_sq ?_
  refine ap_load (off := 1) rfl Try.underlying81 rfl tistring.size rfl Try.underlying9 rfl (hrc.mv h0 (by simp)) rfl rfl ?_
  refine at_cd ?_
  refine ap_flex rfl en_56 en_57 rfl rfl rfl rfl (fun hq u hu => by subst hq; rw [fieldB_s0 (by decide) (by decide) (by decide)]; exact as_cstr u _ (okV_s (by decide) (by decide) hkk (.inl rfl)).1) (fun hq u hu => by subst hq; rw [fieldB_s0 (by decide) (by decide) (by decide)]; exact as_str u _ (okV_s (by decide) (by decide) hkk (.inl rfl)).1) hE hB (fun u vd Lc ht10 hE => ?_)
  have h0 := h0.trans ht10
  refine at_sub (.cons (.skip rfl (.cons (.cons (.cons .rfl'))))) ?_
  refine at_cd ?_
  refine cd_sq ?_
  have hE := pl_all (by decide) (hasB_all hv0) hE
  have hkk := okV_get k3 (by decide) (hasB_all hv0)
  refine cd_sq ?_
  refine ap_load (off := 2) rfl Try.underlying81 rfl tistring.size rfl Try.underlying9 rfl (hrc.mv h0 (by simp)) rfl rfl ?_
  refine at_cd ?_
  refine ap_flex rfl en_56 en_57 rfl rfl rfl rfl (fun hq u hu => by subst hq; rw [fieldB_s0 (by decide) (by decide) (by decide)]; exact as_cstr u _ (okV_s (by decide) (by decide) hkk (.inl rfl)).1) (fun hq u hu => by subst hq; rw [fieldB_s0 (by decide) (by decide) (by decide)]; exact as_str u _ (okV_s (by decide) (by decide) hkk (.inl rfl)).1) hE hB (fun u vd Lc ht11 hE => ?_)
  have h0 := h0.trans ht11
  refine at_sub (.cons (.skip rfl (.cons (.cons (.cons .rfl'))))) ?_
  refine at_cd ?_
  refine cd_sq ?_
  have hE := pl_all (by decide) (hasB_all hv0) hE
  have hkk := okV_get k4 (by decide) (hasB_all hv0)
  refine cd_sq ?_
  refine ap_load (off := 3) rfl Try.underlying81 rfl tiint64.size rfl Try.underlying2 rfl (hrc.mv h0 (by simp)) rfl rfl ?_
  refine at_cd ?_
  refine ap_call en_76 rfl rfl (fun u hu => by rw [fieldB_s0 (by decide) (by decide) (by decide)]; exact as_i64 u _ _ _) hE hB (fun u vd Lc ht12 hE => ?_)
  have h0 := h0.trans ht12
  refine at_sub (.cons (.skip rfl (.cons (.cons (.cons .rfl'))))) ?_
  refine at_cd ?_
  refine cd_sq ?_
  have hE := pl_all (by decide) (hasB_all hv0) hE
  have hkk := okV_get k5 (by decide) (hasB_all hv0)
  refine cd_sq ?_
  refine ap_load (off := 4) rfl Try.underlying81 rfl tiint16.size rfl Try.underlying45 rfl (hrc.mv h0 (by simp)) rfl rfl ?_
  refine at_cd ?_
  refine ap_call en_53 rfl rfl (fun u hu => by rw [fieldB_s0 (by decide) (by decide) (by decide)]; exact as_i16 u _ _ _) hE hB (fun u vd Lc ht13 hE => ?_)
  have h0 := h0.trans ht13
  refine at_sub (.cons (.skip rfl (.cons (.cons (.cons .rfl'))))) ?_
  refine at_cd ?_
  refine cd_sq ?_
  have hE := pl_if (by decide) (hasB_from) hE
  refine ap_if rfl rfl hE (fun u vd Lc ht14 hE => ?_) (fun hva hE kk => ?_)
  rotate_left
  · skip
    have hkk := okV_get k6 (by decide) (by rw [hasB_from]; exact decide_eq_true hva)
    refine cd_sq ?_
    refine ap_load (off := 5) rfl Try.underlying81 rfl tiint32.size rfl Try.underlying21 rfl (hrc.mv h0 (by simp)) rfl rfl ?_
    refine at_cd ?_
    refine ap_call en_58 rfl rfl (fun u hu => by rw [fieldB_s0 (by decide) (by decide) (by decide)]; exact as_i32 u _ _ _) hE hB (fun u vd Lc ht15 hE => ?_)
    have h0 := h0.trans ht15
    refine at_sub (.cons (.skip rfl (.cons (.cons (.cons .rfl'))))) ?_
    exact at_sub (.cons (.cons (.cons (.cons .rfl')))) (kk _ _ _ ht15 hE)
  have h0 := h0.trans ht14
  refine at_cd ?_
  refine cd_sq ?_
  have hE := pl_if (by decide) (hasB_from) hE
  refine ap_if rfl rfl hE (fun u vd Lc ht16 hE => ?_) (fun hva hE kk => ?_)
  rotate_left
  · skip
    have hkk := okV_get k7 (by decide) (by rw [hasB_from]; exact decide_eq_true hva)
    refine cd_sq ?_
    refine ap_load (off := 6) rfl Try.underlying81 rfl tistring.size rfl Try.underlying9 rfl (hrc.mv h0 (by simp)) rfl rfl ?_
    refine at_cd ?_
    refine ap_flex rfl en_56 en_57 rfl rfl rfl rfl (fun hq u hu => by subst hq; rw [fieldB_s0 (by decide) (by decide) (by decide)]; exact as_cstr u _ (okV_s (by decide) (by decide) hkk (.inl rfl)).1) (fun hq u hu => by subst hq; rw [fieldB_s0 (by decide) (by decide) (by decide)]; exact as_str u _ (okV_s (by decide) (by decide) hkk (.inl rfl)).1) hE hB (fun u vd Lc ht17 hE => ?_)
    have h0 := h0.trans ht17
    refine at_sub (.cons (.skip rfl (.cons (.cons (.cons .rfl'))))) ?_
    exact at_sub (.cons (.cons (.cons (.cons .rfl')))) (kk _ _ _ ht17 hE)
  have h0 := h0.trans ht16
  refine at_cd ?_
  refine cd_sq ?_
  have hE := pl_if (by decide) (hasB_from) hE
  refine ap_if rfl rfl hE (fun u vd Lc ht18 hE => ?_) (fun hva hE kk => ?_)
  rotate_left
  · skip
    have hkk := okV_get k8 (by decide) (by rw [hasB_from]; exact decide_eq_true hva)
    refine cd_sq ?_
    refine ap_load (off := 7) rfl Try.underlying81 rfl tiPt_string.size rfl Try.underlying72 rfl (hrc.mv h0 (by simp)) rfl rfl ?_
    refine at_cd ?_
    refine ap_flex rfl en_74 en_75 rfl rfl rfl rfl (fun hq u hu => by subst hq; rw [fieldB_sz (by decide) (by decide) (by decide) (by omega)]; exact as_ctxt u _ _ (Gg1_6.mv (h0.trans hu)) (okV_s (by decide) (by decide) hkk (.inl rfl)).1) (fun hq u hu => by subst hq; rw [fieldB_sz (by decide) (by decide) (by decide) (by omega)]; exact as_txt u _ _ (Gg1_6.mv (h0.trans hu)) (okV_s (by decide) (by decide) hkk (.inl rfl)).1) hE hB (fun u vd Lc ht19 hE => ?_)
    have h0 := h0.trans ht19
    refine at_sub (.cons (.skip rfl (.cons (.cons (.cons .rfl'))))) ?_
    exact at_sub (.cons (.cons (.cons (.cons .rfl')))) (kk _ _ _ ht19 hE)
  have h0 := h0.trans ht18
  refine at_cd ?_
  refine cd_sq ?_
  have hE := pl_all (by decide) (hasB_all hv0) hE
  have hkk := okV_get k9 (by decide) (hasB_all hv0)
  refine cd_sq ?_
  refine ap_load (off := 8) rfl Try.underlying81 rfl tiSl_kmsg_TxnOffsetCommitRequestTopic.size rfl Try.underlying79 rfl (hrc.mv h0 (by simp)) rfl rfl ?_
  refine at_cd ?_
  obtain ⟨hll, hlz, hle⟩ := okV_l hkk
  have hE := ls_open (by decide) hll hlz hE
  have hel := els_len hll
  refine cd_sq ?_
  refine ap_flexL (T' := 0) rfl en_54 en_55 Try.underlying79 rfl rfl rfl rfl (fun hq u hu => by subst hq; exact al_c u _ hel) (fun hq u hu => by subst hq; exact al_n u _ hel) hE hB (fun u vd Lc ht20 hE => ?_)
  have h0 := h0.trans ht20
  refine at_cd ?_
  refine ap_range (Tl := fun i => ((els (y.at_ 7)).drop i).flatMap (valueB 10 F_sTxnOffsetCommitRequestTopic false v q)) Try.underlying79 rfl (by omega) rfl hE (fun i23 u vd Lc N' X' hi24 hu22 hE kb => ?_) (fun u vd Lc ht21 hE => ?_)
  · skip
    have h0 := h0.trans hu22
    have hE := ls_step hi24 hE
    rcases Hg1_7 with hm0 | ⟨gg, oo, lc, rfl, hgc, hgl, hge⟩
    · omega
    have hy := hge i23 hi24
    have hyr := seg_rc hgc hgl hi24
    have hkk := hle i23 hi24
    refine cd_sq ?_
    refine ap_copy rfl rfl ?_
    refine at_cd ?_
    refine cd_sq ?_
    refine ap_idx (ez := 19) rfl Try.underlying79 tipub_kmsg_TxnOffsetCommitRequestTopic.size hi24 rfl rfl ?_
    refine at_cd ?_
    have hy := RE_part hy
    have hyr : RC t gg (oo + i23 * 19) _ := hyr
    generalize hyy : (els (y.at_ 7))[i23] = ye25 at *
    obtain ⟨fc26, mv26, hce26, hfl26, hTg26⟩ := hy
    simp only [F_sTxnOffsetCommitRequestTopic, RMl] at hfl26
    obtain ⟨x26_0, z26_0, e26_0, g26_0, x26_1, z26_1, e26_1, g26_1, x26_2, z26_2, e26_2, g26_2, hend26⟩ := hfl26
    obtain rfl := (RMf_str (by decide)).1 g26_0
    have hq26_1 := RMf_uuid.1 g26_1
    obtain ⟨u26_1_0, u26_1_1, u26_1_2, u26_1_3, u26_1_4, u26_1_5, u26_1_6, u26_1_7, u26_1_8, u26_1_9, u26_1_10, u26_1_11, u26_1_12, u26_1_13, u26_1_14, u26_1_15, hu26_1⟩ := uuid16 (ye25.at_ 1).s
    rw [hu26_1] at hq26_1
    subst hq26_1
    obtain ⟨_, rfl, Gg26_2⟩ := RMf_list.1 g26_2
    obtain ⟨ad26_2, cap26_2, rfl, hnil26_2, Hg26_2⟩ := Gg26_2.els
    subst hend26
    subst e26_2
    subst e26_1
    subst e26_0
    rw [hce26] at hyr
    simp only [List.cons_append, List.nil_append, List.append_assoc] at hyr
    obtain ⟨hfl, hfu27⟩ := (show okP F_sTxnOffsetCommitRequestTopic v q ye25 from hkk)
    obtain ⟨k28, hfl⟩ := okFl_cons hfl
    obtain ⟨k29, hfl⟩ := okFl_cons hfl
    obtain ⟨k30, hfl⟩ := okFl_cons hfl
    have hE := vt_open (by decide) hfu27 hE
    have hyr31 := hyr
    refine cd_sq ?_
    have hE := pl_if (by decide) (hasB_to (by decide)) hE
    refine ap_if2 rfl rfl hE (fun u vd Lc ht32 hE => ?_) (fun hva hvb hE kk => ?_)
    rotate_left
    · skip
      have hkk := okV_get k28 (by decide) (by rw [hasB_to (by decide)]; exact decide_eq_true ⟨hva, hvb⟩)
      refine cd_sq ?_
      refine ap_load (off := 0) rfl Try.underlying129 rfl tistring.size rfl Try.underlying9 rfl (hyr31.mv h0 (by simp)) rfl rfl ?_
      refine at_cd ?_
      refine ap_flex rfl en_56 en_57 rfl rfl rfl rfl (fun hq u hu => by subst hq; rw [fieldB_s0 (by decide) (by decide) (by decide)]; exact as_cstr u _ (okV_s (by decide) (by decide) hkk (.inl rfl)).1) (fun hq u hu => by subst hq; rw [fieldB_s0 (by decide) (by decide) (by decide)]; exact as_str u _ (okV_s (by decide) (by decide) hkk (.inl rfl)).1) hE hB (fun u vd Lc ht33 hE => ?_)
      have h0 := h0.trans ht33
      refine at_sub (.cons (.skip rfl (.cons (.cons (.cons (.cons (.cons (.cons (.cons (.cons .rfl')))))))))) ?_
      exact at_sub (.cons (.cons (.cons (.cons (.cons (.cons (.cons (.cons (.cons .rfl'))))))))) (kk _ _ _ ht33 hE)
    have h0 := h0.trans ht32
    refine at_cd ?_
    refine cd_sq ?_
    have hE := pl_if (by decide) (hasB_from) hE
    refine ap_if rfl rfl hE (fun u vd Lc ht34 hE => ?_) (fun hva hE kk => ?_)
    rotate_left
    · skip
      have hkk := okV_get k29 (by decide) (by rw [hasB_from]; exact decide_eq_true hva)
      refine ap_uuid (off := 1) (vs := [u26_1_0, u26_1_1, u26_1_2, u26_1_3, u26_1_4, u26_1_5, u26_1_6, u26_1_7, u26_1_8, u26_1_9, u26_1_10, u26_1_11, u26_1_12, u26_1_13, u26_1_14, u26_1_15]) rfl Try.underlying129 rfl ti_16_uint8.size rfl Try.underlying115 rfl ti_16_uint8 (zl := List.replicate 16 (.int .u8 0)) rfl rfl (hyr31.mv h0 (by simp)) rfl rfl (by rw [← hu26_1]; exact u8s_one _) en_77 rfl (fun u hu => by have h := as_uuid u (ye25.at_ 1) false q; rw [hu26_1] at h; rw [fieldB_s0 (by decide) (by decide) (by decide)]; exact h) hE hB (fun u vd Lc ht35 hE => ?_)
      have h0 := h0.trans ht35
      exact at_sub (.cons (.cons (.cons (.cons (.cons (.cons (.cons (.cons (.cons .rfl'))))))))) (kk _ _ _ ht35 hE)
    have h0 := h0.trans ht34
    refine at_cd ?_
    refine cd_sq ?_
    have hE := pl_all (by decide) (hasB_all hv0) hE
    have hkk := okV_get k30 (by decide) (hasB_all hv0)
    refine cd_sq ?_
    refine ap_load (off := 17) rfl Try.underlying129 rfl tiSl_kmsg_TxnOffsetCommitRequestTopicPartition.size rfl Try.underlying127 rfl (hyr31.mv h0 (by simp)) rfl rfl ?_
    refine at_cd ?_
    obtain ⟨hll, hlz, hle⟩ := okV_l hkk
    have hE := ls_open (by decide) hll hlz hE
    have hel := els_len hll
    refine cd_sq ?_
    refine ap_flexL (T' := 0) rfl en_54 en_55 Try.underlying127 rfl rfl rfl rfl (fun hq u hu => by subst hq; exact al_c u _ hel) (fun hq u hu => by subst hq; exact al_n u _ hel) hE hB (fun u vd Lc ht36 hE => ?_)
    have h0 := h0.trans ht36
    refine at_cd ?_
    refine ap_range (Tl := fun i => ((els (ye25.at_ 2)).drop i).flatMap (valueB 10 F_sTxnOffsetCommitRequestTopicPartition false v q)) Try.underlying127 rfl (by omega) rfl hE (fun i39 u vd Lc N' X' hi40 hu38 hE kb => ?_) (fun u vd Lc ht37 hE => ?_)
    · skip
      have h0 := h0.trans hu38
      have hE := ls_step hi40 hE
      rcases Hg26_2 with hm0 | ⟨gg, oo, lc, rfl, hgc, hgl, hge⟩
      · omega
      have hy := hge i39 hi40
      have hyr := seg_rc hgc hgl hi40
      have hkk := hle i39 hi40
      refine cd_sq ?_
      refine ap_copy rfl rfl ?_
      refine at_cd ?_
      refine cd_sq ?_
      refine ap_idx (ez := 5) rfl Try.underlying127 tipub_kmsg_TxnOffsetCommitRequestTopicPartition.size hi40 rfl rfl ?_
      refine at_cd ?_
      have hy := RE_part hy
      have hyr : RC t gg (oo + i39 * 5) _ := hyr
      generalize hyy : (els (ye25.at_ 2))[i39] = ye41 at *
      obtain ⟨fc42, mv42, hce42, hfl42, hTg42⟩ := hy
      simp only [F_sTxnOffsetCommitRequestTopicPartition, RMl] at hfl42
      obtain ⟨x42_0, z42_0, e42_0, g42_0, x42_1, z42_1, e42_1, g42_1, x42_2, z42_2, e42_2, g42_2, x42_3, z42_3, e42_3, g42_3, hend42⟩ := hfl42
      obtain rfl := RMf_i32.1 g42_0
      obtain ⟨rfl, hI42_1⟩ := RMf_i64.1 g42_1
      obtain rfl := RMf_i32.1 g42_2
      obtain ⟨d42_3, rfl, Gg42_3⟩ := (RMf_txt (by decide)).1 g42_3
      subst hend42
      subst e42_3
      subst e42_2
      subst e42_1
      subst e42_0
      rw [hce42] at hyr
      simp only [List.cons_append, List.nil_append, List.append_assoc] at hyr
      obtain ⟨hfl, hfu43⟩ := (show okP F_sTxnOffsetCommitRequestTopicPartition v q ye41 from hkk)
      obtain ⟨k44, hfl⟩ := okFl_cons hfl
      obtain ⟨k45, hfl⟩ := okFl_cons hfl
      obtain ⟨k46, hfl⟩ := okFl_cons hfl
      obtain ⟨k47, hfl⟩ := okFl_cons hfl
      have hE := vt_open (by decide) hfu43 hE
      have hyr48 := hyr
      refine cd_sq ?_
      have hE := pl_all (by decide) (hasB_all hv0) hE
      have hkk := okV_get k44 (by decide) (hasB_all hv0)
      refine cd_sq ?_
      refine ap_load (off := 0) rfl Try.underlying134 rfl tiint32.size rfl Try.underlying21 rfl (hyr48.mv h0 (by simp)) rfl rfl ?_
      refine at_cd ?_
      refine ap_call en_58 rfl rfl (fun u hu => by rw [fieldB_s0 (by decide) (by decide) (by decide)]; exact as_i32 u _ _ _) hE hB (fun u vd Lc ht49 hE => ?_)
      have h0 := h0.trans ht49
      refine at_sub (.cons (.skip rfl (.cons (.cons (.cons (.cons (.cons (.cons (.cons (.cons (.cons (.cons (.cons (.cons (.cons .rfl'))))))))))))))) ?_
      refine at_cd ?_
      refine cd_sq ?_
      have hE := pl_all (by decide) (hasB_all hv0) hE
      have hkk := okV_get k45 (by decide) (hasB_all hv0)
      refine cd_sq ?_
      refine ap_load (off := 1) rfl Try.underlying134 rfl tiint64.size rfl Try.underlying2 rfl (hyr48.mv h0 (by simp)) rfl rfl ?_
      refine at_cd ?_
      refine ap_call en_76 rfl rfl (fun u hu => by rw [fieldB_s0 (by decide) (by decide) (by decide)]; exact as_i64 u _ _ _) hE hB (fun u vd Lc ht50 hE => ?_)
      have h0 := h0.trans ht50
      refine at_sub (.cons (.skip rfl (.cons (.cons (.cons (.cons (.cons (.cons (.cons (.cons (.cons (.cons (.cons (.cons (.cons .rfl'))))))))))))))) ?_
      refine at_cd ?_
      refine cd_sq ?_
      have hE := pl_if (by decide) (hasB_from) hE
      refine ap_if rfl rfl hE (fun u vd Lc ht51 hE => ?_) (fun hva hE kk => ?_)
      rotate_left
      · skip
        have hkk := okV_get k46 (by decide) (by rw [hasB_from]; exact decide_eq_true hva)
        refine cd_sq ?_
        refine ap_load (off := 2) rfl Try.underlying134 rfl tiint32.size rfl Try.underlying21 rfl (hyr48.mv h0 (by simp)) rfl rfl ?_
        refine at_cd ?_
        refine ap_call en_58 rfl rfl (fun u hu => by rw [fieldB_s0 (by decide) (by decide) (by decide)]; exact as_i32 u _ _ _) hE hB (fun u vd Lc ht52 hE => ?_)
        have h0 := h0.trans ht52
        refine at_sub (.cons (.skip rfl (.cons (.cons (.cons (.cons (.cons (.cons (.cons (.cons (.cons (.cons (.cons (.cons (.cons .rfl'))))))))))))))) ?_
        exact at_sub (.cons (.cons (.cons (.cons (.cons (.cons (.cons (.cons (.cons (.cons (.cons (.cons (.cons (.cons .rfl')))))))))))))) (kk _ _ _ ht52 hE)
      have h0 := h0.trans ht51
      refine at_cd ?_
      refine cd_sq ?_
      have hE := pl_all (by decide) (hasB_all hv0) hE
      have hkk := okV_get k47 (by decide) (hasB_all hv0)
      refine cd_sq ?_
      refine ap_load (off := 3) rfl Try.underlying134 rfl tiPt_string.size rfl Try.underlying72 rfl (hyr48.mv h0 (by simp)) rfl rfl ?_
      refine at_cd ?_
      refine ap_flex rfl en_74 en_75 rfl rfl rfl rfl (fun hq u hu => by subst hq; rw [fieldB_sz (by decide) (by decide) (by decide) (by omega)]; exact as_ctxt u _ _ (Gg42_3.mv (h0.trans hu)) (okV_s (by decide) (by decide) hkk (.inl rfl)).1) (fun hq u hu => by subst hq; rw [fieldB_sz (by decide) (by decide) (by decide) (by omega)]; exact as_txt u _ _ (Gg42_3.mv (h0.trans hu)) (okV_s (by decide) (by decide) hkk (.inl rfl)).1) hE hB (fun u vd Lc ht53 hE => ?_)
      have h0 := h0.trans ht53
      refine at_sub (.cons (.skip rfl (.cons (.cons (.cons (.cons (.cons (.cons (.cons (.cons (.cons (.cons (.cons (.cons (.cons .rfl'))))))))))))))) ?_
      refine at_cd ?_
      have hE := pl_nil hE
      refine ap_tags (off := 4) rfl rfl Try.underlying134 rfl tipub_kmsg_Tags.size rfl (hyr48.mv h0 (by simp)) rfl (hTg42.mv h0) (fun h => (hfu43 h).2) rfl rfl rfl hE hB (fun u vd Lc ht54 hE => ?_)
      have h0 := h0.trans ht54
      exact at_sub (.cons (.skip rfl (.skip rfl (.cons (.cons (.cons (.cons (.cons (.cons (.cons (.cons (.cons (.cons (.cons .rfl')))))))))))))) (kb _ _ _ ((((ht49.trans ht50).trans ht51).trans ht53).trans ht54) hE)
    have hE := ls_end hE
    have h0 := h0.trans ht37
    refine at_sub (.cons (.skip rfl (.cons (.cons (.cons (.cons (.cons (.cons (.cons (.cons .rfl')))))))))) ?_
    refine at_cd ?_
    have hE := pl_nil hE
    refine ap_tags (off := 18) rfl rfl Try.underlying129 rfl tipub_kmsg_Tags.size rfl (hyr31.mv h0 (by simp)) rfl (hTg26.mv h0) (fun h => (hfu27 h).2) rfl rfl rfl hE hB (fun u vd Lc ht55 hE => ?_)
    have h0 := h0.trans ht55
    exact at_sub (.cons (.skip rfl (.skip rfl (.cons (.cons (.cons (.cons (.cons (.cons .rfl'))))))))) (kb _ _ _ ((((ht32.trans ht34).trans ht36).trans ht37).trans ht55) hE)
  have hE := ls_end hE
  have h0 := h0.trans ht21
  refine at_sub (.cons (.skip rfl (.cons (.cons (.cons .rfl'))))) ?_
  refine at_cd ?_
  have hE := pl_nil hE
  refine cd_sq ?_
  refine ap_tags (off := 9) rfl rfl Try.underlying81 rfl tipub_kmsg_Tags.size rfl (hrc.mv h0 (by simp)) rfl (hTg1.mv h0) (fun h => (hfu h).2) rfl rfl rfl hE hB (fun u vd Lc ht56 hE => ?_)
  have h0 := h0.trans ht56
  refine at_cd ?_
  have hE : Lc = Full := by simpa using hE
  subst hE
  refine cd_rowone (i := 0) rfl (fun hone => ?_)
  refine cd_sr ?_
  refine ln_pv (pv_move rfl) rfl ?_
  refine ln_pv (pv_assign rfl) rfl ?_
  refine ln_cd ?_
  refine cd_ret ?_
  exact at_retT (i := 0) rfl rfl rfl (fun w hS => ⟨rfl, hone⟩)
end K
end Go.Proofs.Ytmknncmdbmnmgab
