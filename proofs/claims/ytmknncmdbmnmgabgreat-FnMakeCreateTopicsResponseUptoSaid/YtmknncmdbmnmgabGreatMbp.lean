import Derived.Test.YtmknncmdbmnmgabGreatA8
import Derived.Test.YtmknncmdbmnmgabGreatMbs
set_option linter.unusedVariables false
set_option linter.unusedSimpArgs false
namespace Go.Proofs.YtmknncmdbmnmgabGreat
namespace K
open Go Go.Lib
theorem append_CreateTopicsResponse (t : Vw) (b : Nat) (v : Int) (y : Tre) (cells : List Value) (vd : Value) (L0 : List UInt8) (hrc : RC t b 0 (.int .i16 v :: cells)) (hM : RMp t F_CreateTopicsResponse y cells) (hfit : okP F_CreateTopicsResponse v (flexB 5 v) y) (h0 : 0 ≤ v) (h1 : v ≤ 7) (hB : (L0 ++ partB F_CreateTopicsResponse v (flexB 5 v) y).length ≤ 4398046511104) (hok : (OctRow vd L0).ok t.w) (hav : ∀ q ∈ (OctRow vd L0).blk, t.av q) : CT Tryz.prog 42 [.pointer (some ⟨b, 0, none⟩), vd] t (OctRow vd L0) fun _ r e' => e' = OctRow r (L0 ++ partB F_CreateTopicsResponse v (flexB 5 v) y) ∧ r.oneCell' = true := by
  have hv0 := h0
  clear h0
  obtain ⟨fc1, mv1, hce1, hfl1, hTg1⟩ := hM
  simp only [F_CreateTopicsResponse, RMl] at hfl1
  obtain ⟨x1_0, z1_0, e1_0, g1_0, x1_1, z1_1, e1_1, g1_1, hend1⟩ := hfl1
  obtain rfl := RMf_i32.1 g1_0
  obtain ⟨_, rfl, Gg1_1⟩ := RMf_list.1 g1_1
  obtain ⟨ad1_1, cap1_1, rfl, hnil1_1, Hg1_1⟩ := Gg1_1.els
  subst hend1
  subst e1_1
  subst e1_0
  rw [hce1] at hrc
  simp only [List.cons_append, List.nil_append, List.append_assoc] at hrc
  obtain ⟨hfl, hfu⟩ := hfit
  obtain ⟨k2, hfl⟩ := okFl_cons hfl
  obtain ⟨k3, hfl⟩ := okFl_cons hfl
  have hq0 : decide (v ≥ 5) = flexB 5 v := by simp [flexB]
  obtain ⟨Full, hFull⟩ : ∃ F : List UInt8, L0 ++ partB F_CreateTopicsResponse v (flexB 5 v) y = F := ⟨_, rfl⟩
  rw [hFull] at hB ⊢
  have hE : L0 ++ (partB F_CreateTopicsResponse v (flexB 5 v) y ++ []) = Full := by rw [List.append_nil]; exact hFull
  clear hFull
  generalize flexB 5 v = q at *
  have hE := pt_open (by decide) hfu hE
  refine ct_enter Tryz.func42 rfl Tryz.ntmps42 rfl hok hav (by simp only [Ent.blk]; cases vd.ownBlock <;> simp) ?_
  generalize L0 = Lc at *
  have h0 : Tr t t := Tr.refl t
  refine cd_sub_ (L' := [(1, vd), (0, .pointer (some ⟨b, 0, none⟩))]) (.put rfl (.put rfl .nil)) ?_
  refine cd_sq ?_
  refine ap_const rfl ?_
  refine at_sub (.skip rfl .rfl') ?_
  refine at_cd ?_
  refine cd_sq ?_
  refine ap_load0 rfl Tryz.underlying74 rfl tiint16.size rfl Tryz.underlying45 rfl (hrc.mv h0 (by simp)) rfl rfl ?_
  refine at_sub (.swap rfl) ?_
  refine at_cd ?_
  refine cd_sq ?_
  refine ap_blank rfl rfl ?_
  refine at_cd ?_
  refine cd_sq ?_
  refine ap_geqF rfl hq0 rfl ?_
  refine at_sub (.swap rfl) ?_
  refine at_cd ?_
  refine cd_sq ?_
  refine ap_blank rfl rfl ?_
  refine at_cd ?_
  refine cd_sq ?_
  have hE := pl_if (by decide) (hasB_from) hE
  refine ap_if rfl rfl hE (fun u vd Lc ht4 hE => ?_) (fun hva hE kk => ?_)
  rotate_left
  · skip
    have hkk := okV_get k2 (by decide) (by rw [hasB_from]; exact decide_eq_true hva)
    refine cd_sq ?_
    refine ap_load (off := 1) rfl Tryz.underlying74 rfl tiint32.size rfl Tryz.underlying21 rfl (hrc.mv h0 (by simp)) rfl rfl ?_
    refine at_cd ?_
    refine ap_call en_64 rfl rfl (fun u hu => by rw [fieldB_s0 (by decide) (by decide) (by decide)]; exact as_i32 u _ _ _) hE hB (fun u vd Lc ht5 hE => ?_)
    have h0 := h0.trans ht5
    refine at_sub (.cons (.skip rfl (.cons (.cons (.cons .rfl'))))) ?_
    exact at_sub (.cons (.cons (.cons (.cons .rfl')))) (kk _ _ _ ht5 hE)
  have h0 := h0.trans ht4
  refine at_cd ?_
  refine cd_sq ?_
  have hE := pl_all (by decide) (hasB_all hv0) hE
  have hkk := okV_get k3 (by decide) (hasB_all hv0)
  refine cd_sq ?_
  refine ap_load (off := 2) rfl Tryz.underlying74 rfl tiSl_kmsg_CreateTopicsResponseTopic.size rfl Tryz.underlying72 rfl (hrc.mv h0 (by simp)) rfl rfl ?_
  refine at_cd ?_
  obtain ⟨hll, hlz, hle⟩ := okV_l hkk
  have hE := ls_open (by decide) hll hlz hE
  have hel := els_len hll
  refine cd_sq ?_
  refine ap_flexL (T' := 0) rfl en_65 en_66 Tryz.underlying72 rfl rfl rfl rfl (fun hq u hu => by subst hq; exact al_c u _ hel) (fun hq u hu => by subst hq; exact al_n u _ hel) hE hB (fun u vd Lc ht6 hE => ?_)
  have h0 := h0.trans ht6
  refine at_cd ?_
  refine ap_range (Tl := fun i => ((els (y.at_ 1)).drop i).flatMap (valueB 10 F_sCreateTopicsResponseTopic false v q)) Tryz.underlying72 rfl (by omega) rfl hE (fun i9 u vd Lc N' X' hi10 hu8 hE kb => ?_) (fun u vd Lc ht7 hE => ?_)
  · skip
    have h0 := h0.trans hu8
    have hE := ls_step hi10 hE
    rcases Hg1_1 with hm0 | ⟨gg, oo, lc, rfl, hgc, hgl, hge⟩
    · omega
    have hy := hge i9 hi10
    have hyr := seg_rc hgc hgl hi10
    have hkk := hle i9 hi10
    refine cd_sq ?_
    refine ap_copy rfl rfl ?_
    refine at_cd ?_
    refine cd_sq ?_
    refine ap_idx (ez := 24) rfl Tryz.underlying72 tipub_kmsg_CreateTopicsResponseTopic.size hi10 rfl rfl ?_
    refine at_cd ?_
    have hy := RE_part hy
    have hyr : RC t gg (oo + i9 * 24) _ := hyr
    generalize hyy : (els (y.at_ 1))[i9] = ye11 at *
    obtain ⟨fc12, mv12, hce12, hfl12, hTg12⟩ := hy
    simp only [F_sCreateTopicsResponseTopic, RMl] at hfl12
    obtain ⟨x12_0, z12_0, e12_0, g12_0, x12_1, z12_1, e12_1, g12_1, x12_2, z12_2, e12_2, g12_2, x12_3, z12_3, e12_3, g12_3, x12_4, z12_4, e12_4, g12_4, x12_5, z12_5, e12_5, g12_5, x12_6, z12_6, e12_6, g12_6, x12_7, z12_7, e12_7, g12_7, hend12⟩ := hfl12
    obtain rfl := (RMf_str (by decide)).1 g12_0
    have hq12_1 := RMf_uuid.1 g12_1
    obtain ⟨u12_1_0, u12_1_1, u12_1_2, u12_1_3, u12_1_4, u12_1_5, u12_1_6, u12_1_7, u12_1_8, u12_1_9, u12_1_10, u12_1_11, u12_1_12, u12_1_13, u12_1_14, u12_1_15, hu12_1⟩ := uuid16 (ye11.at_ 1).s
    rw [hu12_1] at hq12_1
    subst hq12_1
    obtain rfl := RMf_i16.1 g12_2
    obtain ⟨d12_3, rfl, Gg12_3⟩ := (RMf_txt (by decide)).1 g12_3
    obtain rfl := RMf_i16.1 g12_4
    obtain rfl := RMf_i32.1 g12_5
    obtain rfl := RMf_i16.1 g12_6
    obtain ⟨_, rfl, Gg12_7⟩ := RMf_list.1 g12_7
    obtain ⟨ad12_7, cap12_7, rfl, hnil12_7, Hg12_7⟩ := Gg12_7.els
    subst hend12
    subst e12_7
    subst e12_6
    subst e12_5
    subst e12_4
    subst e12_3
    subst e12_2
    subst e12_1
    subst e12_0
    rw [hce12] at hyr
    simp only [List.cons_append, List.nil_append, List.append_assoc] at hyr
    obtain ⟨hfl, hfu13⟩ := (show okP F_sCreateTopicsResponseTopic v q ye11 from hkk)
    obtain ⟨k14, hfl⟩ := okFl_cons hfl
    obtain ⟨k15, hfl⟩ := okFl_cons hfl
    obtain ⟨k16, hfl⟩ := okFl_cons hfl
    obtain ⟨k17, hfl⟩ := okFl_cons hfl
    obtain ⟨k18, hfl⟩ := okFl_cons hfl
    obtain ⟨k19, hfl⟩ := okFl_cons hfl
    obtain ⟨k20, hfl⟩ := okFl_cons hfl
    obtain ⟨k21, hfl⟩ := okFl_cons hfl
    have hE := vt_open1 (by decide) hfu13 ((tgf_skip (by decide)).trans ((tgf_skip (by decide)).trans ((tgf_skip (by decide)).trans ((tgf_skip (by decide)).trans (tgf_here (by decide) ((tgf_skip (by decide)).trans ((tgf_skip (by decide)).trans ((tgf_skip (by decide)).trans tgf_nil)))))))) hE
    have hyr22 := hyr
    refine cd_sq ?_
    have hE := pl_all (by decide) (hasB_all hv0) hE
    have hkk := okV_get k14 (by decide) (hasB_all hv0)
    refine cd_sq ?_
    refine ap_load (off := 0) rfl Tryz.underlying124 rfl tistring.size rfl Tryz.underlying9 rfl (hyr22.mv h0 (by simp)) rfl rfl ?_
    refine at_cd ?_
    refine ap_flex rfl en_67 en_68 rfl rfl rfl rfl (fun hq u hu => by subst hq; rw [fieldB_s0 (by decide) (by decide) (by decide)]; exact as_cstr u _ (okV_s (by decide) (by decide) hkk (.inl rfl)).1) (fun hq u hu => by subst hq; rw [fieldB_s0 (by decide) (by decide) (by decide)]; exact as_str u _ (okV_s (by decide) (by decide) hkk (.inl rfl)).1) hE hB (fun u vd Lc ht23 hE => ?_)
    have h0 := h0.trans ht23
    refine at_sub (.cons (.skip rfl (.cons (.cons (.cons (.cons (.cons (.cons (.cons (.cons .rfl')))))))))) ?_
    refine at_cd ?_
    refine cd_sq ?_
    have hE := pl_if (by decide) (hasB_from) hE
    refine ap_if rfl rfl hE (fun u vd Lc ht24 hE => ?_) (fun hva hE kk => ?_)
    rotate_left
    · skip
      have hkk := okV_get k15 (by decide) (by rw [hasB_from]; exact decide_eq_true hva)
      refine ap_uuid (off := 1) (vs := [u12_1_0, u12_1_1, u12_1_2, u12_1_3, u12_1_4, u12_1_5, u12_1_6, u12_1_7, u12_1_8, u12_1_9, u12_1_10, u12_1_11, u12_1_12, u12_1_13, u12_1_14, u12_1_15]) rfl Tryz.underlying124 rfl ti_16_uint8.size rfl Tryz.underlying105 rfl ti_16_uint8 (zl := List.replicate 16 (.int .u8 0)) rfl rfl (hyr22.mv h0 (by simp)) rfl rfl (by rw [← hu12_1]; exact u8s_one _) en_73 rfl (fun u hu => by have h := as_uuid u (ye11.at_ 1) false q; rw [hu12_1] at h; rw [fieldB_s0 (by decide) (by decide) (by decide)]; exact h) hE hB (fun u vd Lc ht25 hE => ?_)
      have h0 := h0.trans ht25
      exact at_sub (.cons (.cons (.cons (.cons (.cons (.cons (.cons (.cons (.cons .rfl'))))))))) (kk _ _ _ ht25 hE)
    have h0 := h0.trans ht24
    refine at_cd ?_
    refine cd_sq ?_
    have hE := pl_all (by decide) (hasB_all hv0) hE
    have hkk := okV_get k16 (by decide) (hasB_all hv0)
    refine cd_sq ?_
    refine ap_load (off := 17) rfl Tryz.underlying124 rfl tiint16.size rfl Tryz.underlying45 rfl (hyr22.mv h0 (by simp)) rfl rfl ?_
    refine at_cd ?_
    refine ap_call en_86 rfl rfl (fun u hu => by rw [fieldB_s0 (by decide) (by decide) (by decide)]; exact as_i16 u _ _ _) hE hB (fun u vd Lc ht26 hE => ?_)
    have h0 := h0.trans ht26
    refine at_sub (.cons (.skip rfl (.cons (.cons (.cons (.cons (.cons (.cons (.cons (.cons .rfl')))))))))) ?_
    refine at_cd ?_
    refine cd_sq ?_
    have hE := pl_if (by decide) (hasB_from) hE
    refine ap_if rfl rfl hE (fun u vd Lc ht27 hE => ?_) (fun hva hE kk => ?_)
    rotate_left
    · skip
      have hkk := okV_get k17 (by decide) (by rw [hasB_from]; exact decide_eq_true hva)
      refine cd_sq ?_
      refine ap_load (off := 18) rfl Tryz.underlying124 rfl tiPt_string.size rfl Tryz.underlying52 rfl (hyr22.mv h0 (by simp)) rfl rfl ?_
      refine at_cd ?_
      refine ap_flex rfl en_74 en_75 rfl rfl rfl rfl (fun hq u hu => by subst hq; rw [fieldB_sz (by decide) (by decide) (by decide) (by omega)]; exact as_ctxt u _ _ (Gg12_3.mv (h0.trans hu)) (okV_s (by decide) (by decide) hkk (.inl rfl)).1) (fun hq u hu => by subst hq; rw [fieldB_sz (by decide) (by decide) (by decide) (by omega)]; exact as_txt u _ _ (Gg12_3.mv (h0.trans hu)) (okV_s (by decide) (by decide) hkk (.inl rfl)).1) hE hB (fun u vd Lc ht28 hE => ?_)
      have h0 := h0.trans ht28
      refine at_sub (.cons (.skip rfl (.cons (.cons (.cons (.cons (.cons (.cons (.cons (.cons .rfl')))))))))) ?_
      exact at_sub (.cons (.cons (.cons (.cons (.cons (.cons (.cons (.cons (.cons .rfl'))))))))) (kk _ _ _ ht28 hE)
    have h0 := h0.trans ht27
    refine at_cd ?_
    have hE := pl_tag (by decide) hE
    refine cd_sq ?_
    have hE := pl_if (by decide) (hasB_from) hE
    refine ap_if rfl rfl hE (fun u vd Lc ht29 hE => ?_) (fun hva hE kk => ?_)
    rotate_left
    · skip
      have hkk := okV_get k19 (by decide) (by rw [hasB_from]; exact decide_eq_true hva)
      refine cd_sq ?_
      refine ap_load (off := 20) rfl Tryz.underlying124 rfl tiint32.size rfl Tryz.underlying21 rfl (hyr22.mv h0 (by simp)) rfl rfl ?_
      refine at_cd ?_
      refine ap_call en_64 rfl rfl (fun u hu => by rw [fieldB_s0 (by decide) (by decide) (by decide)]; exact as_i32 u _ _ _) hE hB (fun u vd Lc ht30 hE => ?_)
      have h0 := h0.trans ht30
      refine at_sub (.cons (.skip rfl (.cons (.cons (.cons (.cons (.cons (.cons (.cons (.cons .rfl')))))))))) ?_
      exact at_sub (.cons (.cons (.cons (.cons (.cons (.cons (.cons (.cons (.cons .rfl'))))))))) (kk _ _ _ ht30 hE)
    have h0 := h0.trans ht29
    refine at_cd ?_
    refine cd_sq ?_
    have hE := pl_if (by decide) (hasB_from) hE
    refine ap_if rfl rfl hE (fun u vd Lc ht31 hE => ?_) (fun hva hE kk => ?_)
    rotate_left
    · skip
      have hkk := okV_get k20 (by decide) (by rw [hasB_from]; exact decide_eq_true hva)
      refine cd_sq ?_
      refine ap_load (off := 21) rfl Tryz.underlying124 rfl tiint16.size rfl Tryz.underlying45 rfl (hyr22.mv h0 (by simp)) rfl rfl ?_
      refine at_cd ?_
      refine ap_call en_86 rfl rfl (fun u hu => by rw [fieldB_s0 (by decide) (by decide) (by decide)]; exact as_i16 u _ _ _) hE hB (fun u vd Lc ht32 hE => ?_)
      have h0 := h0.trans ht32
      refine at_sub (.cons (.skip rfl (.cons (.cons (.cons (.cons (.cons (.cons (.cons (.cons .rfl')))))))))) ?_
      exact at_sub (.cons (.cons (.cons (.cons (.cons (.cons (.cons (.cons (.cons .rfl'))))))))) (kk _ _ _ ht32 hE)
    have h0 := h0.trans ht31
    refine at_cd ?_
    refine cd_sq ?_
    have hE := pl_if (by decide) (hasB_from) hE
    refine ap_if rfl rfl hE (fun u vd Lc ht33 hE => ?_) (fun hva hE kk => ?_)
    rotate_left
    · skip
      have hkk := okV_get k21 (by decide) (by rw [hasB_from]; exact decide_eq_true hva)
      refine cd_sq ?_
      refine ap_load (off := 22) rfl Tryz.underlying124 rfl tiSl_kmsg_CreateTopicsResponseTopicConfig.size rfl Tryz.underlying122 rfl (hyr22.mv h0 (by simp)) rfl rfl ?_
      refine at_cd ?_
      obtain ⟨hll, hlz, hle⟩ := okV_l hkk
      have hE := lz_open (by decide) (by omega) hll hE
      have hel := els_len hll
      refine cd_sq ?_
      refine ap_flexLN (T' := 0) rfl en_87 en_88 Tryz.underlying122 rfl hnil12_7 rfl rfl rfl (fun hq u hu => by subst hq; exact al_cz u _ _ hel) (fun hq u hu => by subst hq; exact al_nz u _ _ hel) hE hB (fun u vd Lc ht34 hE => ?_)
      have h0 := h0.trans ht34
      refine at_cd ?_
      refine ap_range (Tl := fun i => ((els (ye11.at_ 7)).drop i).flatMap (valueB 10 F_sCreateTopicsResponseTopicConfig false v q)) Tryz.underlying122 rfl (by omega) rfl hE (fun i37 u vd Lc N' X' hi38 hu36 hE kb => ?_) (fun u vd Lc ht35 hE => ?_)
      · skip
        have h0 := h0.trans hu36
        have hE := ls_step hi38 hE
        rcases Hg12_7 with hm0 | ⟨gg, oo, lc, rfl, hgc, hgl, hge⟩
        · omega
        have hy := hge i37 hi38
        have hyr := seg_rc hgc hgl hi38
        have hkk := hle i37 hi38
        refine cd_sq ?_
        refine ap_copy rfl rfl ?_
        refine at_cd ?_
        refine cd_sq ?_
        refine ap_idx (ez := 6) rfl Tryz.underlying122 tipub_kmsg_CreateTopicsResponseTopicConfig.size hi38 rfl rfl ?_
        refine at_cd ?_
        have hy := RE_part hy
        have hyr : RC t gg (oo + i37 * 6) _ := hyr
        generalize hyy : (els (ye11.at_ 7))[i37] = ye39 at *
        obtain ⟨fc40, mv40, hce40, hfl40, hTg40⟩ := hy
        simp only [F_sCreateTopicsResponseTopicConfig, RMl] at hfl40
        obtain ⟨x40_0, z40_0, e40_0, g40_0, x40_1, z40_1, e40_1, g40_1, x40_2, z40_2, e40_2, g40_2, x40_3, z40_3, e40_3, g40_3, x40_4, z40_4, e40_4, g40_4, hend40⟩ := hfl40
        obtain rfl := (RMf_str (by decide)).1 g40_0
        obtain ⟨d40_1, rfl, Gg40_1⟩ := (RMf_txt (by decide)).1 g40_1
        obtain rfl := RMf_b.1 g40_2
        obtain rfl := RMf_i8.1 g40_3
        obtain rfl := RMf_b.1 g40_4
        subst hend40
        subst e40_4
        subst e40_3
        subst e40_2
        subst e40_1
        subst e40_0
        rw [hce40] at hyr
        simp only [List.cons_append, List.nil_append, List.append_assoc] at hyr
        obtain ⟨hfl, hfu41⟩ := (show okP F_sCreateTopicsResponseTopicConfig v q ye39 from hkk)
        obtain ⟨k42, hfl⟩ := okFl_cons hfl
        obtain ⟨k43, hfl⟩ := okFl_cons hfl
        obtain ⟨k44, hfl⟩ := okFl_cons hfl
        obtain ⟨k45, hfl⟩ := okFl_cons hfl
        obtain ⟨k46, hfl⟩ := okFl_cons hfl
        have hE := vt_open (by decide) hfu41 hE
        have hyr47 := hyr
        refine cd_sq ?_
        have hE := pl_all (by decide) (hasB_all hv0) hE
        have hkk := okV_get k42 (by decide) (hasB_all hv0)
        refine cd_sq ?_
        refine ap_load (off := 0) rfl Tryz.underlying132 rfl tistring.size rfl Tryz.underlying9 rfl (hyr47.mv h0 (by simp)) rfl rfl ?_
        refine at_cd ?_
        refine ap_flex rfl en_67 en_68 rfl rfl rfl rfl (fun hq u hu => by subst hq; rw [fieldB_s0 (by decide) (by decide) (by decide)]; exact as_cstr u _ (okV_s (by decide) (by decide) hkk (.inl rfl)).1) (fun hq u hu => by subst hq; rw [fieldB_s0 (by decide) (by decide) (by decide)]; exact as_str u _ (okV_s (by decide) (by decide) hkk (.inl rfl)).1) hE hB (fun u vd Lc ht48 hE => ?_)
        have h0 := h0.trans ht48
        refine at_sub (.cons (.skip rfl (.cons (.cons (.cons (.cons (.cons (.cons (.cons (.cons (.cons (.cons (.cons (.cons (.cons .rfl'))))))))))))))) ?_
        refine at_cd ?_
        refine cd_sq ?_
        have hE := pl_all (by decide) (hasB_all hv0) hE
        have hkk := okV_get k43 (by decide) (hasB_all hv0)
        refine cd_sq ?_
        refine ap_load (off := 1) rfl Tryz.underlying132 rfl tiPt_string.size rfl Tryz.underlying52 rfl (hyr47.mv h0 (by simp)) rfl rfl ?_
        refine at_cd ?_
        refine ap_flex rfl en_74 en_75 rfl rfl rfl rfl (fun hq u hu => by subst hq; rw [fieldB_sz (by decide) (by decide) (by decide) (by omega)]; exact as_ctxt u _ _ (Gg40_1.mv (h0.trans hu)) (okV_s (by decide) (by decide) hkk (.inl rfl)).1) (fun hq u hu => by subst hq; rw [fieldB_sz (by decide) (by decide) (by decide) (by omega)]; exact as_txt u _ _ (Gg40_1.mv (h0.trans hu)) (okV_s (by decide) (by decide) hkk (.inl rfl)).1) hE hB (fun u vd Lc ht49 hE => ?_)
        have h0 := h0.trans ht49
        refine at_sub (.cons (.skip rfl (.cons (.cons (.cons (.cons (.cons (.cons (.cons (.cons (.cons (.cons (.cons (.cons (.cons .rfl'))))))))))))))) ?_
        refine at_cd ?_
        refine cd_sq ?_
        have hE := pl_all (by decide) (hasB_all hv0) hE
        have hkk := okV_get k44 (by decide) (hasB_all hv0)
        refine cd_sq ?_
        refine ap_load (off := 2) rfl Tryz.underlying132 rfl tibool.size rfl Tryz.underlying4 rfl (hyr47.mv h0 (by simp)) rfl rfl ?_
        refine at_cd ?_
        refine ap_call en_89 rfl rfl (fun u hu => by rw [fieldB_s0 (by decide) (by decide) (by decide)]; exact as_b u _ _ _) hE hB (fun u vd Lc ht50 hE => ?_)
        have h0 := h0.trans ht50
        refine at_sub (.cons (.skip rfl (.cons (.cons (.cons (.cons (.cons (.cons (.cons (.cons (.cons (.cons (.cons (.cons (.cons .rfl'))))))))))))))) ?_
        refine at_cd ?_
        refine cd_sq ?_
        have hE := pl_all (by decide) (hasB_all hv0) hE
        have hkk := okV_get k45 (by decide) (hasB_all hv0)
        refine cd_sq ?_
        refine ap_load (off := 3) rfl Tryz.underlying132 rfl tiint8.size rfl Tryz.underlying130 rfl (hyr47.mv h0 (by simp)) rfl rfl ?_
        refine at_cd ?_
        refine ap_call en_90 rfl rfl (fun u hu => by rw [fieldB_s0 (by decide) (by decide) (by decide)]; exact as_i8 u _ _ _) hE hB (fun u vd Lc ht51 hE => ?_)
        have h0 := h0.trans ht51
        refine at_sub (.cons (.skip rfl (.cons (.cons (.cons (.cons (.cons (.cons (.cons (.cons (.cons (.cons (.cons (.cons (.cons .rfl'))))))))))))))) ?_
        refine at_cd ?_
        refine cd_sq ?_
        have hE := pl_all (by decide) (hasB_all hv0) hE
        have hkk := okV_get k46 (by decide) (hasB_all hv0)
        refine cd_sq ?_
        refine ap_load (off := 4) rfl Tryz.underlying132 rfl tibool.size rfl Tryz.underlying4 rfl (hyr47.mv h0 (by simp)) rfl rfl ?_
        refine at_cd ?_
        refine ap_call en_89 rfl rfl (fun u hu => by rw [fieldB_s0 (by decide) (by decide) (by decide)]; exact as_b u _ _ _) hE hB (fun u vd Lc ht52 hE => ?_)
        have h0 := h0.trans ht52
        refine at_sub (.cons (.skip rfl (.cons (.cons (.cons (.cons (.cons (.cons (.cons (.cons (.cons (.cons (.cons (.cons (.cons .rfl'))))))))))))))) ?_
        refine at_cd ?_
        have hE := pl_nil hE
        refine ap_tags (off := 5) rfl rfl Tryz.underlying132 rfl tipub_kmsg_Tags.size rfl (hyr47.mv h0 (by simp)) rfl (hTg40.mv h0) (fun h => (hfu41 h).2) rfl rfl rfl hE hB (fun u vd Lc ht53 hE => ?_)
        have h0 := h0.trans ht53
        exact at_sub (.cons (.skip rfl (.skip rfl (.cons (.cons (.cons (.cons (.cons (.cons (.cons (.cons (.cons (.cons (.cons .rfl')))))))))))))) (kb _ _ _ (((((ht48.trans ht49).trans ht50).trans ht51).trans ht52).trans ht53) hE)
      have hE := ls_end hE
      have h0 := h0.trans ht35
      refine at_sub (.cons (.skip rfl (.cons (.cons (.cons (.cons (.cons (.cons (.cons (.cons .rfl')))))))))) ?_
      exact at_sub (.cons (.cons (.cons (.cons (.cons (.cons (.cons (.cons (.cons .rfl'))))))))) (kk _ _ _ (ht34.trans ht35) hE)
    have h0 := h0.trans ht33
    refine at_cd ?_
    have hE := pl_nil hE
    refine ap_test rfl rfl (fun hq => ?_) (fun hq => ?_)
    · skip
      subst hq
      obtain ⟨o1, o2, o3⟩ := (hfu13 rfl).2
      rw [if_pos rfl, List.append_assoc, List.append_assoc] at hE
      have hkk := okV_tag k18 (by decide) rfl
      generalize hus0 : usualB _ _ = us at hE
      refine cd_sq ?_
      refine ap_const rfl ?_
      refine at_cd ?_
      refine cd_sq ?_
      refine cd_sq ?_
      refine cd_region ?_
      refine ln_pv (pv_move rfl) rfl ?_
      refine ln_pv (pv_nilCheck rfl) rfl ?_
      refine ln_pv (pv_fieldAddr (off := 19) Tryz.underlying124 rfl tiint16.size rfl rfl rfl) rfl ?_
      refine ln_pv (pv_ldr (j := 19) (hyr22.mv h0 (by simp)) Tryz.underlying45 rfl lk_eq rfl) rfl ?_
      refine ln_pv (pv_neq lk_eq ev_c) rfl ?_
      refine ln_nil (at_cd ?_)
      refine cd_if lk_eq (fun hp => ?_) (fun hp => ?_)
      · skip
        have hus : us = false := hus0.symm.trans (us_i16_1 hp)
        rw [hus] at hE
        simp only [Bool.false_eq_true, if_false] at hE
        refine cd_sub_ (.skip rfl (.skip rfl (.skip rfl (.skip rfl (.skip rfl .rfl'))))) ?_
        refine ap_tapp Tryz.underlying111 tiuint32 rfl rfl (fun g cp => ?_)
        refine at_sub (.swap rfl) ?_
        refine at_cd ?_
        refine cd_sq ?_
        refine ap_tcount (m := 1) rfl (by decide) Tryz.underlying111 rfl Tryz.underlying124 rfl tipub_kmsg_Tags.size rfl (hyr22.mv h0 (by simp)) rfl (hTg12.mv h0) o3 rfl hE hB (fun u vd Lc ht54 hE => ?_)
        have h0 := h0.trans ht54
        refine at_cd ?_
        refine cd_sq ?_
        refine ap_rangeV (m := 1) (Tl := fun i => match i with | 0 => tagB (0, _) | _ => []) Tryz.underlying111 rfl (by omega) rfl hE (fun i u vd Lc N' X' hi hu56 hE kb => ?_) (fun u vd Lc ht55 hE => ?_)
        · skip
          have h0 := h0.trans hu56
          obtain rfl : i = 0 := by omega
          refine ap_case rfl rfl Tryz.underlying111 tiuint32.size Tryz.underlying62 rfl rfl rfl ?_
          generalize hfb : fieldB _ v true _ = fb at hE kb
          have hE := tg_open hE
          have hlen : fb.length = 2 := by rw [← hfb]; exact fb_len2
          rw [hlen] at hE
          refine cd_sq ?_
          refine ap_load (off := 19) rfl Tryz.underlying124 rfl tiint16.size rfl Tryz.underlying45 rfl (hyr22.mv h0 (by simp)) rfl rfl ?_
          refine at_cd ?_
          refine cd_sq ?_
          refine ap_callK (bs := uvar 0) en_70 rfl (fun u hu => kbin_AppendUvarint u 0 (by omega)) hE hB (fun u vd Lc ht57 hL2 => ?_)
          have hE := app_step hE
          rw [← hL2] at hE
          clear hL2
          refine at_cd ?_
          have h0 := h0.trans ht57
          refine cd_sq ?_
          refine ap_callK (bs := uvar 2) en_70 rfl (fun u hu => kbin_AppendUvarint u 2 (by omega)) hE hB (fun u vd Lc ht58 hL2 => ?_)
          have hE := app_step hE
          rw [← hL2] at hE
          clear hL2
          refine at_cd ?_
          have h0 := h0.trans ht58
          rw [← hfb] at hE
          refine ap_call en_86 rfl rfl (fun u hu => by rw [fieldB_s0 (by decide) (by decide) (by decide)]; exact as_i16 u _ _ _) hE hB (fun u vd Lc ht59 hE => ?_)
          have h0 := h0.trans ht59
          refine at_sub (.cons (.skip rfl (.cons (.cons (.cons (.cons (.cons (.cons (.cons (.cons (.cons (.cons (.cons (.cons .rfl')))))))))))))) ?_
          exact at_sub (.cons (.cons (.cons (.cons (.cons (.cons (.cons (.cons (.cons (.cons (.cons (.cons (.cons .rfl'))))))))))))) (kb _ _ _ ((ht57.trans ht58).trans ht59) hE)
        have h0 := h0.trans ht55
        refine at_cd ?_
        refine ap_teach rfl Tryz.underlying124 rfl tipub_kmsg_Tags.size rfl (hyr22.mv h0 (by simp)) rfl (hTg12.mv h0) o1 o2 rfl hE hB (fun u vd Lc ht60 hE => ?_)
        have h0 := h0.trans ht60
        refine at_Hs ?_
        refine at_sub (.cons (.skip rfl .rfl')) ?_
        exact at_sub (.cons (.skip rfl (.skip rfl (.cons (.cons (.cons (.cons (.cons (.cons .rfl'))))))))) (kb _ _ _ (((((((((ht23.trans ht24).trans ht26).trans ht27).trans ht29).trans ht31).trans ht33).trans ht54).trans ht55).trans ht60) hE)
      · skip
        have hus : us = true := hus0.symm.trans (us_i16_0 hp)
        rw [hus] at hE
        simp only [if_true, List.nil_append] at hE
        refine cd_sub_ (.skip rfl (.skip rfl (.skip rfl (.skip rfl (.skip rfl .rfl'))))) ?_
        refine cd_skip (at_sub (.swap rfl) ?_)
        refine at_cd ?_
        refine cd_sq ?_
        refine ap_tcount (m := 0) rfl (by decide) Tryz.underlying111 rfl Tryz.underlying124 rfl tipub_kmsg_Tags.size rfl (hyr22.mv h0 (by simp)) rfl (hTg12.mv h0) o3 rfl hE hB (fun u vd Lc ht61 hE => ?_)
        have h0 := h0.trans ht61
        refine at_cd ?_
        refine cd_sq ?_
        refine ap_range (m := 0) (Tl := fun _ => []) Tryz.underlying111 rfl (by omega) rfl hE (fun i _ _ _ _ _ hi => absurd hi (by omega)) (fun u vd Lc ht62 hE => ?_)
        have h0 := h0.trans ht62
        refine at_cd ?_
        refine ap_teach rfl Tryz.underlying124 rfl tipub_kmsg_Tags.size rfl (hyr22.mv h0 (by simp)) rfl (hTg12.mv h0) o1 o2 rfl hE hB (fun u vd Lc ht63 hE => ?_)
        have h0 := h0.trans ht63
        refine at_sub (.cons (.skip rfl .rfl')) ?_
        exact at_sub (.cons (.skip rfl (.skip rfl (.cons (.cons (.cons (.cons (.cons (.cons .rfl'))))))))) (kb _ _ _ (((((((((ht23.trans ht24).trans ht26).trans ht27).trans ht29).trans ht31).trans ht33).trans ht61).trans ht62).trans ht63) hE)
    · skip
      subst hq
      simp only [Bool.false_eq_true, if_false, List.nil_append] at hE
      refine cd_skip (at_base fun u ht64 => ?_)
      have h0 := h0.trans ht64
      exact at_sub (.cons (.skip rfl (.skip rfl (.cons (.cons (.cons (.cons (.cons (.cons .rfl'))))))))) (kb _ _ _ (((((((ht23.trans ht24).trans ht26).trans ht27).trans ht29).trans ht31).trans ht33).trans ht64) hE)
  have hE := ls_end hE
  have h0 := h0.trans ht7
  refine at_sub (.cons (.skip rfl (.cons (.cons (.cons .rfl'))))) ?_
  refine at_cd ?_
  have hE := pl_nil hE
  refine cd_sq ?_
  refine ap_tags (off := 3) rfl rfl Tryz.underlying74 rfl tipub_kmsg_Tags.size rfl (hrc.mv h0 (by simp)) rfl (hTg1.mv h0) (fun h => (hfu h).2) rfl rfl rfl hE hB (fun u vd Lc ht65 hE => ?_)
  have h0 := h0.trans ht65
  refine at_cd ?_
  have hE : Lc = Full := by simpa using hE
  subst hE
  refine cd_rowone (i := 0) rfl (fun hone => ?_)
  refine cd_sr ?_
  refine ln_pv (pv_move rfl) rfl ?_
  refine ln_pv (pv_assign rfl) rfl ?_
  refine ln_cd ?_
  refine cd_ret ?_
  exact at_retT (i := 0) rfl rfl rfl (fun w hS => ⟨rfl, hone⟩)
end K
end Go.Proofs.YtmknncmdbmnmgabGreat
