import Derived.Test.YtmknncmdbmnmgaaA8
import Derived.Test.YtmknncmdbmnmgaaMls
set_option linter.unusedVariables false
set_option linter.unusedSimpArgs false
namespace Go.Proofs.Ytmknncmdbmnmgaa
namespace K
open Go Go.Lib
theorem append_BeginQuorumEpochResponse (t : Vw) (b : Nat) (v : Int) (y : Tre) (cells : List Value) (vd : Value) (L0 : List UInt8) (hrc : RC t b 0 (.int .i16 v :: cells)) (hM : RMp t F_BeginQuorumEpochResponse y cells) (hfit : okP F_BeginQuorumEpochResponse v (flexB 1 v) y) (h0 : 0 ≤ v) (h1 : v ≤ 1) (hf32 : (fieldB (F_BeginQuorumEpochResponse[2]'(by decide)) v (flexB 1 v) (y.at_ 2)).length ≤ 4294967295) (hB : (L0 ++ partB F_BeginQuorumEpochResponse v (flexB 1 v) y).length ≤ 4398046511104) (hok : (OctRow vd L0).ok t.w) (hav : ∀ q ∈ (OctRow vd L0).blk, t.av q) : CT Try.prog 132 [.pointer (some ⟨b, 0, none⟩), vd] t (OctRow vd L0) fun _ r e' => e' = OctRow r (L0 ++ partB F_BeginQuorumEpochResponse v (flexB 1 v) y) ∧ r.oneCell' = true := by
  have hv0 := h0
  clear h0
  obtain ⟨fc1, mv1, hce1, hfl1, hTg1⟩ := hM
  simp only [F_BeginQuorumEpochResponse, RMl] at hfl1
  obtain ⟨x1_0, z1_0, e1_0, g1_0, x1_1, z1_1, e1_1, g1_1, x1_2, z1_2, e1_2, g1_2, hend1⟩ := hfl1
  obtain rfl := RMf_i16.1 g1_0
  obtain ⟨_, rfl, Gg1_1⟩ := RMf_list.1 g1_1
  obtain ⟨ad1_1, cap1_1, rfl, hnil1_1, Hg1_1⟩ := Gg1_1.els
  obtain ⟨_, rfl, Gg1_2⟩ := RMf_list.1 g1_2
  obtain ⟨ad1_2, cap1_2, rfl, hnil1_2, Hg1_2⟩ := Gg1_2.els
  subst hend1
  subst e1_2
  subst e1_1
  subst e1_0
  rw [hce1] at hrc
  simp only [List.cons_append, List.nil_append, List.append_assoc] at hrc
  obtain ⟨hfl, hfu⟩ := hfit
  obtain ⟨k2, hfl⟩ := okFl_cons hfl
  obtain ⟨k3, hfl⟩ := okFl_cons hfl
  obtain ⟨k4, hfl⟩ := okFl_cons hfl
  have hq0 : decide (v ≥ 1) = flexB 1 v := by simp [flexB]
  obtain ⟨Full, hFull⟩ : ∃ F : List UInt8, L0 ++ partB F_BeginQuorumEpochResponse v (flexB 1 v) y = F := ⟨_, rfl⟩
  rw [hFull] at hB ⊢
  have hE : L0 ++ (partB F_BeginQuorumEpochResponse v (flexB 1 v) y ++ []) = Full := by rw [List.append_nil]; exact hFull
  clear hFull
  generalize flexB 1 v = q at *
  have hE := pt_open1 (by decide) hfu ((tgf_skip (by decide)).trans ((tgf_skip (by decide)).trans (tgf_here (by decide) tgf_nil))) hE
  refine ct_enter Try.func132 rfl Try.ntmps132 rfl hok hav (by simp only [Ent.blk]; cases vd.ownBlock <;> simp) ?_
  generalize L0 = Lc at *
  have h0 : Tr t t := Tr.refl t
  refine cd_sub_ (L' := [(1, vd), (0, .pointer (some ⟨b, 0, none⟩))]) (.put rfl (.put rfl .nil)) ?_
  refine cd_sq ?_
  refine ap_const rfl ?_
  refine at_sub (.skip rfl .rfl') ?_
  refine at_cd ?_
  refine cd_sq ?_
  refine ap_load0 rfl Try.underlying135 rfl tiint16.size rfl Try.underlying49 rfl (hrc.mv h0 (by simp)) rfl rfl ?_
  refine at_sub (.swap rfl) ?_
  refine at_cd ?_
  refine cd_sq ?_
  refine ap_blank rfl rfl ?_
  refine at_cd ?_
  refine cd_sq ?_
  refine ap_geqF rfl hq0 rfl ?_
  refine at_sub (.swap rfl) ?_
  refine at_cd ?_
  refine cd_sq ?_
  refine ap_blank rfl rfl ?_
  refine at_cd ?_
  refine cd_sq ?_
  have hE := pl_all (by decide) (hasB_all hv0) hE
  have hkk := okV_get k2 (by decide) (hasB_all hv0)
  refine cd_sq ?_
  refine ap_load (off := 1) rfl Try.underlying135 rfl tiint16.size rfl Try.underlying49 rfl (hrc.mv h0 (by simp)) rfl rfl ?_
  refine at_cd ?_
  refine ap_call en_137 rfl rfl (fun u hu => by rw [fieldB_s0 (by decide) (by decide) (by decide)]; exact as_i16 u _ _ _) hE hB (fun u vd Lc ht5 hE => ?_)
  have h0 := h0.trans ht5
  refine at_sub (.cons (.skip rfl (.cons (.cons (.cons .rfl'))))) ?_
  refine at_cd ?_
  refine cd_sq ?_
  have hE := pl_all (by decide) (hasB_all hv0) hE
  have hkk := okV_get k3 (by decide) (hasB_all hv0)
  refine cd_sq ?_
  refine ap_load (off := 2) rfl Try.underlying135 rfl tiSl_kmsg_BeginQuorumEpochResponseTopic.size rfl Try.underlying132 rfl (hrc.mv h0 (by simp)) rfl rfl ?_
  refine at_cd ?_
  obtain ⟨hll, hlz, hle⟩ := okV_l hkk
  have hE := ls_open (by decide) hll hlz hE
  have hel := els_len hll
  refine cd_sq ?_
  refine ap_flexL (T' := 0) rfl en_139 en_140 Try.underlying132 rfl rfl rfl rfl (fun hq u hu => by subst hq; exact al_c u _ hel) (fun hq u hu => by subst hq; exact al_n u _ hel) hE hB (fun u vd Lc ht6 hE => ?_)
  have h0 := h0.trans ht6
  refine at_cd ?_
  refine ap_range (Tl := fun i => ((els (y.at_ 1)).drop i).flatMap (valueB 10 F_sBeginQuorumEpochResponseTopic false v q)) Try.underlying132 rfl (by omega) rfl hE (fun i9 u vd Lc N' X' hi10 hu8 hE kb => ?_) (fun u vd Lc ht7 hE => ?_)
  · skip
    have h0 := h0.trans hu8
    have hE := ls_step hi10 hE
    rcases Hg1_1 with hm0 | ⟨gg, oo, lc, rfl, hgc, hgl, hge⟩
    · omega
    have hy := hge i9 hi10
    have hyr := seg_rc hgc hgl hi10
    have hkk := hle i9 hi10
    refine cd_sq ?_
    refine ap_copy rfl rfl ?_
    refine at_cd ?_
    refine cd_sq ?_
    refine ap_idx (ez := 3) rfl Try.underlying132 tipub_kmsg_BeginQuorumEpochResponseTopic.size hi10 rfl rfl ?_
    refine at_cd ?_
    have hy := RE_part hy
    have hyr : RC t gg (oo + i9 * 3) _ := hyr
    generalize hyy : (els (y.at_ 1))[i9] = ye11 at *
    obtain ⟨fc12, mv12, hce12, hfl12, hTg12⟩ := hy
    simp only [F_sBeginQuorumEpochResponseTopic, RMl] at hfl12
    obtain ⟨x12_0, z12_0, e12_0, g12_0, x12_1, z12_1, e12_1, g12_1, hend12⟩ := hfl12
    obtain rfl := (RMf_str (by decide)).1 g12_0
    obtain ⟨_, rfl, Gg12_1⟩ := RMf_list.1 g12_1
    obtain ⟨ad12_1, cap12_1, rfl, hnil12_1, Hg12_1⟩ := Gg12_1.els
    subst hend12
    subst e12_1
    subst e12_0
    rw [hce12] at hyr
    simp only [List.cons_append, List.nil_append, List.append_assoc] at hyr
    obtain ⟨hfl, hfu13⟩ := (show okP F_sBeginQuorumEpochResponseTopic v q ye11 from hkk)
    obtain ⟨k14, hfl⟩ := okFl_cons hfl
    obtain ⟨k15, hfl⟩ := okFl_cons hfl
    have hE := vt_open (by decide) hfu13 hE
    have hyr16 := hyr
    refine cd_sq ?_
    have hE := pl_all (by decide) (hasB_all hv0) hE
    have hkk := okV_get k14 (by decide) (hasB_all hv0)
    refine cd_sq ?_
    refine ap_load (off := 0) rfl Try.underlying224 rfl tistring.size rfl Try.underlying9 rfl (hyr16.mv h0 (by simp)) rfl rfl ?_
    refine at_cd ?_
    refine ap_flex rfl en_162 en_163 rfl rfl rfl rfl (fun hq u hu => by subst hq; rw [fieldB_s0 (by decide) (by decide) (by decide)]; exact as_cstr u _ (okV_s (by decide) (by decide) hkk (.inl rfl)).1) (fun hq u hu => by subst hq; rw [fieldB_s0 (by decide) (by decide) (by decide)]; exact as_str u _ (okV_s (by decide) (by decide) hkk (.inl rfl)).1) hE hB (fun u vd Lc ht17 hE => ?_)
    have h0 := h0.trans ht17
    refine at_sub (.cons (.skip rfl (.cons (.cons (.cons (.cons (.cons (.cons (.cons (.cons .rfl')))))))))) ?_
    refine at_cd ?_
    refine cd_sq ?_
    have hE := pl_all (by decide) (hasB_all hv0) hE
    have hkk := okV_get k15 (by decide) (hasB_all hv0)
    refine cd_sq ?_
    refine ap_load (off := 1) rfl Try.underlying224 rfl tiSl_kmsg_BeginQuorumEpochResponseTopicPartition.size rfl Try.underlying222 rfl (hyr16.mv h0 (by simp)) rfl rfl ?_
    refine at_cd ?_
    obtain ⟨hll, hlz, hle⟩ := okV_l hkk
    have hE := ls_open (by decide) hll hlz hE
    have hel := els_len hll
    refine cd_sq ?_
    refine ap_flexL (T' := 0) rfl en_139 en_140 Try.underlying222 rfl rfl rfl rfl (fun hq u hu => by subst hq; exact al_c u _ hel) (fun hq u hu => by subst hq; exact al_n u _ hel) hE hB (fun u vd Lc ht18 hE => ?_)
    have h0 := h0.trans ht18
    refine at_cd ?_
    refine ap_range (Tl := fun i => ((els (ye11.at_ 1)).drop i).flatMap (valueB 10 F_sBeginQuorumEpochResponseTopicPartition false v q)) Try.underlying222 rfl (by omega) rfl hE (fun i21 u vd Lc N' X' hi22 hu20 hE kb => ?_) (fun u vd Lc ht19 hE => ?_)
    · skip
      have h0 := h0.trans hu20
      have hE := ls_step hi22 hE
      rcases Hg12_1 with hm0 | ⟨gg, oo, lc, rfl, hgc, hgl, hge⟩
      · omega
      have hy := hge i21 hi22
      have hyr := seg_rc hgc hgl hi22
      have hkk := hle i21 hi22
      refine cd_sq ?_
      refine ap_copy rfl rfl ?_
      refine at_cd ?_
      refine cd_sq ?_
      refine ap_idx (ez := 5) rfl Try.underlying222 tipub_kmsg_BeginQuorumEpochResponseTopicPartition.size hi22 rfl rfl ?_
      refine at_cd ?_
      have hy := RE_part hy
      have hyr : RC t gg (oo + i21 * 5) _ := hyr
      generalize hyy : (els (ye11.at_ 1))[i21] = ye23 at *
      obtain ⟨fc24, mv24, hce24, hfl24, hTg24⟩ := hy
      simp only [F_sBeginQuorumEpochResponseTopicPartition, RMl] at hfl24
      obtain ⟨x24_0, z24_0, e24_0, g24_0, x24_1, z24_1, e24_1, g24_1, x24_2, z24_2, e24_2, g24_2, x24_3, z24_3, e24_3, g24_3, hend24⟩ := hfl24
      obtain rfl := RMf_i32.1 g24_0
      obtain rfl := RMf_i16.1 g24_1
      obtain rfl := RMf_i32.1 g24_2
      obtain rfl := RMf_i32.1 g24_3
      subst hend24
      subst e24_3
      subst e24_2
      subst e24_1
      subst e24_0
      rw [hce24] at hyr
      simp only [List.cons_append, List.nil_append, List.append_assoc] at hyr
      obtain ⟨hfl, hfu25⟩ := (show okP F_sBeginQuorumEpochResponseTopicPartition v q ye23 from hkk)
      obtain ⟨k26, hfl⟩ := okFl_cons hfl
      obtain ⟨k27, hfl⟩ := okFl_cons hfl
      obtain ⟨k28, hfl⟩ := okFl_cons hfl
      obtain ⟨k29, hfl⟩ := okFl_cons hfl
      have hE := vt_open (by decide) hfu25 hE
      have hyr30 := hyr
      refine cd_sq ?_
      have hE := pl_all (by decide) (hasB_all hv0) hE
      have hkk := okV_get k26 (by decide) (hasB_all hv0)
      refine cd_sq ?_
      refine ap_load (off := 0) rfl Try.underlying233 rfl tiint32.size rfl Try.underlying21 rfl (hyr30.mv h0 (by simp)) rfl rfl ?_
      refine at_cd ?_
      refine ap_call en_138 rfl rfl (fun u hu => by rw [fieldB_s0 (by decide) (by decide) (by decide)]; exact as_i32 u _ _ _) hE hB (fun u vd Lc ht31 hE => ?_)
      have h0 := h0.trans ht31
      refine at_sub (.cons (.skip rfl (.cons (.cons (.cons (.cons (.cons (.cons (.cons (.cons (.cons (.cons (.cons (.cons (.cons .rfl'))))))))))))))) ?_
      refine at_cd ?_
      refine cd_sq ?_
      have hE := pl_all (by decide) (hasB_all hv0) hE
      have hkk := okV_get k27 (by decide) (hasB_all hv0)
      refine cd_sq ?_
      refine ap_load (off := 1) rfl Try.underlying233 rfl tiint16.size rfl Try.underlying49 rfl (hyr30.mv h0 (by simp)) rfl rfl ?_
      refine at_cd ?_
      refine ap_call en_137 rfl rfl (fun u hu => by rw [fieldB_s0 (by decide) (by decide) (by decide)]; exact as_i16 u _ _ _) hE hB (fun u vd Lc ht32 hE => ?_)
      have h0 := h0.trans ht32
      refine at_sub (.cons (.skip rfl (.cons (.cons (.cons (.cons (.cons (.cons (.cons (.cons (.cons (.cons (.cons (.cons (.cons .rfl'))))))))))))))) ?_
      refine at_cd ?_
      refine cd_sq ?_
      have hE := pl_all (by decide) (hasB_all hv0) hE
      have hkk := okV_get k28 (by decide) (hasB_all hv0)
      refine cd_sq ?_
      refine ap_load (off := 2) rfl Try.underlying233 rfl tiint32.size rfl Try.underlying21 rfl (hyr30.mv h0 (by simp)) rfl rfl ?_
      refine at_cd ?_
      refine ap_call en_138 rfl rfl (fun u hu => by rw [fieldB_s0 (by decide) (by decide) (by decide)]; exact as_i32 u _ _ _) hE hB (fun u vd Lc ht33 hE => ?_)
      have h0 := h0.trans ht33
      refine at_sub (.cons (.skip rfl (.cons (.cons (.cons (.cons (.cons (.cons (.cons (.cons (.cons (.cons (.cons (.cons (.cons .rfl'))))))))))))))) ?_
      refine at_cd ?_
      refine cd_sq ?_
      have hE := pl_all (by decide) (hasB_all hv0) hE
      have hkk := okV_get k29 (by decide) (hasB_all hv0)
      refine cd_sq ?_
      refine ap_load (off := 3) rfl Try.underlying233 rfl tiint32.size rfl Try.underlying21 rfl (hyr30.mv h0 (by simp)) rfl rfl ?_
      refine at_cd ?_
      refine ap_call en_138 rfl rfl (fun u hu => by rw [fieldB_s0 (by decide) (by decide) (by decide)]; exact as_i32 u _ _ _) hE hB (fun u vd Lc ht34 hE => ?_)
      have h0 := h0.trans ht34
      refine at_sub (.cons (.skip rfl (.cons (.cons (.cons (.cons (.cons (.cons (.cons (.cons (.cons (.cons (.cons (.cons (.cons .rfl'))))))))))))))) ?_
      refine at_cd ?_
      have hE := pl_nil hE
      refine ap_tags (off := 4) rfl rfl Try.underlying233 rfl tipub_kmsg_Tags.size rfl (hyr30.mv h0 (by simp)) rfl (hTg24.mv h0) (fun h => (hfu25 h).2) rfl rfl rfl hE hB (fun u vd Lc ht35 hE => ?_)
      have h0 := h0.trans ht35
      exact at_sub (.cons (.skip rfl (.skip rfl (.cons (.cons (.cons (.cons (.cons (.cons (.cons (.cons (.cons (.cons (.cons .rfl')))))))))))))) (kb _ _ _ ((((ht31.trans ht32).trans ht33).trans ht34).trans ht35) hE)
    have hE := ls_end hE
    have h0 := h0.trans ht19
    refine at_sub (.cons (.skip rfl (.cons (.cons (.cons (.cons (.cons (.cons (.cons (.cons .rfl')))))))))) ?_
    refine at_cd ?_
    have hE := pl_nil hE
    refine ap_tags (off := 2) rfl rfl Try.underlying224 rfl tipub_kmsg_Tags.size rfl (hyr16.mv h0 (by simp)) rfl (hTg12.mv h0) (fun h => (hfu13 h).2) rfl rfl rfl hE hB (fun u vd Lc ht36 hE => ?_)
    have h0 := h0.trans ht36
    exact at_sub (.cons (.skip rfl (.skip rfl (.cons (.cons (.cons (.cons (.cons (.cons .rfl'))))))))) (kb _ _ _ (((ht17.trans ht18).trans ht19).trans ht36) hE)
  have hE := ls_end hE
  have h0 := h0.trans ht7
  refine at_sub (.cons (.skip rfl (.cons (.cons (.cons .rfl'))))) ?_
  refine at_cd ?_
  have hE := pl_tag (by decide) hE
  have hE := pl_nil hE
  refine cd_sq ?_
  refine ap_test rfl rfl (fun hq => ?_) (fun hq => ?_)
  · skip
    subst hq
    obtain ⟨o1, o2, o3⟩ := (hfu rfl).2
    rw [if_pos rfl, List.append_assoc, List.append_assoc] at hE
    have hkk := okV_tag k4 (by decide) rfl
    generalize hus0 : usualB _ _ = us at hE
    refine cd_sq ?_
    refine ap_const rfl ?_
    refine at_cd ?_
    refine cd_sq ?_
    refine cd_sq ?_
    refine cd_region ?_
    refine ln_pv (pv_move rfl) rfl ?_
    refine ln_pv (pv_nilCheck rfl) rfl ?_
    refine ln_pv (pv_fieldAddr (off := 3) Try.underlying135 rfl tiSl_kmsg_BeginQuorumEpochResponseNodeEndpoint.size rfl rfl rfl) rfl ?_
    refine ln_pv (pv_ldr (j := 3) (hrc.mv h0 (by simp)) Try.underlying133 rfl lk_eq rfl) rfl ?_
    obtain ⟨hll, hlz, hle⟩ := okV_l hkk
    refine ln_pv (pv_len_slice Try.underlying133 lk_eq) rfl ?_
    refine ln_pv (pv_gtr lk_eq ev_c) rfl ?_
    refine ln_nil (at_cd ?_)
    refine cd_if lk_eq (fun hp => ?_) (fun hp => ?_)
    · skip
      have hus : us = false := hus0.symm.trans (us_list1 (by omega))
      rw [hus] at hE
      simp only [Bool.false_eq_true, if_false] at hE
      refine cd_sub_ (.skip rfl (.skip rfl (.skip rfl (.skip rfl (.skip rfl (.skip rfl .rfl')))))) ?_
      refine ap_tapp Try.underlying234 tiuint32 rfl rfl (fun g cp => ?_)
      refine at_sub (.swap rfl) ?_
      refine at_cd ?_
      refine cd_sq ?_
      refine ap_tcount (m := 1) rfl (by decide) Try.underlying234 rfl Try.underlying135 rfl tipub_kmsg_Tags.size rfl (hrc.mv h0 (by simp)) rfl (hTg1.mv h0) o3 rfl hE hB (fun u vd Lc ht37 hE => ?_)
      have h0 := h0.trans ht37
      refine at_cd ?_
      refine cd_sq ?_
      refine ap_rangeV (m := 1) (Tl := fun i => match i with | 0 => tagB (0, _) | _ => []) Try.underlying234 rfl (by omega) rfl hE (fun i u vd Lc N' X' hi hu39 hE kb => ?_) (fun u vd Lc ht38 hE => ?_)
      · skip
        have h0 := h0.trans hu39
        obtain rfl : i = 0 := by omega
        refine ap_case rfl rfl Try.underlying234 tiuint32.size Try.underlying58 rfl rfl rfl ?_
        generalize hfb : fieldB _ v true _ = fb at hE kb
        have hE := tg_open hE
        refine ap_scopeJ (off := 3) (fb := fb) rfl Try.underlying135 rfl tiSl_kmsg_BeginQuorumEpochResponseNodeEndpoint.size rfl Try.underlying133 rfl (hrc.mv h0 (by simp)) rfl rfl rfl rfl rfl hE hB (fun u vd hu40 => ?_) (fun u vd hu41 => ?_)
        · skip
          have h0 := h0.trans hu40
          have hbb : (Lc ++ uvar 0).length + fb.length ≤ 4398046511104 := by rw [← hE] at hB; simp only [List.length_append] at hB ⊢; omega
          have hbu : (Lc ++ uvar 0).length + (uvar fb.length).length ≤ 4398046511104 := by rw [← hE] at hB; simp only [List.length_append] at hB ⊢; omega
          have hb0 : 0 < (Lc ++ uvar 0).length := by rw [uvar_zero]; simp
          have hb32 : fb.length ≤ 4294967295 := by rw [← hfb]; exact hf32
          clear hE hB
          generalize Lc ++ uvar 0 = L1 at *
          obtain ⟨F1, hF1⟩ : ∃ F : List UInt8, L1 ++ fb = F := ⟨_, rfl⟩
          have hE : L1 ++ (fb ++ []) = F1 := by rw [List.append_nil]; exact hF1
          have hB : F1.length ≤ 4398046511104 := by rw [← hF1, List.length_append]; exact hbb
          rw [← hfb] at hE
          obtain ⟨hll, hlz, hle⟩ := okV_l hkk
          have hE := ls_open (by decide) hll hlz hE
          have hel := els_len hll
          refine cdG_sq ?_
          refine ap_flexL (T' := 0) rfl en_139 en_140 Try.underlying133 rfl rfl rfl rfl (fun _ u hu => by exact al_c u _ hel) (fun hq => by cases hq) hE hB (fun u vd Lc ht42 hE => ?_)
          have h0 := h0.trans ht42
          refine at_cdG ?_
          refine cdG_sq ?_
          refine ap_range (Tl := fun i => ((els (y.at_ 2)).drop i).flatMap (valueB 10 F_sBeginQuorumEpochResponseNodeEndpoint false v true)) Try.underlying133 rfl (by omega) rfl hE (fun i45 u vd Lc N' X' hi46 hu44 hE kb => ?_) (fun u vd Lc ht43 hE => ?_)
          · skip
            have h0 := h0.trans hu44
            have hE := ls_step hi46 hE
            rcases Hg1_2 with hm0 | ⟨gg, oo, lc, rfl, hgc, hgl, hge⟩
            · omega
            have hy := hge i45 hi46
            have hyr := seg_rc hgc hgl hi46
            have hkk := hle i45 hi46
            refine cd_sq ?_
            refine ap_copy rfl rfl ?_
            refine at_cd ?_
            refine cd_sq ?_
            refine ap_idx (ez := 4) rfl Try.underlying133 tipub_kmsg_BeginQuorumEpochResponseNodeEndpoint.size hi46 rfl rfl ?_
            refine at_cd ?_
            have hy := RE_part hy
            have hyr : RC t gg (oo + i45 * 4) _ := hyr
            generalize hyy : (els (y.at_ 2))[i45] = ye47 at *
            obtain ⟨fc48, mv48, hce48, hfl48, hTg48⟩ := hy
            simp only [F_sBeginQuorumEpochResponseNodeEndpoint, RMl] at hfl48
            obtain ⟨x48_0, z48_0, e48_0, g48_0, x48_1, z48_1, e48_1, g48_1, x48_2, z48_2, e48_2, g48_2, hend48⟩ := hfl48
            obtain rfl := RMf_i32.1 g48_0
            obtain rfl := (RMf_str (by decide)).1 g48_1
            obtain rfl := RMf_u16.1 g48_2
            subst hend48
            subst e48_2
            subst e48_1
            subst e48_0
            rw [hce48] at hyr
            simp only [List.cons_append, List.nil_append, List.append_assoc] at hyr
            obtain ⟨hfl, hfu49⟩ := (show okP F_sBeginQuorumEpochResponseNodeEndpoint v true ye47 from hkk)
            obtain ⟨k50, hfl⟩ := okFl_cons hfl
            obtain ⟨k51, hfl⟩ := okFl_cons hfl
            obtain ⟨k52, hfl⟩ := okFl_cons hfl
            have hE := vt_open (by decide) hfu49 hE
            have hyr53 := hyr
            refine cd_sq ?_
            have hE := pl_if (by decide) (hasB_from) hE
            refine ap_if rfl rfl hE (fun u vd Lc ht54 hE => ?_) (fun hva hE kk => ?_)
            rotate_left
            · skip
              have hkk := okV_get k50 (by decide) (by rw [hasB_from]; exact decide_eq_true hva)
              refine cd_sq ?_
              refine ap_load (off := 0) rfl Try.underlying228 rfl tiint32.size rfl Try.underlying21 rfl (hyr53.mv h0 (by simp)) rfl rfl ?_
              refine at_cd ?_
              refine ap_call en_138 rfl rfl (fun u hu => by rw [fieldB_s0 (by decide) (by decide) (by decide)]; exact as_i32 u _ _ _) hE hB (fun u vd Lc ht55 hE => ?_)
              have h0 := h0.trans ht55
              refine at_sub (.cons (.skip rfl (.cons (.cons (.cons (.cons (.cons (.cons (.cons (.cons (.cons (.cons (.cons (.cons (.cons (.cons .rfl')))))))))))))))) ?_
              exact at_sub (.cons (.cons (.cons (.cons (.cons (.cons (.cons (.cons (.cons (.cons (.cons (.cons (.cons (.cons (.cons .rfl'))))))))))))))) (kk _ _ _ ht55 hE)
            have h0 := h0.trans ht54
            refine at_cd ?_
            refine cd_sq ?_
            have hE := pl_if (by decide) (hasB_from) hE
            refine ap_if rfl rfl hE (fun u vd Lc ht56 hE => ?_) (fun hva hE kk => ?_)
            rotate_left
            · skip
              have hkk := okV_get k51 (by decide) (by rw [hasB_from]; exact decide_eq_true hva)
              refine cd_sq ?_
              refine ap_load (off := 1) rfl Try.underlying228 rfl tistring.size rfl Try.underlying9 rfl (hyr53.mv h0 (by simp)) rfl rfl ?_
              refine at_cd ?_
              refine ap_flex rfl en_162 en_163 rfl rfl rfl rfl (fun _ u hu => by rw [fieldB_s0 (by decide) (by decide) (by decide)]; exact as_cstr u _ (okV_s (by decide) (by decide) hkk (.inl rfl)).1) (fun hq => by cases hq) hE hB (fun u vd Lc ht57 hE => ?_)
              have h0 := h0.trans ht57
              refine at_sub (.cons (.skip rfl (.cons (.cons (.cons (.cons (.cons (.cons (.cons (.cons (.cons (.cons (.cons (.cons (.cons (.cons .rfl')))))))))))))))) ?_
              exact at_sub (.cons (.cons (.cons (.cons (.cons (.cons (.cons (.cons (.cons (.cons (.cons (.cons (.cons (.cons (.cons .rfl'))))))))))))))) (kk _ _ _ ht57 hE)
            have h0 := h0.trans ht56
            refine at_cd ?_
            refine cd_sq ?_
            have hE := pl_if (by decide) (hasB_from) hE
            refine ap_if rfl rfl hE (fun u vd Lc ht58 hE => ?_) (fun hva hE kk => ?_)
            rotate_left
            · skip
              have hkk := okV_get k52 (by decide) (by rw [hasB_from]; exact decide_eq_true hva)
              refine cd_sq ?_
              refine ap_load (off := 2) rfl Try.underlying228 rfl tiuint16.size rfl Try.underlying226 rfl (hyr53.mv h0 (by simp)) rfl rfl ?_
              refine at_cd ?_
              refine ap_call en_190 rfl rfl (fun u hu => by rw [fieldB_s0 (by decide) (by decide) (by decide)]; exact as_u16 u _ _ _) hE hB (fun u vd Lc ht59 hE => ?_)
              have h0 := h0.trans ht59
              refine at_sub (.cons (.skip rfl (.cons (.cons (.cons (.cons (.cons (.cons (.cons (.cons (.cons (.cons (.cons (.cons (.cons (.cons .rfl')))))))))))))))) ?_
              exact at_sub (.cons (.cons (.cons (.cons (.cons (.cons (.cons (.cons (.cons (.cons (.cons (.cons (.cons (.cons (.cons .rfl'))))))))))))))) (kk _ _ _ ht59 hE)
            have h0 := h0.trans ht58
            refine at_cd ?_
            have hE := pl_nil hE
            refine ap_tags (off := 3) rfl rfl Try.underlying228 rfl tipub_kmsg_Tags.size rfl (hyr53.mv h0 (by simp)) rfl (hTg48.mv h0) (fun h => (hfu49 h).2) rfl rfl rfl hE hB (fun u vd Lc ht60 hE => ?_)
            have h0 := h0.trans ht60
            exact at_sub (.cons (.skip rfl (.skip rfl (.cons (.cons (.cons (.cons (.cons (.cons (.cons (.cons (.cons (.cons (.cons (.cons .rfl'))))))))))))))) (kb _ _ _ (((ht54.trans ht56).trans ht58).trans ht60) hE)
          have hE := ls_end hE
          have h0 := h0.trans ht43
          have hL : Lc = L1 ++ fb := by rw [hF1, ← hE, List.append_nil]
          subst hL
          refine at_sub (.cons (.cons (.cons (.cons (.cons (.cons (.cons (.cons (.cons (.cons (.cons .rfl'))))))))))) ?_
          refine at_cdG ?_
          refine cdG_sq ?_
          refine ap_sized (b := false) rfl rfl ?_
          refine at_cdG ?_
          refine cdG_tt rfl (cdG_sub (.skip rfl .rfl') ?_)
          refine cdG_sq ?_
          refine ap_resize (k := L1.length) (bs := uvar fb.length) rfl en_142 (by rw [List.length_append]; omega) (by rw [List.length_append]; omega) (by rw [List.length_append]; omega) rfl (fun u hu => by rw [List.length_append, Nat.add_sub_cancel_left]; exact kbin_AppendUvarint u fb.length (by omega)) (by omega) (by kernel_rfl) (fun u v' ht61 => ?_)
          have h0 := h0.trans ht61
          rw [List.take_left]
          refine at_cdG ?_
          refine cdG_sq ?_
          refine cd_region ?_
          refine ln_pv (pv_assign ev_c) rfl ?_
          refine ln_nil ?_
          refine at_cdG ?_
          refine cdG_goto ?_
          exact at_jump (S := Value) (Lj := fun z => _ :: _ :: _ :: _ :: _) (Hj := fun z => OctRow z _ :: _) (I := fun _ _ => True) v' (((hu40.trans ht42).trans ht43).trans ht61) (fun _ _ => trivial) (.put rfl (.put rfl (.put rfl (.put rfl (.skip rfl (.skip rfl (.skip rfl (.skip rfl (.skip rfl .rfl'))))))))) (List.Sublist.refl _)
        · skip
          have h0 := h0.trans hu41
          have hE := tg_open2 hE
          have hE : _ ++ (_ ++ _) = Full := hE
          conv at hE => lhs; rhs; lhs; rw [← hfb]
          obtain ⟨hll, hlz, hle⟩ := okV_l hkk
          have hE := ls_open (by decide) hll hlz hE
          have hel := els_len hll
          refine cd_sq ?_
          refine ap_flexL (T' := 0) rfl en_139 en_140 Try.underlying133 rfl rfl rfl rfl (fun _ u hu => by exact al_c u _ hel) (fun hq => by cases hq) hE hB (fun u vd Lc ht62 hE => ?_)
          have h0 := h0.trans ht62
          refine at_cd ?_
          refine cd_sq ?_
          refine ap_range (Tl := fun i => ((els (y.at_ 2)).drop i).flatMap (valueB 10 F_sBeginQuorumEpochResponseNodeEndpoint false v true)) Try.underlying133 rfl (by omega) rfl hE (fun i65 u vd Lc N' X' hi66 hu64 hE kb => ?_) (fun u vd Lc ht63 hE => ?_)
          · skip
            have h0 := h0.trans hu64
            have hE := ls_step hi66 hE
            rcases Hg1_2 with hm0 | ⟨gg, oo, lc, rfl, hgc, hgl, hge⟩
            · omega
            have hy := hge i65 hi66
            have hyr := seg_rc hgc hgl hi66
            have hkk := hle i65 hi66
            refine cd_sq ?_
            refine ap_copy rfl rfl ?_
            refine at_cd ?_
            refine cd_sq ?_
            refine ap_idx (ez := 4) rfl Try.underlying133 tipub_kmsg_BeginQuorumEpochResponseNodeEndpoint.size hi66 rfl rfl ?_
            refine at_cd ?_
            have hy := RE_part hy
            have hyr : RC t gg (oo + i65 * 4) _ := hyr
            generalize hyy : (els (y.at_ 2))[i65] = ye67 at *
            obtain ⟨fc68, mv68, hce68, hfl68, hTg68⟩ := hy
            simp only [F_sBeginQuorumEpochResponseNodeEndpoint, RMl] at hfl68
            obtain ⟨x68_0, z68_0, e68_0, g68_0, x68_1, z68_1, e68_1, g68_1, x68_2, z68_2, e68_2, g68_2, hend68⟩ := hfl68
            obtain rfl := RMf_i32.1 g68_0
            obtain rfl := (RMf_str (by decide)).1 g68_1
            obtain rfl := RMf_u16.1 g68_2
            subst hend68
            subst e68_2
            subst e68_1
            subst e68_0
            rw [hce68] at hyr
            simp only [List.cons_append, List.nil_append, List.append_assoc] at hyr
            obtain ⟨hfl, hfu69⟩ := (show okP F_sBeginQuorumEpochResponseNodeEndpoint v true ye67 from hkk)
            obtain ⟨k70, hfl⟩ := okFl_cons hfl
            obtain ⟨k71, hfl⟩ := okFl_cons hfl
            obtain ⟨k72, hfl⟩ := okFl_cons hfl
            have hE := vt_open (by decide) hfu69 hE
            have hyr73 := hyr
            refine cd_sq ?_
            have hE := pl_if (by decide) (hasB_from) hE
            refine ap_if rfl rfl hE (fun u vd Lc ht74 hE => ?_) (fun hva hE kk => ?_)
            rotate_left
            · skip
              have hkk := okV_get k70 (by decide) (by rw [hasB_from]; exact decide_eq_true hva)
              refine cd_sq ?_
              refine ap_load (off := 0) rfl Try.underlying228 rfl tiint32.size rfl Try.underlying21 rfl (hyr73.mv h0 (by simp)) rfl rfl ?_
              refine at_cd ?_
              refine ap_call en_138 rfl rfl (fun u hu => by rw [fieldB_s0 (by decide) (by decide) (by decide)]; exact as_i32 u _ _ _) hE hB (fun u vd Lc ht75 hE => ?_)
              have h0 := h0.trans ht75
              refine at_sub (.cons (.skip rfl (.cons (.cons (.cons (.cons (.cons (.cons (.cons (.cons (.cons (.cons (.cons (.cons (.cons (.cons .rfl')))))))))))))))) ?_
              exact at_sub (.cons (.cons (.cons (.cons (.cons (.cons (.cons (.cons (.cons (.cons (.cons (.cons (.cons (.cons (.cons .rfl'))))))))))))))) (kk _ _ _ ht75 hE)
            have h0 := h0.trans ht74
            refine at_cd ?_
            refine cd_sq ?_
            have hE := pl_if (by decide) (hasB_from) hE
            refine ap_if rfl rfl hE (fun u vd Lc ht76 hE => ?_) (fun hva hE kk => ?_)
            rotate_left
            · skip
              have hkk := okV_get k71 (by decide) (by rw [hasB_from]; exact decide_eq_true hva)
              refine cd_sq ?_
              refine ap_load (off := 1) rfl Try.underlying228 rfl tistring.size rfl Try.underlying9 rfl (hyr73.mv h0 (by simp)) rfl rfl ?_
              refine at_cd ?_
              refine ap_flex rfl en_162 en_163 rfl rfl rfl rfl (fun _ u hu => by rw [fieldB_s0 (by decide) (by decide) (by decide)]; exact as_cstr u _ (okV_s (by decide) (by decide) hkk (.inl rfl)).1) (fun hq => by cases hq) hE hB (fun u vd Lc ht77 hE => ?_)
              have h0 := h0.trans ht77
              refine at_sub (.cons (.skip rfl (.cons (.cons (.cons (.cons (.cons (.cons (.cons (.cons (.cons (.cons (.cons (.cons (.cons (.cons .rfl')))))))))))))))) ?_
              exact at_sub (.cons (.cons (.cons (.cons (.cons (.cons (.cons (.cons (.cons (.cons (.cons (.cons (.cons (.cons (.cons .rfl'))))))))))))))) (kk _ _ _ ht77 hE)
            have h0 := h0.trans ht76
            refine at_cd ?_
            refine cd_sq ?_
            have hE := pl_if (by decide) (hasB_from) hE
            refine ap_if rfl rfl hE (fun u vd Lc ht78 hE => ?_) (fun hva hE kk => ?_)
            rotate_left
            · skip
              have hkk := okV_get k72 (by decide) (by rw [hasB_from]; exact decide_eq_true hva)
              refine cd_sq ?_
              refine ap_load (off := 2) rfl Try.underlying228 rfl tiuint16.size rfl Try.underlying226 rfl (hyr73.mv h0 (by simp)) rfl rfl ?_
              refine at_cd ?_
              refine ap_call en_190 rfl rfl (fun u hu => by rw [fieldB_s0 (by decide) (by decide) (by decide)]; exact as_u16 u _ _ _) hE hB (fun u vd Lc ht79 hE => ?_)
              have h0 := h0.trans ht79
              refine at_sub (.cons (.skip rfl (.cons (.cons (.cons (.cons (.cons (.cons (.cons (.cons (.cons (.cons (.cons (.cons (.cons (.cons .rfl')))))))))))))))) ?_
              exact at_sub (.cons (.cons (.cons (.cons (.cons (.cons (.cons (.cons (.cons (.cons (.cons (.cons (.cons (.cons (.cons .rfl'))))))))))))))) (kk _ _ _ ht79 hE)
            have h0 := h0.trans ht78
            refine at_cd ?_
            have hE := pl_nil hE
            refine ap_tags (off := 3) rfl rfl Try.underlying228 rfl tipub_kmsg_Tags.size rfl (hyr73.mv h0 (by simp)) rfl (hTg68.mv h0) (fun h => (hfu69 h).2) rfl rfl rfl hE hB (fun u vd Lc ht80 hE => ?_)
            have h0 := h0.trans ht80
            exact at_sub (.cons (.skip rfl (.skip rfl (.cons (.cons (.cons (.cons (.cons (.cons (.cons (.cons (.cons (.cons (.cons (.cons .rfl'))))))))))))))) (kb _ _ _ (((ht74.trans ht76).trans ht78).trans ht80) hE)
          have hE := ls_end hE
          have h0 := h0.trans ht63
          refine at_sub (.cons (.cons (.cons (.cons (.cons (.cons (.cons (.cons (.cons (.cons (.cons .rfl'))))))))))) ?_
          refine at_cd ?_
          refine cd_sq ?_
          refine ap_sized (b := true) rfl rfl ?_
          refine at_cd ?_
          refine cd_ff rfl (cd_sub_ (.skip rfl .rfl') (cd_skip ?_))
          exact at_sub (.cons (.skip rfl (.skip rfl (.skip rfl (.cons (.cons (.cons (.cons (.cons (.cons (.cons .rfl'))))))))))) (kb _ _ _ ((hu41.trans ht62).trans ht63) hE)
      have h0 := h0.trans ht38
      refine at_cd ?_
      refine ap_teach rfl Try.underlying135 rfl tipub_kmsg_Tags.size rfl (hrc.mv h0 (by simp)) rfl (hTg1.mv h0) o1 o2 rfl hE hB (fun u vd Lc ht81 hE => ?_)
      have h0 := h0.trans ht81
      refine at_Hs ?_
      refine at_sub (.cons (.skip rfl .rfl')) ?_
      refine at_cd ?_
      have hE : Lc = Full := by simpa using hE
      subst hE
      refine cd_rowone (i := 0) rfl (fun hone => ?_)
      refine cd_sr ?_
      refine ln_pv (pv_move rfl) rfl ?_
      refine ln_pv (pv_assign rfl) rfl ?_
      refine ln_cd ?_
      refine cd_ret ?_
      exact at_retT (i := 0) rfl rfl rfl (fun w hS => ⟨rfl, hone⟩)
    · skip
      have hus : us = true := hus0.symm.trans (us_list0 hlz (by decide) (by omega))
      rw [hus] at hE
      simp only [if_true, List.nil_append] at hE
      refine cd_sub_ (.skip rfl (.skip rfl (.skip rfl (.skip rfl (.skip rfl (.skip rfl .rfl')))))) ?_
      refine cd_skip (at_sub (.swap rfl) ?_)
      refine at_cd ?_
      refine cd_sq ?_
      refine ap_tcount (m := 0) rfl (by decide) Try.underlying234 rfl Try.underlying135 rfl tipub_kmsg_Tags.size rfl (hrc.mv h0 (by simp)) rfl (hTg1.mv h0) o3 rfl hE hB (fun u vd Lc ht82 hE => ?_)
      have h0 := h0.trans ht82
      refine at_cd ?_
      refine cd_sq ?_
      refine ap_range (m := 0) (Tl := fun _ => []) Try.underlying234 rfl (by omega) rfl hE (fun i _ _ _ _ _ hi => absurd hi (by omega)) (fun u vd Lc ht83 hE => ?_)
      have h0 := h0.trans ht83
      refine at_cd ?_
      refine ap_teach rfl Try.underlying135 rfl tipub_kmsg_Tags.size rfl (hrc.mv h0 (by simp)) rfl (hTg1.mv h0) o1 o2 rfl hE hB (fun u vd Lc ht84 hE => ?_)
      have h0 := h0.trans ht84
      refine at_sub (.cons (.skip rfl .rfl')) ?_
      refine at_cd ?_
      have hE : Lc = Full := by simpa using hE
      subst hE
      refine cd_rowone (i := 0) rfl (fun hone => ?_)
      refine cd_sr ?_
      refine ln_pv (pv_move rfl) rfl ?_
      refine ln_pv (pv_assign rfl) rfl ?_
      refine ln_cd ?_
      refine cd_ret ?_
      exact at_retT (i := 0) rfl rfl rfl (fun w hS => ⟨rfl, hone⟩)
  · skip
    subst hq
    simp only [Bool.false_eq_true, if_false, List.nil_append] at hE
    refine cd_skip (at_base fun u ht85 => ?_)
    have h0 := h0.trans ht85
    refine at_cd ?_
    have hE : Lc = Full := by simpa using hE
    subst hE
    refine cd_rowone (i := 0) rfl (fun hone => ?_)
    refine cd_sr ?_
    refine ln_pv (pv_move rfl) rfl ?_
    refine ln_pv (pv_assign rfl) rfl ?_
    refine ln_cd ?_
    refine cd_ret ?_
    exact at_retT (i := 0) rfl rfl rfl (fun w hS => ⟨rfl, hone⟩)
end K
end Go.Proofs.Ytmknncmdbmnmgaa
