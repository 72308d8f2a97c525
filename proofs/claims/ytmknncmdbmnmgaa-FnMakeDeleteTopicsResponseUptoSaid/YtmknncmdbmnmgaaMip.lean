import Derived.Test.YtmknncmdbmnmgaaA5
import Derived.Test.YtmknncmdbmnmgaaMis
set_option linter.unusedVariables false
set_option linter.unusedSimpArgs false
namespace Go.Proofs.Ytmknncmdbmnmgaa
namespace K
open Go Go.Lib
theorem append_DeleteTopicsResponse (t : Vw) (b : Nat) (v : Int) (y : Tre) (cells : List Value) (vd : Value) (L0 : List UInt8) (hrc : RC t b 0 (.int .i16 v :: cells)) (hM : RMp t F_DeleteTopicsResponse y cells) (hfit : okP F_DeleteTopicsResponse v (flexB 4 v) y) (h0 : 0 ≤ v) (h1 : v ≤ 6) (hB : (L0 ++ partB F_DeleteTopicsResponse v (flexB 4 v) y).length ≤ 4398046511104) (hok : (OctRow vd L0).ok t.w) (hav : ∀ q ∈ (OctRow vd L0).blk, t.av q) : CT Try.prog 113 [.pointer (some ⟨b, 0, none⟩), vd] t (OctRow vd L0) fun _ r e' => e' = OctRow r (L0 ++ partB F_DeleteTopicsResponse v (flexB 4 v) y) ∧ r.oneCell' = true := by
  have hv0 := h0
  clear h0
  obtain ⟨fc1, mv1, hce1, hfl1, hTg1⟩ := hM
  simp only [F_DeleteTopicsResponse, RMl] at hfl1
  obtain ⟨x1_0, z1_0, e1_0, g1_0, x1_1, z1_1, e1_1, g1_1, hend1⟩ := hfl1
  obtain rfl := RMf_i32.1 g1_0
  obtain ⟨_, rfl, Gg1_1⟩ := RMf_list.1 g1_1
  obtain ⟨ad1_1, cap1_1, rfl, hnil1_1, Hg1_1⟩ := Gg1_1.els
  subst hend1
  subst e1_1
  subst e1_0
  rw [hce1] at hrc
  simp only [List.cons_append, List.nil_append, List.append_assoc] at hrc
  obtain ⟨hfl, hfu⟩ := hfit
  obtain ⟨k2, hfl⟩ := okFl_cons hfl
  obtain ⟨k3, hfl⟩ := okFl_cons hfl
  have hq0 : decide (v ≥ 4) = flexB 4 v := by simp [flexB]
  obtain ⟨Full, hFull⟩ : ∃ F : List UInt8, L0 ++ partB F_DeleteTopicsResponse v (flexB 4 v) y = F := ⟨_, rfl⟩
  rw [hFull] at hB ⊢
  have hE : L0 ++ (partB F_DeleteTopicsResponse v (flexB 4 v) y ++ []) = Full := by rw [List.append_nil]; exact hFull
  clear hFull
  generalize flexB 4 v = q at *
  have hE := pt_open (by decide) hfu hE
  refine ct_enter Try.func113 rfl Try.ntmps113 rfl hok hav (by simp only [Ent.blk]; cases vd.ownBlock <;> simp) ?_
  generalize L0 = Lc at *
  have h0 : Tr t t := Tr.refl t
  refine cd_sub_ (L' := [(1, vd), (0, .pointer (some ⟨b, 0, none⟩))]) (.put rfl (.put rfl .nil)) ?_
  refine cd_sq ?_
  refine ap_const rfl ?_
  refine at_sub (.skip rfl .rfl') ?_
  refine at_cd ?_
  refine cd_sq ?_
  refine ap_load0 rfl Try.underlying116 rfl tiint16.size rfl Try.underlying49 rfl (hrc.mv h0 (by simp)) rfl rfl ?_
  refine at_sub (.swap rfl) ?_
  refine at_cd ?_
  refine cd_sq ?_
  refine ap_blank rfl rfl ?_
  refine at_cd ?_
  refine cd_sq ?_
  refine ap_geqF rfl hq0 rfl ?_
  refine at_sub (.swap rfl) ?_
  refine at_cd ?_
  refine cd_sq ?_
  refine ap_blank rfl rfl ?_
  refine at_cd ?_
  refine cd_sq ?_
  have hE := pl_if (by decide) (hasB_from) hE
  refine ap_if rfl rfl hE (fun u vd Lc ht4 hE => ?_) (fun hva hE kk => ?_)
  rotate_left
  · skip
    have hkk := okV_get k2 (by decide) (by rw [hasB_from]; exact decide_eq_true hva)
    refine cd_sq ?_
    refine ap_load (off := 1) rfl Try.underlying116 rfl tiint32.size rfl Try.underlying21 rfl (hrc.mv h0 (by simp)) rfl rfl ?_
    refine at_cd ?_
    refine ap_call en_138 rfl rfl (fun u hu => by rw [fieldB_s0 (by decide) (by decide) (by decide)]; exact as_i32 u _ _ _) hE hB (fun u vd Lc ht5 hE => ?_)
    have h0 := h0.trans ht5
    refine at_sub (.cons (.skip rfl (.cons (.cons (.cons .rfl'))))) ?_
    exact at_sub (.cons (.cons (.cons (.cons .rfl')))) (kk _ _ _ ht5 hE)
  have h0 := h0.trans ht4
  refine at_cd ?_
  refine cd_sq ?_
  have hE := pl_all (by decide) (hasB_all hv0) hE
  have hkk := okV_get k3 (by decide) (hasB_all hv0)
  refine cd_sq ?_
  refine ap_load (off := 2) rfl Try.underlying116 rfl tiSl_kmsg_DeleteTopicsResponseTopic.size rfl Try.underlying114 rfl (hrc.mv h0 (by simp)) rfl rfl ?_
  refine at_cd ?_
  obtain ⟨hll, hlz, hle⟩ := okV_l hkk
  have hE := ls_open (by decide) hll hlz hE
  have hel := els_len hll
  refine cd_sq ?_
  refine ap_flexL (T' := 0) rfl en_139 en_140 Try.underlying114 rfl rfl rfl rfl (fun hq u hu => by subst hq; exact al_c u _ hel) (fun hq u hu => by subst hq; exact al_n u _ hel) hE hB (fun u vd Lc ht6 hE => ?_)
  have h0 := h0.trans ht6
  refine at_cd ?_
  refine ap_range (Tl := fun i => ((els (y.at_ 1)).drop i).flatMap (valueB 10 F_sDeleteTopicsResponseTopic false v q)) Try.underlying114 rfl (by omega) rfl hE (fun i9 u vd Lc N' X' hi10 hu8 hE kb => ?_) (fun u vd Lc ht7 hE => ?_)
  · skip
    have h0 := h0.trans hu8
    have hE := ls_step hi10 hE
    rcases Hg1_1 with hm0 | ⟨gg, oo, lc, rfl, hgc, hgl, hge⟩
    · omega
    have hy := hge i9 hi10
    have hyr := seg_rc hgc hgl hi10
    have hkk := hle i9 hi10
    refine cd_sq ?_
    refine ap_copy rfl rfl ?_
    refine at_cd ?_
    refine cd_sq ?_
    refine ap_idx (ez := 20) rfl Try.underlying114 tipub_kmsg_DeleteTopicsResponseTopic.size hi10 rfl rfl ?_
    refine at_cd ?_
    have hy := RE_part hy
    have hyr : RC t gg (oo + i9 * 20) _ := hyr
    generalize hyy : (els (y.at_ 1))[i9] = ye11 at *
    obtain ⟨fc12, mv12, hce12, hfl12, hTg12⟩ := hy
    simp only [F_sDeleteTopicsResponseTopic, RMl] at hfl12
    obtain ⟨x12_0, z12_0, e12_0, g12_0, x12_1, z12_1, e12_1, g12_1, x12_2, z12_2, e12_2, g12_2, x12_3, z12_3, e12_3, g12_3, hend12⟩ := hfl12
    obtain ⟨d12_0, rfl, Gg12_0⟩ := (RMf_txt (by decide)).1 g12_0
    have hq12_1 := RMf_uuid.1 g12_1
    obtain ⟨u12_1_0, u12_1_1, u12_1_2, u12_1_3, u12_1_4, u12_1_5, u12_1_6, u12_1_7, u12_1_8, u12_1_9, u12_1_10, u12_1_11, u12_1_12, u12_1_13, u12_1_14, u12_1_15, hu12_1⟩ := uuid16 (ye11.at_ 1).s
    rw [hu12_1] at hq12_1
    subst hq12_1
    obtain rfl := RMf_i16.1 g12_2
    obtain ⟨d12_3, rfl, Gg12_3⟩ := (RMf_txt (by decide)).1 g12_3
    subst hend12
    subst e12_3
    subst e12_2
    subst e12_1
    subst e12_0
    rw [hce12] at hyr
    simp only [List.cons_append, List.nil_append, List.append_assoc] at hyr
    obtain ⟨hfl, hfu13⟩ := (show okP F_sDeleteTopicsResponseTopic v q ye11 from hkk)
    obtain ⟨k14, hfl⟩ := okFl_cons hfl
    obtain ⟨k15, hfl⟩ := okFl_cons hfl
    obtain ⟨k16, hfl⟩ := okFl_cons hfl
    obtain ⟨k17, hfl⟩ := okFl_cons hfl
    have hE := vt_open (by decide) hfu13 hE
    have hyr18 := hyr
    refine cd_sq ?_
    have hE := pl_all (by decide) (hasB_all hv0) hE
    have hkk := okV_get k14 (by decide) (hasB_all hv0)
    refine cd_sq ?_
    refine ap_load (off := 0) rfl Try.underlying202 rfl tiPt_string.size rfl Try.underlying69 rfl (hyr18.mv h0 (by simp)) rfl rfl ?_
    refine at_cd ?_
    refine ap_lssK rfl rfl hE (fun u vd Lc ht20 hE => ?_) (fun hvl kk => ?_) (fun hvg kk => ?_)
    rotate_left
    · skip
      have hz : (ye11.at_ 0).z = false := by
        cases hz : (ye11.at_ 0).z
        · rfl
        · exact absurd ((okV_s (by decide) (by decide) hkk (.inl rfl)).2 hz).2 (by omega)
      refine cd_sq ?_
      refine ap_const rfl ?_
      refine at_sub (.skip rfl .rfl') ?_
      refine at_cd ?_
      refine cd_sq ?_
      refine ap_deref rfl (Gg12_0.mv h0) hz Try.underlying69 Try.underlying9 rfl ?_
      refine at_cd ?_
      refine cd_sq ?_
      refine ap_copy rfl rfl ?_
      refine at_cd ?_
      refine ap_flex rfl en_162 en_163 rfl rfl rfl rfl (fun hq u hu => by subst hq; rw [fieldB_sv (by decide) (by decide) (by omega)]; exact as_cstr u _ (okV_s (by decide) (by decide) hkk (.inl rfl)).1) (fun hq u hu => by subst hq; rw [fieldB_sv (by decide) (by decide) (by omega)]; exact as_str u _ (okV_s (by decide) (by decide) hkk (.inl rfl)).1) hE hB (fun u vd Lc ht22 hE => ?_)
      have h0 := h0.trans ht22
      refine at_sub (.cons (.skip rfl (.cons (.cons (.cons (.cons (.cons (.cons (.cons (.cons (.cons (.cons .rfl')))))))))))) ?_
      exact at_sub (.cons (.skip rfl (.cons (.cons (.cons (.cons (.cons (.cons (.cons (.cons (.cons .rfl'))))))))))) (kk _ _ _ ht22 hE)
    · skip
      refine ap_flex rfl en_151 en_152 rfl rfl rfl rfl (fun hq u hu => by subst hq; rw [fieldB_sz (by decide) (by decide) (by decide) (by omega)]; exact as_ctxt u _ _ (Gg12_0.mv (h0.trans hu)) (okV_s (by decide) (by decide) hkk (.inl rfl)).1) (fun hq u hu => by subst hq; rw [fieldB_sz (by decide) (by decide) (by decide) (by omega)]; exact as_txt u _ _ (Gg12_0.mv (h0.trans hu)) (okV_s (by decide) (by decide) hkk (.inl rfl)).1) hE hB (fun u vd Lc ht23 hE => ?_)
      have h0 := h0.trans ht23
      exact at_sub (.cons (.cons (.cons (.cons (.cons (.cons (.cons (.cons (.cons (.cons .rfl')))))))))) (kk _ _ _ ht23 hE)
    have h0 := h0.trans ht20
    refine at_sub (.cons (.skip rfl (.cons (.cons (.cons (.cons (.cons (.cons (.cons (.cons .rfl')))))))))) ?_
    refine at_cd ?_
    refine cd_sq ?_
    have hE := pl_if (by decide) (hasB_from) hE
    refine ap_if rfl rfl hE (fun u vd Lc ht24 hE => ?_) (fun hva hE kk => ?_)
    rotate_left
    · skip
      have hkk := okV_get k15 (by decide) (by rw [hasB_from]; exact decide_eq_true hva)
      refine ap_uuid (off := 1) (vs := [u12_1_0, u12_1_1, u12_1_2, u12_1_3, u12_1_4, u12_1_5, u12_1_6, u12_1_7, u12_1_8, u12_1_9, u12_1_10, u12_1_11, u12_1_12, u12_1_13, u12_1_14, u12_1_15]) rfl Try.underlying202 rfl ti_16_uint8.size rfl Try.underlying139 rfl ti_16_uint8 (zl := List.replicate 16 (.int .u8 0)) rfl rfl (hyr18.mv h0 (by simp)) rfl rfl (by rw [← hu12_1]; exact u8s_one _) en_141 rfl (fun u hu => by have h := as_uuid u (ye11.at_ 1) false q; rw [hu12_1] at h; rw [fieldB_s0 (by decide) (by decide) (by decide)]; exact h) hE hB (fun u vd Lc ht25 hE => ?_)
      have h0 := h0.trans ht25
      exact at_sub (.cons (.cons (.cons (.cons (.cons (.cons (.cons (.cons (.cons .rfl'))))))))) (kk _ _ _ ht25 hE)
    have h0 := h0.trans ht24
    refine at_cd ?_
    refine cd_sq ?_
    have hE := pl_all (by decide) (hasB_all hv0) hE
    have hkk := okV_get k16 (by decide) (hasB_all hv0)
    refine cd_sq ?_
    refine ap_load (off := 17) rfl Try.underlying202 rfl tiint16.size rfl Try.underlying49 rfl (hyr18.mv h0 (by simp)) rfl rfl ?_
    refine at_cd ?_
    refine ap_call en_137 rfl rfl (fun u hu => by rw [fieldB_s0 (by decide) (by decide) (by decide)]; exact as_i16 u _ _ _) hE hB (fun u vd Lc ht26 hE => ?_)
    have h0 := h0.trans ht26
    refine at_sub (.cons (.skip rfl (.cons (.cons (.cons (.cons (.cons (.cons (.cons (.cons .rfl')))))))))) ?_
    refine at_cd ?_
    refine cd_sq ?_
    have hE := pl_if (by decide) (hasB_from) hE
    refine ap_if rfl rfl hE (fun u vd Lc ht27 hE => ?_) (fun hva hE kk => ?_)
    rotate_left
    · skip
      have hkk := okV_get k17 (by decide) (by rw [hasB_from]; exact decide_eq_true hva)
      refine cd_sq ?_
      refine ap_load (off := 18) rfl Try.underlying202 rfl tiPt_string.size rfl Try.underlying69 rfl (hyr18.mv h0 (by simp)) rfl rfl ?_
      refine at_cd ?_
      refine ap_flex rfl en_151 en_152 rfl rfl rfl rfl (fun hq u hu => by subst hq; rw [fieldB_sz (by decide) (by decide) (by decide) (by omega)]; exact as_ctxt u _ _ (Gg12_3.mv (h0.trans hu)) (okV_s (by decide) (by decide) hkk (.inl rfl)).1) (fun hq u hu => by subst hq; rw [fieldB_sz (by decide) (by decide) (by decide) (by omega)]; exact as_txt u _ _ (Gg12_3.mv (h0.trans hu)) (okV_s (by decide) (by decide) hkk (.inl rfl)).1) hE hB (fun u vd Lc ht28 hE => ?_)
      have h0 := h0.trans ht28
      refine at_sub (.cons (.skip rfl (.cons (.cons (.cons (.cons (.cons (.cons (.cons (.cons .rfl')))))))))) ?_
      exact at_sub (.cons (.cons (.cons (.cons (.cons (.cons (.cons (.cons (.cons .rfl'))))))))) (kk _ _ _ ht28 hE)
    have h0 := h0.trans ht27
    refine at_cd ?_
    have hE := pl_nil hE
    refine ap_tags (off := 19) rfl rfl Try.underlying202 rfl tipub_kmsg_Tags.size rfl (hyr18.mv h0 (by simp)) rfl (hTg12.mv h0) (fun h => (hfu13 h).2) rfl rfl rfl hE hB (fun u vd Lc ht29 hE => ?_)
    have h0 := h0.trans ht29
    exact at_sub (.cons (.skip rfl (.skip rfl (.cons (.cons (.cons (.cons (.cons (.cons .rfl'))))))))) (kb _ _ _ ((((ht20.trans ht24).trans ht26).trans ht27).trans ht29) hE)
  have hE := ls_end hE
  have h0 := h0.trans ht7
  refine at_sub (.cons (.skip rfl (.cons (.cons (.cons .rfl'))))) ?_
  refine at_cd ?_
  have hE := pl_nil hE
  refine cd_sq ?_
  refine ap_tags (off := 3) rfl rfl Try.underlying116 rfl tipub_kmsg_Tags.size rfl (hrc.mv h0 (by simp)) rfl (hTg1.mv h0) (fun h => (hfu h).2) rfl rfl rfl hE hB (fun u vd Lc ht30 hE => ?_)
  have h0 := h0.trans ht30
  refine at_cd ?_
  have hE : Lc = Full := by simpa using hE
  subst hE
  refine cd_rowone (i := 0) rfl (fun hone => ?_)
  refine cd_sr ?_
  refine ln_pv (pv_move rfl) rfl ?_
  refine ln_pv (pv_assign rfl) rfl ?_
  refine ln_cd ?_
  refine cd_ret ?_
  exact at_retT (i := 0) rfl rfl rfl (fun w hS => ⟨rfl, hone⟩)
end K
end Go.Proofs.Ytmknncmdbmnmgaa
