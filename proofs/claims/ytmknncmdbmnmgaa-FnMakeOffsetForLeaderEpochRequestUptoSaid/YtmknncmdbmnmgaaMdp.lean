import Derived.Test.YtmknncmdbmnmgaaA5
import Derived.Test.YtmknncmdbmnmgaaMds
set_option linter.unusedVariables false
set_option linter.unusedSimpArgs false
namespace Go.Proofs.Ytmknncmdbmnmgaa
namespace K
open Go Go.Lib
theorem append_OffsetForLeaderEpochRequest (t : Vw) (b : Nat) (v : Int) (y : Tre) (cells : List Value) (vd : Value) (L0 : List UInt8) (hrc : RC t b 0 (.int .i16 v :: cells)) (hM : RMp t F_OffsetForLeaderEpochRequest y cells) (hfit : okP F_OffsetForLeaderEpochRequest v (flexB 4 v) y) (h0 : 0 ≤ v) (h1 : v ≤ 4) (hB : (L0 ++ partB F_OffsetForLeaderEpochRequest v (flexB 4 v) y).length ≤ 4398046511104) (hok : (OctRow vd L0).ok t.w) (hav : ∀ q ∈ (OctRow vd L0).blk, t.av q) : CT Try.prog 83 [.pointer (some ⟨b, 0, none⟩), vd] t (OctRow vd L0) fun _ r e' => e' = OctRow r (L0 ++ partB F_OffsetForLeaderEpochRequest v (flexB 4 v) y) ∧ r.oneCell' = true := by
  have hv0 := h0
  clear h0
  obtain ⟨fc1, mv1, hce1, hfl1, hTg1⟩ := hM
  simp only [F_OffsetForLeaderEpochRequest, RMl] at hfl1
  obtain ⟨x1_0, z1_0, e1_0, g1_0, x1_1, z1_1, e1_1, g1_1, hend1⟩ := hfl1
  obtain rfl := RMf_i32.1 g1_0
  obtain ⟨_, rfl, Gg1_1⟩ := RMf_list.1 g1_1
  obtain ⟨ad1_1, cap1_1, rfl, hnil1_1, Hg1_1⟩ := Gg1_1.els
  subst hend1
  subst e1_1
  subst e1_0
  rw [hce1] at hrc
  simp only [List.cons_append, List.nil_append, List.append_assoc] at hrc
  obtain ⟨hfl, hfu⟩ := hfit
  obtain ⟨k2, hfl⟩ := okFl_cons hfl
  obtain ⟨k3, hfl⟩ := okFl_cons hfl
  have hq0 : decide (v ≥ 4) = flexB 4 v := by simp [flexB]
  obtain ⟨Full, hFull⟩ : ∃ F : List UInt8, L0 ++ partB F_OffsetForLeaderEpochRequest v (flexB 4 v) y = F := ⟨_, rfl⟩
  rw [hFull] at hB ⊢
  have hE : L0 ++ (partB F_OffsetForLeaderEpochRequest v (flexB 4 v) y ++ []) = Full := by rw [List.append_nil]; exact hFull
  clear hFull
  generalize flexB 4 v = q at *
  have hE := pt_open (by decide) hfu hE
  refine ct_enter Try.func83 rfl Try.ntmps83 rfl hok hav (by simp only [Ent.blk]; cases vd.ownBlock <;> simp) ?_
  generalize L0 = Lc at *
  have h0 : Tr t t := Tr.refl t
  refine cd_sub_ (L' := [(1, vd), (0, .pointer (some ⟨b, 0, none⟩))]) (.put rfl (.put rfl .nil)) ?_
  refine cd_sq ?_
  refine ap_const rfl ?_
  refine at_sub (.skip rfl .rfl') ?_
  refine at_cd ?_
  refine cd_sq ?_
  refine ap_load0 rfl Try.underlying85 rfl tiint16.size rfl Try.underlying49 rfl (hrc.mv h0 (by simp)) rfl rfl ?_
  refine at_sub (.swap rfl) ?_
  refine at_cd ?_
  refine cd_sq ?_
  refine ap_blank rfl rfl ?_
  refine at_cd ?_
  refine cd_sq ?_
  refine ap_geqF rfl hq0 rfl ?_
  refine at_sub (.swap rfl) ?_
  refine at_cd ?_
  refine cd_sq ?_
  refine ap_blank rfl rfl ?_
  refine at_cd ?_
  refine cd_sq ?_
  have hE := pl_if (by decide) (hasB_from) hE
  refine ap_if rfl rfl hE (fun u vd Lc ht4 hE => ?_) (fun hva hE kk => ?_)
  rotate_left
  · skip
    have hkk := okV_get k2 (by decide) (by rw [hasB_from]; exact decide_eq_true hva)
    refine cd_sq ?_
    refine ap_load (off := 1) rfl Try.underlying85 rfl tiint32.size rfl Try.underlying21 rfl (hrc.mv h0 (by simp)) rfl rfl ?_
    refine at_cd ?_
    refine ap_call en_138 rfl rfl (fun u hu => by rw [fieldB_s0 (by decide) (by decide) (by decide)]; exact as_i32 u _ _ _) hE hB (fun u vd Lc ht5 hE => ?_)
    have h0 := h0.trans ht5
    refine at_sub (.cons (.skip rfl (.cons (.cons (.cons .rfl'))))) ?_
    exact at_sub (.cons (.cons (.cons (.cons .rfl')))) (kk _ _ _ ht5 hE)
  have h0 := h0.trans ht4
  refine at_cd ?_
  refine cd_sq ?_
  have hE := pl_all (by decide) (hasB_all hv0) hE
  have hkk := okV_get k3 (by decide) (hasB_all hv0)
  refine cd_sq ?_
  refine ap_load (off := 2) rfl Try.underlying85 rfl tiSl_kmsg_OffsetForLeaderEpochRequestTopic.size rfl Try.underlying83 rfl (hrc.mv h0 (by simp)) rfl rfl ?_
  refine at_cd ?_
  obtain ⟨hll, hlz, hle⟩ := okV_l hkk
  have hE := ls_open (by decide) hll hlz hE
  have hel := els_len hll
  refine cd_sq ?_
  refine ap_flexL (T' := 0) rfl en_139 en_140 Try.underlying83 rfl rfl rfl rfl (fun hq u hu => by subst hq; exact al_c u _ hel) (fun hq u hu => by subst hq; exact al_n u _ hel) hE hB (fun u vd Lc ht6 hE => ?_)
  have h0 := h0.trans ht6
  refine at_cd ?_
  refine ap_range (Tl := fun i => ((els (y.at_ 1)).drop i).flatMap (valueB 10 F_sOffsetForLeaderEpochRequestTopic false v q)) Try.underlying83 rfl (by omega) rfl hE (fun i9 u vd Lc N' X' hi10 hu8 hE kb => ?_) (fun u vd Lc ht7 hE => ?_)
  · skip
    have h0 := h0.trans hu8
    have hE := ls_step hi10 hE
    rcases Hg1_1 with hm0 | ⟨gg, oo, lc, rfl, hgc, hgl, hge⟩
    · omega
    have hy := hge i9 hi10
    have hyr := seg_rc hgc hgl hi10
    have hkk := hle i9 hi10
    refine cd_sq ?_
    refine ap_copy rfl rfl ?_
    refine at_cd ?_
    refine cd_sq ?_
    refine ap_idx (ez := 3) rfl Try.underlying83 tipub_kmsg_OffsetForLeaderEpochRequestTopic.size hi10 rfl rfl ?_
    refine at_cd ?_
    have hy := RE_part hy
    have hyr : RC t gg (oo + i9 * 3) _ := hyr
    generalize hyy : (els (y.at_ 1))[i9] = ye11 at *
    obtain ⟨fc12, mv12, hce12, hfl12, hTg12⟩ := hy
    simp only [F_sOffsetForLeaderEpochRequestTopic, RMl] at hfl12
    obtain ⟨x12_0, z12_0, e12_0, g12_0, x12_1, z12_1, e12_1, g12_1, hend12⟩ := hfl12
    obtain rfl := (RMf_str (by decide)).1 g12_0
    obtain ⟨_, rfl, Gg12_1⟩ := RMf_list.1 g12_1
    obtain ⟨ad12_1, cap12_1, rfl, hnil12_1, Hg12_1⟩ := Gg12_1.els
    subst hend12
    subst e12_1
    subst e12_0
    rw [hce12] at hyr
    simp only [List.cons_append, List.nil_append, List.append_assoc] at hyr
    obtain ⟨hfl, hfu13⟩ := (show okP F_sOffsetForLeaderEpochRequestTopic v q ye11 from hkk)
    obtain ⟨k14, hfl⟩ := okFl_cons hfl
    obtain ⟨k15, hfl⟩ := okFl_cons hfl
    have hE := vt_open (by decide) hfu13 hE
    have hyr16 := hyr
    refine cd_sq ?_
    have hE := pl_all (by decide) (hasB_all hv0) hE
    have hkk := okV_get k14 (by decide) (hasB_all hv0)
    refine cd_sq ?_
    refine ap_load (off := 0) rfl Try.underlying173 rfl tistring.size rfl Try.underlying9 rfl (hyr16.mv h0 (by simp)) rfl rfl ?_
    refine at_cd ?_
    refine ap_flex rfl en_162 en_163 rfl rfl rfl rfl (fun hq u hu => by subst hq; rw [fieldB_s0 (by decide) (by decide) (by decide)]; exact as_cstr u _ (okV_s (by decide) (by decide) hkk (.inl rfl)).1) (fun hq u hu => by subst hq; rw [fieldB_s0 (by decide) (by decide) (by decide)]; exact as_str u _ (okV_s (by decide) (by decide) hkk (.inl rfl)).1) hE hB (fun u vd Lc ht17 hE => ?_)
    have h0 := h0.trans ht17
    refine at_sub (.cons (.skip rfl (.cons (.cons (.cons (.cons (.cons (.cons (.cons (.cons .rfl')))))))))) ?_
    refine at_cd ?_
    refine cd_sq ?_
    have hE := pl_all (by decide) (hasB_all hv0) hE
    have hkk := okV_get k15 (by decide) (hasB_all hv0)
    refine cd_sq ?_
    refine ap_load (off := 1) rfl Try.underlying173 rfl tiSl_kmsg_OffsetForLeaderEpochRequestTopicPartition.size rfl Try.underlying171 rfl (hyr16.mv h0 (by simp)) rfl rfl ?_
    refine at_cd ?_
    obtain ⟨hll, hlz, hle⟩ := okV_l hkk
    have hE := ls_open (by decide) hll hlz hE
    have hel := els_len hll
    refine cd_sq ?_
    refine ap_flexL (T' := 0) rfl en_139 en_140 Try.underlying171 rfl rfl rfl rfl (fun hq u hu => by subst hq; exact al_c u _ hel) (fun hq u hu => by subst hq; exact al_n u _ hel) hE hB (fun u vd Lc ht18 hE => ?_)
    have h0 := h0.trans ht18
    refine at_cd ?_
    refine ap_range (Tl := fun i => ((els (ye11.at_ 1)).drop i).flatMap (valueB 10 F_sOffsetForLeaderEpochRequestTopicPartition false v q)) Try.underlying171 rfl (by omega) rfl hE (fun i21 u vd Lc N' X' hi22 hu20 hE kb => ?_) (fun u vd Lc ht19 hE => ?_)
    · skip
      have h0 := h0.trans hu20
      have hE := ls_step hi22 hE
      rcases Hg12_1 with hm0 | ⟨gg, oo, lc, rfl, hgc, hgl, hge⟩
      · omega
      have hy := hge i21 hi22
      have hyr := seg_rc hgc hgl hi22
      have hkk := hle i21 hi22
      refine cd_sq ?_
      refine ap_copy rfl rfl ?_
      refine at_cd ?_
      refine cd_sq ?_
      refine ap_idx (ez := 4) rfl Try.underlying171 tipub_kmsg_OffsetForLeaderEpochRequestTopicPartition.size hi22 rfl rfl ?_
      refine at_cd ?_
      have hy := RE_part hy
      have hyr : RC t gg (oo + i21 * 4) _ := hyr
      generalize hyy : (els (ye11.at_ 1))[i21] = ye23 at *
      obtain ⟨fc24, mv24, hce24, hfl24, hTg24⟩ := hy
      simp only [F_sOffsetForLeaderEpochRequestTopicPartition, RMl] at hfl24
      obtain ⟨x24_0, z24_0, e24_0, g24_0, x24_1, z24_1, e24_1, g24_1, x24_2, z24_2, e24_2, g24_2, hend24⟩ := hfl24
      obtain rfl := RMf_i32.1 g24_0
      obtain rfl := RMf_i32.1 g24_1
      obtain rfl := RMf_i32.1 g24_2
      subst hend24
      subst e24_2
      subst e24_1
      subst e24_0
      rw [hce24] at hyr
      simp only [List.cons_append, List.nil_append, List.append_assoc] at hyr
      obtain ⟨hfl, hfu25⟩ := (show okP F_sOffsetForLeaderEpochRequestTopicPartition v q ye23 from hkk)
      obtain ⟨k26, hfl⟩ := okFl_cons hfl
      obtain ⟨k27, hfl⟩ := okFl_cons hfl
      obtain ⟨k28, hfl⟩ := okFl_cons hfl
      have hE := vt_open (by decide) hfu25 hE
      have hyr29 := hyr
      refine cd_sq ?_
      have hE := pl_all (by decide) (hasB_all hv0) hE
      have hkk := okV_get k26 (by decide) (hasB_all hv0)
      refine cd_sq ?_
      refine ap_load (off := 0) rfl Try.underlying178 rfl tiint32.size rfl Try.underlying21 rfl (hyr29.mv h0 (by simp)) rfl rfl ?_
      refine at_cd ?_
      refine ap_call en_138 rfl rfl (fun u hu => by rw [fieldB_s0 (by decide) (by decide) (by decide)]; exact as_i32 u _ _ _) hE hB (fun u vd Lc ht30 hE => ?_)
      have h0 := h0.trans ht30
      refine at_sub (.cons (.skip rfl (.cons (.cons (.cons (.cons (.cons (.cons (.cons (.cons (.cons (.cons (.cons (.cons (.cons .rfl'))))))))))))))) ?_
      refine at_cd ?_
      refine cd_sq ?_
      have hE := pl_if (by decide) (hasB_from) hE
      refine ap_if rfl rfl hE (fun u vd Lc ht31 hE => ?_) (fun hva hE kk => ?_)
      rotate_left
      · skip
        have hkk := okV_get k27 (by decide) (by rw [hasB_from]; exact decide_eq_true hva)
        refine cd_sq ?_
        refine ap_load (off := 1) rfl Try.underlying178 rfl tiint32.size rfl Try.underlying21 rfl (hyr29.mv h0 (by simp)) rfl rfl ?_
        refine at_cd ?_
        refine ap_call en_138 rfl rfl (fun u hu => by rw [fieldB_s0 (by decide) (by decide) (by decide)]; exact as_i32 u _ _ _) hE hB (fun u vd Lc ht32 hE => ?_)
        have h0 := h0.trans ht32
        refine at_sub (.cons (.skip rfl (.cons (.cons (.cons (.cons (.cons (.cons (.cons (.cons (.cons (.cons (.cons (.cons (.cons .rfl'))))))))))))))) ?_
        exact at_sub (.cons (.cons (.cons (.cons (.cons (.cons (.cons (.cons (.cons (.cons (.cons (.cons (.cons (.cons .rfl')))))))))))))) (kk _ _ _ ht32 hE)
      have h0 := h0.trans ht31
      refine at_cd ?_
      refine cd_sq ?_
      have hE := pl_all (by decide) (hasB_all hv0) hE
      have hkk := okV_get k28 (by decide) (hasB_all hv0)
      refine cd_sq ?_
      refine ap_load (off := 2) rfl Try.underlying178 rfl tiint32.size rfl Try.underlying21 rfl (hyr29.mv h0 (by simp)) rfl rfl ?_
      refine at_cd ?_
      refine ap_call en_138 rfl rfl (fun u hu => by rw [fieldB_s0 (by decide) (by decide) (by decide)]; exact as_i32 u _ _ _) hE hB (fun u vd Lc ht33 hE => ?_)
      have h0 := h0.trans ht33
      refine at_sub (.cons (.skip rfl (.cons (.cons (.cons (.cons (.cons (.cons (.cons (.cons (.cons (.cons (.cons (.cons (.cons .rfl'))))))))))))))) ?_
      refine at_cd ?_
      have hE := pl_nil hE
      refine ap_tags (off := 3) rfl rfl Try.underlying178 rfl tipub_kmsg_Tags.size rfl (hyr29.mv h0 (by simp)) rfl (hTg24.mv h0) (fun h => (hfu25 h).2) rfl rfl rfl hE hB (fun u vd Lc ht34 hE => ?_)
      have h0 := h0.trans ht34
      exact at_sub (.cons (.skip rfl (.skip rfl (.cons (.cons (.cons (.cons (.cons (.cons (.cons (.cons (.cons (.cons (.cons .rfl')))))))))))))) (kb _ _ _ (((ht30.trans ht31).trans ht33).trans ht34) hE)
    have hE := ls_end hE
    have h0 := h0.trans ht19
    refine at_sub (.cons (.skip rfl (.cons (.cons (.cons (.cons (.cons (.cons (.cons (.cons .rfl')))))))))) ?_
    refine at_cd ?_
    have hE := pl_nil hE
    refine ap_tags (off := 2) rfl rfl Try.underlying173 rfl tipub_kmsg_Tags.size rfl (hyr16.mv h0 (by simp)) rfl (hTg12.mv h0) (fun h => (hfu13 h).2) rfl rfl rfl hE hB (fun u vd Lc ht35 hE => ?_)
    have h0 := h0.trans ht35
    exact at_sub (.cons (.skip rfl (.skip rfl (.cons (.cons (.cons (.cons (.cons (.cons .rfl'))))))))) (kb _ _ _ (((ht17.trans ht18).trans ht19).trans ht35) hE)
  have hE := ls_end hE
  have h0 := h0.trans ht7
  refine at_sub (.cons (.skip rfl (.cons (.cons (.cons .rfl'))))) ?_
  refine at_cd ?_
  have hE := pl_nil hE
  refine cd_sq ?_
  refine ap_tags (off := 3) rfl rfl Try.underlying85 rfl tipub_kmsg_Tags.size rfl (hrc.mv h0 (by simp)) rfl (hTg1.mv h0) (fun h => (hfu h).2) rfl rfl rfl hE hB (fun u vd Lc ht36 hE => ?_)
  have h0 := h0.trans ht36
  refine at_cd ?_
  have hE : Lc = Full := by simpa using hE
  subst hE
  refine cd_rowone (i := 0) rfl (fun hone => ?_)
  refine cd_sr ?_
  refine ln_pv (pv_move rfl) rfl ?_
  refine ln_pv (pv_assign rfl) rfl ?_
  refine ln_cd ?_
  refine cd_ret ?_
  exact at_retT (i := 0) rfl rfl rfl (fun w hS => ⟨rfl, hone⟩)
end K
end Go.Proofs.Ytmknncmdbmnmgaa
