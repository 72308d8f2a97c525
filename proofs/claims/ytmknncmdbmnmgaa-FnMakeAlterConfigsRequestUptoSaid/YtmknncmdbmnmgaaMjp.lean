import Derived.Test.YtmknncmdbmnmgaaA4
import Derived.Test.YtmknncmdbmnmgaaMjs
set_option linter.unusedVariables false
set_option linter.unusedSimpArgs false
namespace Go.Proofs.Ytmknncmdbmnmgaa
namespace K
open Go Go.Lib
theorem append_AlterConfigsRequest (t : Vw) (b : Nat) (v : Int) (y : Tre) (cells : List Value) (vd : Value) (L0 : List UInt8) (hrc : RC t b 0 (.int .i16 v :: cells)) (hM : RMp t F_AlterConfigsRequest y cells) (hfit : okP F_AlterConfigsRequest v (flexB 2 v) y) (h0 : 0 ≤ v) (h1 : v ≤ 2) (hB : (L0 ++ partB F_AlterConfigsRequest v (flexB 2 v) y).length ≤ 4398046511104) (hok : (OctRow vd L0).ok t.w) (hav : ∀ q ∈ (OctRow vd L0).blk, t.av q) : CT Try.prog 119 [.pointer (some ⟨b, 0, none⟩), vd] t (OctRow vd L0) fun _ r e' => e' = OctRow r (L0 ++ partB F_AlterConfigsRequest v (flexB 2 v) y) ∧ r.oneCell' = true := by
  have hv0 := h0
  clear h0
  obtain ⟨fc1, mv1, hce1, hfl1, hTg1⟩ := hM
  simp only [F_AlterConfigsRequest, RMl] at hfl1
  obtain ⟨x1_0, z1_0, e1_0, g1_0, x1_1, z1_1, e1_1, g1_1, hend1⟩ := hfl1
  obtain ⟨_, rfl, Gg1_0⟩ := RMf_list.1 g1_0
  obtain ⟨ad1_0, cap1_0, rfl, hnil1_0, Hg1_0⟩ := Gg1_0.els
  obtain rfl := RMf_b.1 g1_1
  subst hend1
  subst e1_1
  subst e1_0
  rw [hce1] at hrc
  simp only [List.cons_append, List.nil_append] at hrc
  obtain ⟨hfl, hfu⟩ := hfit
  obtain ⟨k2, hfl⟩ := okFl_cons hfl
  obtain ⟨k3, hfl⟩ := okFl_cons hfl
  have hq0 : decide (v ≥ 2) = flexB 2 v := by simp [flexB]
  obtain ⟨Full, hFull⟩ : ∃ F : List UInt8, L0 ++ partB F_AlterConfigsRequest v (flexB 2 v) y = F := ⟨_, rfl⟩
  rw [hFull] at hB ⊢
  have hE : L0 ++ (partB F_AlterConfigsRequest v (flexB 2 v) y ++ []) = Full := by rw [List.append_nil]; exact hFull
  clear hFull
  generalize flexB 2 v = q at *
  have hE := pt_open (by decide) hfu hE
  refine ct_enter Try.func119 rfl Try.ntmps119 rfl hok hav (by simp only [Ent.blk]; cases vd.ownBlock <;> simp) ?_
  generalize L0 = Lc at *
  have h0 : Tr t t := Tr.refl t
  refine cd_sub_ (L' := [(1, vd), (0, .pointer (some ⟨b, 0, none⟩))]) (.put rfl (.put rfl .nil)) ?_
  refine cd_sq ?_
  refine ap_const rfl ?_
  refine at_sub (.skip rfl .rfl') ?_
  refine at_cd ?_
  refine cd_sq ?_
  refine ap_load0 rfl Try.underlying122 rfl tiint16.size rfl Try.underlying49 rfl (hrc.mv h0 (by simp)) rfl rfl ?_
  refine at_sub (.swap rfl) ?_
  refine at_cd ?_
  refine cd_sq ?_
  refine ap_blank rfl rfl ?_
  refine at_cd ?_
  refine cd_sq ?_
  refine ap_geqF rfl hq0 rfl ?_
  refine at_sub (.swap rfl) ?_
  refine at_cd ?_
  refine cd_sq ?_
  refine ap_blank rfl rfl ?_
  refine at_cd ?_
  refine cd_sq ?_
  have hE := pl_all (by decide) (hasB_all hv0) hE
  have hkk := okV_get k2 (by decide) (hasB_all hv0)
  refine cd_sq ?_
  refine ap_load (off := 1) rfl Try.underlying122 rfl tiSl_kmsg_AlterConfigsRequestResource.size rfl Try.underlying120 rfl (hrc.mv h0 (by simp)) rfl rfl ?_
  refine at_cd ?_
  obtain ⟨hll, hlz, hle⟩ := okV_l hkk
  have hE := ls_open (by decide) hll hlz hE
  have hel := els_len hll
  refine cd_sq ?_
  refine ap_flexL (T' := 0) rfl en_139 en_140 Try.underlying120 rfl rfl rfl rfl (fun hq u hu => by subst hq; exact al_c u _ hel) (fun hq u hu => by subst hq; exact al_n u _ hel) hE hB (fun u vd Lc ht4 hE => ?_)
  have h0 := h0.trans ht4
  refine at_cd ?_
  refine ap_range (Tl := fun i => ((els (y.at_ 0)).drop i).flatMap (valueB 10 F_sAlterConfigsRequestResource false v q)) Try.underlying120 rfl (by omega) rfl hE (fun i7 u vd Lc N' X' hi8 hu6 hE kb => ?_) (fun u vd Lc ht5 hE => ?_)
  · skip
    have h0 := h0.trans hu6
    have hE := ls_step hi8 hE
    rcases Hg1_0 with hm0 | ⟨gg, oo, lc, rfl, hgc, hgl, hge⟩
    · omega
    have hy := hge i7 hi8
    have hyr := seg_rc hgc hgl hi8
    have hkk := hle i7 hi8
    refine cd_sq ?_
    refine ap_copy rfl rfl ?_
    refine at_cd ?_
    refine cd_sq ?_
    refine ap_idx (ez := 4) rfl Try.underlying120 tipub_kmsg_AlterConfigsRequestResource.size hi8 rfl rfl ?_
    refine at_cd ?_
    have hy := RE_part hy
    have hyr : RC t gg (oo + i7 * 4) _ := hyr
    generalize hyy : (els (y.at_ 0))[i7] = ye9 at *
    obtain ⟨fc10, mv10, hce10, hfl10, hTg10⟩ := hy
    simp only [F_sAlterConfigsRequestResource, RMl] at hfl10
    obtain ⟨x10_0, z10_0, e10_0, g10_0, x10_1, z10_1, e10_1, g10_1, x10_2, z10_2, e10_2, g10_2, hend10⟩ := hfl10
    obtain rfl := RMf_i8.1 g10_0
    obtain rfl := (RMf_str (by decide)).1 g10_1
    obtain ⟨_, rfl, Gg10_2⟩ := RMf_list.1 g10_2
    obtain ⟨ad10_2, cap10_2, rfl, hnil10_2, Hg10_2⟩ := Gg10_2.els
    subst hend10
    subst e10_2
    subst e10_1
    subst e10_0
    rw [hce10] at hyr
    simp only [List.cons_append, List.nil_append] at hyr
    obtain ⟨hfl, hfu11⟩ := (show okP F_sAlterConfigsRequestResource v q ye9 from hkk)
    obtain ⟨k12, hfl⟩ := okFl_cons hfl
    obtain ⟨k13, hfl⟩ := okFl_cons hfl
    obtain ⟨k14, hfl⟩ := okFl_cons hfl
    have hE := vt_open (by decide) hfu11 hE
    have hyr15 := hyr
    refine cd_sq ?_
    have hE := pl_all (by decide) (hasB_all hv0) hE
    have hkk := okV_get k12 (by decide) (hasB_all hv0)
    refine cd_sq ?_
    refine ap_load (off := 0) rfl Try.underlying207 rfl tipub_kmsg_ConfigResourceType.size rfl Try.underlying179 rfl (hyr15.mv h0 (by simp)) rfl rfl ?_
    refine at_cd ?_
    refine cd_sq ?_
    refine ap_copy rfl rfl ?_
    refine at_cd ?_
    refine ap_call en_165 rfl rfl (fun u hu => by rw [fieldB_s0 (by decide) (by decide) (by decide)]; exact as_i8 u _ _ _) hE hB (fun u vd Lc ht17 hE => ?_)
    have h0 := h0.trans ht17
    refine at_sub (.cons (.skip rfl (.cons (.cons (.cons (.cons (.cons (.cons (.cons (.cons (.cons .rfl'))))))))))) ?_
    refine at_sub (.cons (.skip rfl (.cons (.cons (.cons (.cons (.cons (.cons (.cons (.cons .rfl')))))))))) ?_
    refine at_cd ?_
    refine cd_sq ?_
    have hE := pl_all (by decide) (hasB_all hv0) hE
    have hkk := okV_get k13 (by decide) (hasB_all hv0)
    refine cd_sq ?_
    refine ap_load (off := 1) rfl Try.underlying207 rfl tistring.size rfl Try.underlying9 rfl (hyr15.mv h0 (by simp)) rfl rfl ?_
    refine at_cd ?_
    refine ap_flex rfl en_162 en_163 rfl rfl rfl rfl (fun hq u hu => by subst hq; rw [fieldB_s0 (by decide) (by decide) (by decide)]; exact as_cstr u _ (okV_s (by decide) (by decide) hkk (.inl rfl)).1) (fun hq u hu => by subst hq; rw [fieldB_s0 (by decide) (by decide) (by decide)]; exact as_str u _ (okV_s (by decide) (by decide) hkk (.inl rfl)).1) hE hB (fun u vd Lc ht18 hE => ?_)
    have h0 := h0.trans ht18
    refine at_sub (.cons (.skip rfl (.cons (.cons (.cons (.cons (.cons (.cons (.cons (.cons .rfl')))))))))) ?_
    refine at_cd ?_
    refine cd_sq ?_
    have hE := pl_all (by decide) (hasB_all hv0) hE
    have hkk := okV_get k14 (by decide) (hasB_all hv0)
    refine cd_sq ?_
    refine ap_load (off := 2) rfl Try.underlying207 rfl tiSl_kmsg_AlterConfigsRequestResourceConfig.size rfl Try.underlying205 rfl (hyr15.mv h0 (by simp)) rfl rfl ?_
    refine at_cd ?_
    obtain ⟨hll, hlz, hle⟩ := okV_l hkk
    have hE := ls_open (by decide) hll hlz hE
    have hel := els_len hll
    refine cd_sq ?_
    refine ap_flexL (T' := 0) rfl en_139 en_140 Try.underlying205 rfl rfl rfl rfl (fun hq u hu => by subst hq; exact al_c u _ hel) (fun hq u hu => by subst hq; exact al_n u _ hel) hE hB (fun u vd Lc ht19 hE => ?_)
    have h0 := h0.trans ht19
    refine at_cd ?_
    refine ap_range (Tl := fun i => ((els (ye9.at_ 2)).drop i).flatMap (valueB 10 F_sAlterConfigsRequestResourceConfig false v q)) Try.underlying205 rfl (by omega) rfl hE (fun i22 u vd Lc N' X' hi23 hu21 hE kb => ?_) (fun u vd Lc ht20 hE => ?_)
    · skip
      have h0 := h0.trans hu21
      have hE := ls_step hi23 hE
      rcases Hg10_2 with hm0 | ⟨gg, oo, lc, rfl, hgc, hgl, hge⟩
      · omega
      have hy := hge i22 hi23
      have hyr := seg_rc hgc hgl hi23
      have hkk := hle i22 hi23
      refine cd_sq ?_
      refine ap_copy rfl rfl ?_
      refine at_cd ?_
      refine cd_sq ?_
      refine ap_idx (ez := 3) rfl Try.underlying205 tipub_kmsg_AlterConfigsRequestResourceConfig.size hi23 rfl rfl ?_
      refine at_cd ?_
      have hy := RE_part hy
      have hyr : RC t gg (oo + i22 * 3) _ := hyr
      generalize hyy : (els (ye9.at_ 2))[i22] = ye24 at *
      obtain ⟨fc25, mv25, hce25, hfl25, hTg25⟩ := hy
      simp only [F_sAlterConfigsRequestResourceConfig, RMl] at hfl25
      obtain ⟨x25_0, z25_0, e25_0, g25_0, x25_1, z25_1, e25_1, g25_1, hend25⟩ := hfl25
      obtain rfl := (RMf_str (by decide)).1 g25_0
      obtain ⟨d25_1, rfl, Gg25_1⟩ := (RMf_txt (by decide)).1 g25_1
      subst hend25
      subst e25_1
      subst e25_0
      rw [hce25] at hyr
      simp only [List.cons_append, List.nil_append] at hyr
      obtain ⟨hfl, hfu26⟩ := (show okP F_sAlterConfigsRequestResourceConfig v q ye24 from hkk)
      obtain ⟨k27, hfl⟩ := okFl_cons hfl
      obtain ⟨k28, hfl⟩ := okFl_cons hfl
      have hE := vt_open (by decide) hfu26 hE
      have hyr29 := hyr
      refine cd_sq ?_
      have hE := pl_all (by decide) (hasB_all hv0) hE
      have hkk := okV_get k27 (by decide) (hasB_all hv0)
      refine cd_sq ?_
      refine ap_load (off := 0) rfl Try.underlying212 rfl tistring.size rfl Try.underlying9 rfl (hyr29.mv h0 (by simp)) rfl rfl ?_
      refine at_cd ?_
      refine ap_flex rfl en_162 en_163 rfl rfl rfl rfl (fun hq u hu => by subst hq; rw [fieldB_s0 (by decide) (by decide) (by decide)]; exact as_cstr u _ (okV_s (by decide) (by decide) hkk (.inl rfl)).1) (fun hq u hu => by subst hq; rw [fieldB_s0 (by decide) (by decide) (by decide)]; exact as_str u _ (okV_s (by decide) (by decide) hkk (.inl rfl)).1) hE hB (fun u vd Lc ht30 hE => ?_)
      have h0 := h0.trans ht30
      refine at_sub (.cons (.skip rfl (.cons (.cons (.cons (.cons (.cons (.cons (.cons (.cons (.cons (.cons (.cons (.cons (.cons .rfl'))))))))))))))) ?_
      refine at_cd ?_
      refine cd_sq ?_
      have hE := pl_all (by decide) (hasB_all hv0) hE
      have hkk := okV_get k28 (by decide) (hasB_all hv0)
      refine cd_sq ?_
      refine ap_load (off := 1) rfl Try.underlying212 rfl tiPt_string.size rfl Try.underlying69 rfl (hyr29.mv h0 (by simp)) rfl rfl ?_
      refine at_cd ?_
      refine ap_flex rfl en_151 en_152 rfl rfl rfl rfl (fun hq u hu => by subst hq; rw [fieldB_sz (by decide) (by decide) (by decide) (by omega)]; exact as_ctxt u _ _ (Gg25_1.mv (h0.trans hu)) (okV_s (by decide) (by decide) hkk (.inl rfl)).1) (fun hq u hu => by subst hq; rw [fieldB_sz (by decide) (by decide) (by decide) (by omega)]; exact as_txt u _ _ (Gg25_1.mv (h0.trans hu)) (okV_s (by decide) (by decide) hkk (.inl rfl)).1) hE hB (fun u vd Lc ht31 hE => ?_)
      have h0 := h0.trans ht31
      refine at_sub (.cons (.skip rfl (.cons (.cons (.cons (.cons (.cons (.cons (.cons (.cons (.cons (.cons (.cons (.cons (.cons .rfl'))))))))))))))) ?_
      refine at_cd ?_
      have hE := pl_nil hE
      refine ap_tags (off := 2) rfl rfl Try.underlying212 rfl tipub_kmsg_Tags.size rfl (hyr29.mv h0 (by simp)) rfl (hTg25.mv h0) (fun h => (hfu26 h).2) rfl rfl rfl hE hB (fun u vd Lc ht32 hE => ?_)
      have h0 := h0.trans ht32
      exact at_sub (.cons (.skip rfl (.skip rfl (.cons (.cons (.cons (.cons (.cons (.cons (.cons (.cons (.cons (.cons (.cons .rfl')))))))))))))) (kb _ _ _ ((ht30.trans ht31).trans ht32) hE)
    have hE := ls_end hE
    have h0 := h0.trans ht20
    refine at_sub (.cons (.skip rfl (.cons (.cons (.cons (.cons (.cons (.cons (.cons (.cons .rfl')))))))))) ?_
    refine at_cd ?_
    have hE := pl_nil hE
    refine ap_tags (off := 3) rfl rfl Try.underlying207 rfl tipub_kmsg_Tags.size rfl (hyr15.mv h0 (by simp)) rfl (hTg10.mv h0) (fun h => (hfu11 h).2) rfl rfl rfl hE hB (fun u vd Lc ht33 hE => ?_)
    have h0 := h0.trans ht33
    exact at_sub (.cons (.skip rfl (.skip rfl (.cons (.cons (.cons (.cons (.cons (.cons .rfl'))))))))) (kb _ _ _ ((((ht17.trans ht18).trans ht19).trans ht20).trans ht33) hE)
  have hE := ls_end hE
  have h0 := h0.trans ht5
  refine at_sub (.cons (.skip rfl (.cons (.cons (.cons .rfl'))))) ?_
  refine at_cd ?_
  refine cd_sq ?_
  have hE := pl_all (by decide) (hasB_all hv0) hE
  have hkk := okV_get k3 (by decide) (hasB_all hv0)
  refine cd_sq ?_
  refine ap_load (off := 2) rfl Try.underlying122 rfl tibool.size rfl Try.underlying4 rfl (hrc.mv h0 (by simp)) rfl rfl ?_
  refine at_cd ?_
  refine ap_call en_164 rfl rfl (fun u hu => by rw [fieldB_s0 (by decide) (by decide) (by decide)]; exact as_b u _ _ _) hE hB (fun u vd Lc ht34 hE => ?_)
  have h0 := h0.trans ht34
  refine at_sub (.cons (.skip rfl (.cons (.cons (.cons .rfl'))))) ?_
  refine at_cd ?_
  have hE := pl_nil hE
  refine cd_sq ?_
  refine ap_tags (off := 3) rfl rfl Try.underlying122 rfl tipub_kmsg_Tags.size rfl (hrc.mv h0 (by simp)) rfl (hTg1.mv h0) (fun h => (hfu h).2) rfl rfl rfl hE hB (fun u vd Lc ht35 hE => ?_)
  have h0 := h0.trans ht35
  refine at_cd ?_
  have hE : Lc = Full := by simpa using hE
  subst hE
  refine cd_rowone (i := 0) rfl (fun hone => ?_)
  refine cd_sr ?_
  refine ln_pv (pv_move rfl) rfl ?_
  refine ln_pv (pv_assign rfl) rfl ?_
  refine ln_cd ?_
  refine cd_ret ?_
  exact at_retT (i := 0) rfl rfl rfl (fun w hS => ⟨rfl, hone⟩)
end K
end Go.Proofs.Ytmknncmdbmnmgaa
