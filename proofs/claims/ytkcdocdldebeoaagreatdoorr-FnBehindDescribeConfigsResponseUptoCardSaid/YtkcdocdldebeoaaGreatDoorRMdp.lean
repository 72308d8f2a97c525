import Derived.Test.YtkcdocdldebeoaaGreatDoorRA8
import Derived.Test.YtkcdocdldebeoaaGreatDoorRMds
set_option linter.unusedVariables false
set_option linter.unusedSimpArgs false
namespace Go.Proofs.YtkcdocdldebeoaaGreatDoorR
namespace K
open Go Go.Lib
theorem append_DescribeConfigsResponse (t : Vw) (b : Nat) (v : Int) (y : Tre) (cells : List Value) (vd : Value) (L0 : List UInt8) (hrc : RC t b 0 (.int .i16 v :: cells)) (hM : RMp t F_DescribeConfigsResponse y cells) (hfit : okP F_DescribeConfigsResponse v (flexB 4 v) y) (h0 : 0 ≤ v) (h1 : v ≤ 4) (hB : (L0 ++ partB F_DescribeConfigsResponse v (flexB 4 v) y).length ≤ 4398046511104) (hok : (OctRow vd L0).ok t.w) (hav : ∀ q ∈ (OctRow vd L0).blk, t.av q) : CT Tryz.prog 94 [.pointer (some ⟨b, 0, none⟩), vd] t (OctRow vd L0) fun _ r e' => e' = OctRow r (L0 ++ partB F_DescribeConfigsResponse v (flexB 4 v) y) ∧ r.oneCell' = true := by
  have hv0 := h0
  clear h0
  obtain ⟨fc1, mv1, hce1, hfl1, hTg1⟩ := hM
  simp only [F_DescribeConfigsResponse, RMl] at hfl1
  obtain ⟨x1_0, z1_0, e1_0, g1_0, x1_1, z1_1, e1_1, g1_1, hend1⟩ := hfl1
  obtain rfl := RMf_i32.1 g1_0
  obtain ⟨_, rfl, Gg1_1⟩ := RMf_list.1 g1_1
  obtain ⟨ad1_1, cap1_1, rfl, hnil1_1, Hg1_1⟩ := Gg1_1.els
  subst hend1
  subst e1_1
  subst e1_0
  rw [hce1] at hrc
  simp only [List.cons_append, List.nil_append, List.append_assoc] at hrc
  obtain ⟨hfl, hfu⟩ := hfit
  obtain ⟨k2, hfl⟩ := okFl_cons hfl
  obtain ⟨k3, hfl⟩ := okFl_cons hfl
  have hq0 : decide (v ≥ 4) = flexB 4 v := by simp [flexB]
  obtain ⟨Full, hFull⟩ : ∃ F : List UInt8, L0 ++ partB F_DescribeConfigsResponse v (flexB 4 v) y = F := ⟨_, rfl⟩
  rw [hFull] at hB ⊢
  have hE : L0 ++ (partB F_DescribeConfigsResponse v (flexB 4 v) y ++ []) = Full := by rw [List.append_nil]; exact hFull
  clear hFull
  generalize flexB 4 v = q at *
  have hE := pt_open (by decide) hfu hE
  refine ct_enter Tryz.func94 rfl Tryz.ntmps94 rfl hok hav (by simp only [Ent.blk]; cases vd.ownBlock <;> simp) ?_
  generalize L0 = Lc at *
  have h0 : Tr t t := Tr.refl t
  refine cd_sub_ (L' := [(1, vd), (0, .pointer (some ⟨b, 0, none⟩))]) (.put rfl (.put rfl .nil)) ?_
  refine cd_sq ?_
  refine ap_const rfl ?_
  refine at_sub (.skip rfl .rfl') ?_
  refine at_cd ?_
  refine cd_sq ?_
  refine ap_load0 rfl Tryz.underlying181 rfl tiint16.size rfl Tryz.underlying49 rfl (hrc.mv h0 (by simp)) rfl rfl ?_
  refine at_sub (.swap rfl) ?_
  refine at_cd ?_
  refine cd_sq ?_
  refine ap_blank rfl rfl ?_
  refine at_cd ?_
  refine cd_sq ?_
  refine ap_geqF rfl hq0 rfl ?_
  refine at_sub (.swap rfl) ?_
  refine at_cd ?_
  refine cd_sq ?_
  refine ap_blank rfl rfl ?_
  refine at_cd ?_
  refine cd_sq ?_
  have hE := pl_all (by decide) (hasB_all hv0) hE
  have hkk := okV_get k2 (by decide) (hasB_all hv0)
  refine cd_sq ?_
  refine ap_load (off := 1) rfl Tryz.underlying181 rfl tiint32.size rfl Tryz.underlying21 rfl (hrc.mv h0 (by simp)) rfl rfl ?_
  refine at_cd ?_
  refine ap_call en_105 rfl rfl (fun u hu => by rw [fieldB_s0 (by decide) (by decide) (by decide)]; exact as_i32 u _ _ _) hE hB (fun u vd Lc ht4 hE => ?_)
  have h0 := h0.trans ht4
  refine at_sub (.cons (.skip rfl (.cons (.cons (.cons .rfl'))))) ?_
  refine at_cd ?_
  refine cd_sq ?_
  have hE := pl_all (by decide) (hasB_all hv0) hE
  have hkk := okV_get k3 (by decide) (hasB_all hv0)
  refine cd_sq ?_
  refine ap_load (off := 2) rfl Tryz.underlying181 rfl tiSl_kmsg_DescribeConfigsResponseResource.size rfl Tryz.underlying179 rfl (hrc.mv h0 (by simp)) rfl rfl ?_
  refine at_cd ?_
  obtain ⟨hll, hlz, hle⟩ := okV_l hkk
  have hE := ls_open (by decide) hll hlz hE
  have hel := els_len hll
  refine cd_sq ?_
  refine ap_flexL (T' := 0) rfl en_124 en_125 Tryz.underlying179 rfl rfl rfl rfl (fun hq u hu => by subst hq; exact al_c u _ hel) (fun hq u hu => by subst hq; exact al_n u _ hel) hE hB (fun u vd Lc ht5 hE => ?_)
  have h0 := h0.trans ht5
  refine at_cd ?_
  refine ap_range (Tl := fun i => ((els (y.at_ 1)).drop i).flatMap (valueB 10 F_sDescribeConfigsResponseResource false v q)) Tryz.underlying179 rfl (by omega) rfl hE (fun i8 u vd Lc N' X' hi9 hu7 hE kb => ?_) (fun u vd Lc ht6 hE => ?_)
  · skip
    have h0 := h0.trans hu7
    have hE := ls_step hi9 hE
    rcases Hg1_1 with hm0 | ⟨gg, oo, lc, rfl, hgc, hgl, hge⟩
    · omega
    have hy := hge i8 hi9
    have hyr := seg_rc hgc hgl hi9
    have hkk := hle i8 hi9
    refine cd_sq ?_
    refine ap_copy rfl rfl ?_
    refine at_cd ?_
    refine cd_sq ?_
    refine ap_idx (ez := 6) rfl Tryz.underlying179 tipub_kmsg_DescribeConfigsResponseResource.size hi9 rfl rfl ?_
    refine at_cd ?_
    have hy := RE_part hy
    have hyr : RC t gg (oo + i8 * 6) _ := hyr
    generalize hyy : (els (y.at_ 1))[i8] = ye10 at *
    obtain ⟨fc11, mv11, hce11, hfl11, hTg11⟩ := hy
    simp only [F_sDescribeConfigsResponseResource, RMl] at hfl11
    obtain ⟨x11_0, z11_0, e11_0, g11_0, x11_1, z11_1, e11_1, g11_1, x11_2, z11_2, e11_2, g11_2, x11_3, z11_3, e11_3, g11_3, x11_4, z11_4, e11_4, g11_4, hend11⟩ := hfl11
    obtain rfl := RMf_i16.1 g11_0
    obtain ⟨d11_1, rfl, Gg11_1⟩ := (RMf_txt (by decide)).1 g11_1
    obtain rfl := RMf_i8.1 g11_2
    obtain rfl := (RMf_str (by decide)).1 g11_3
    obtain ⟨_, rfl, Gg11_4⟩ := RMf_list.1 g11_4
    obtain ⟨ad11_4, cap11_4, rfl, hnil11_4, Hg11_4⟩ := Gg11_4.els
    subst hend11
    subst e11_4
    subst e11_3
    subst e11_2
    subst e11_1
    subst e11_0
    rw [hce11] at hyr
    simp only [List.cons_append, List.nil_append, List.append_assoc] at hyr
    obtain ⟨hfl, hfu12⟩ := (show okP F_sDescribeConfigsResponseResource v q ye10 from hkk)
    obtain ⟨k13, hfl⟩ := okFl_cons hfl
    obtain ⟨k14, hfl⟩ := okFl_cons hfl
    obtain ⟨k15, hfl⟩ := okFl_cons hfl
    obtain ⟨k16, hfl⟩ := okFl_cons hfl
    obtain ⟨k17, hfl⟩ := okFl_cons hfl
    have hE := vt_open (by decide) hfu12 hE
    have hyr18 := hyr
    refine cd_sq ?_
    have hE := pl_all (by decide) (hasB_all hv0) hE
    have hkk := okV_get k13 (by decide) (hasB_all hv0)
    refine cd_sq ?_
    refine ap_load (off := 0) rfl Tryz.underlying186 rfl tiint16.size rfl Tryz.underlying49 rfl (hyr18.mv h0 (by simp)) rfl rfl ?_
    refine at_cd ?_
    refine ap_call en_106 rfl rfl (fun u hu => by rw [fieldB_s0 (by decide) (by decide) (by decide)]; exact as_i16 u _ _ _) hE hB (fun u vd Lc ht19 hE => ?_)
    have h0 := h0.trans ht19
    refine at_sub (.cons (.skip rfl (.cons (.cons (.cons (.cons (.cons (.cons (.cons (.cons .rfl')))))))))) ?_
    refine at_cd ?_
    refine cd_sq ?_
    have hE := pl_all (by decide) (hasB_all hv0) hE
    have hkk := okV_get k14 (by decide) (hasB_all hv0)
    refine cd_sq ?_
    refine ap_load (off := 1) rfl Tryz.underlying186 rfl tiPt_string.size rfl Tryz.underlying107 rfl (hyr18.mv h0 (by simp)) rfl rfl ?_
    refine at_cd ?_
    refine ap_flex rfl en_126 en_127 rfl rfl rfl rfl (fun hq u hu => by subst hq; rw [fieldB_sz (by decide) (by decide) (by decide) (by omega)]; exact as_ctxt u _ _ (Gg11_1.mv (h0.trans hu)) (okV_s (by decide) (by decide) hkk (.inl rfl)).1) (fun hq u hu => by subst hq; rw [fieldB_sz (by decide) (by decide) (by decide) (by omega)]; exact as_txt u _ _ (Gg11_1.mv (h0.trans hu)) (okV_s (by decide) (by decide) hkk (.inl rfl)).1) hE hB (fun u vd Lc ht20 hE => ?_)
    have h0 := h0.trans ht20
    refine at_sub (.cons (.skip rfl (.cons (.cons (.cons (.cons (.cons (.cons (.cons (.cons .rfl')))))))))) ?_
    refine at_cd ?_
    refine cd_sq ?_
    have hE := pl_all (by decide) (hasB_all hv0) hE
    have hkk := okV_get k15 (by decide) (hasB_all hv0)
    refine cd_sq ?_
    refine ap_load (off := 2) rfl Tryz.underlying186 rfl tipub_kmsg_ConfigResourceType.size rfl Tryz.underlying183 rfl (hyr18.mv h0 (by simp)) rfl rfl ?_
    refine at_cd ?_
    refine cd_sq ?_
    refine ap_copy rfl rfl ?_
    refine at_cd ?_
    refine ap_call en_142 rfl rfl (fun u hu => by rw [fieldB_s0 (by decide) (by decide) (by decide)]; exact as_i8 u _ _ _) hE hB (fun u vd Lc ht22 hE => ?_)
    have h0 := h0.trans ht22
    refine at_sub (.cons (.skip rfl (.cons (.cons (.cons (.cons (.cons (.cons (.cons (.cons (.cons .rfl'))))))))))) ?_
    refine at_sub (.cons (.skip rfl (.cons (.cons (.cons (.cons (.cons (.cons (.cons (.cons .rfl')))))))))) ?_
    refine at_cd ?_
    refine cd_sq ?_
    have hE := pl_all (by decide) (hasB_all hv0) hE
    have hkk := okV_get k16 (by decide) (hasB_all hv0)
    refine cd_sq ?_
    refine ap_load (off := 3) rfl Tryz.underlying186 rfl tistring.size rfl Tryz.underlying9 rfl (hyr18.mv h0 (by simp)) rfl rfl ?_
    refine at_cd ?_
    refine ap_flex rfl en_112 en_113 rfl rfl rfl rfl (fun hq u hu => by subst hq; rw [fieldB_s0 (by decide) (by decide) (by decide)]; exact as_cstr u _ (okV_s (by decide) (by decide) hkk (.inl rfl)).1) (fun hq u hu => by subst hq; rw [fieldB_s0 (by decide) (by decide) (by decide)]; exact as_str u _ (okV_s (by decide) (by decide) hkk (.inl rfl)).1) hE hB (fun u vd Lc ht23 hE => ?_)
    have h0 := h0.trans ht23
    refine at_sub (.cons (.skip rfl (.cons (.cons (.cons (.cons (.cons (.cons (.cons (.cons .rfl')))))))))) ?_
    refine at_cd ?_
    refine cd_sq ?_
    have hE := pl_all (by decide) (hasB_all hv0) hE
    have hkk := okV_get k17 (by decide) (hasB_all hv0)
    refine cd_sq ?_
    refine ap_load (off := 4) rfl Tryz.underlying186 rfl tiSl_kmsg_DescribeConfigsResponseResourceConfig.size rfl Tryz.underlying184 rfl (hyr18.mv h0 (by simp)) rfl rfl ?_
    refine at_cd ?_
    obtain ⟨hll, hlz, hle⟩ := okV_l hkk
    have hE := ls_open (by decide) hll hlz hE
    have hel := els_len hll
    refine cd_sq ?_
    refine ap_flexL (T' := 0) rfl en_124 en_125 Tryz.underlying184 rfl rfl rfl rfl (fun hq u hu => by subst hq; exact al_c u _ hel) (fun hq u hu => by subst hq; exact al_n u _ hel) hE hB (fun u vd Lc ht24 hE => ?_)
    have h0 := h0.trans ht24
    refine at_cd ?_
    refine ap_range (Tl := fun i => ((els (ye10.at_ 4)).drop i).flatMap (valueB 10 F_sDescribeConfigsResponseResourceConfig false v q)) Tryz.underlying184 rfl (by omega) rfl hE (fun i27 u vd Lc N' X' hi28 hu26 hE kb => ?_) (fun u vd Lc ht25 hE => ?_)
    · skip
      have h0 := h0.trans hu26
      have hE := ls_step hi28 hE
      rcases Hg11_4 with hm0 | ⟨gg, oo, lc, rfl, hgc, hgl, hge⟩
      · omega
      have hy := hge i27 hi28
      have hyr := seg_rc hgc hgl hi28
      have hkk := hle i27 hi28
      refine cd_sq ?_
      refine ap_copy rfl rfl ?_
      refine at_cd ?_
      refine cd_sq ?_
      refine ap_idx (ez := 10) rfl Tryz.underlying184 tipub_kmsg_DescribeConfigsResponseResourceConfig.size hi28 rfl rfl ?_
      refine at_cd ?_
      have hy := RE_part hy
      have hyr : RC t gg (oo + i27 * 10) _ := hyr
      generalize hyy : (els (ye10.at_ 4))[i27] = ye29 at *
      obtain ⟨fc30, mv30, hce30, hfl30, hTg30⟩ := hy
      simp only [F_sDescribeConfigsResponseResourceConfig, RMl] at hfl30
      obtain ⟨x30_0, z30_0, e30_0, g30_0, x30_1, z30_1, e30_1, g30_1, x30_2, z30_2, e30_2, g30_2, x30_3, z30_3, e30_3, g30_3, x30_4, z30_4, e30_4, g30_4, x30_5, z30_5, e30_5, g30_5, x30_6, z30_6, e30_6, g30_6, x30_7, z30_7, e30_7, g30_7, x30_8, z30_8, e30_8, g30_8, hend30⟩ := hfl30
      obtain rfl := (RMf_str (by decide)).1 g30_0
      obtain ⟨d30_1, rfl, Gg30_1⟩ := (RMf_txt (by decide)).1 g30_1
      obtain rfl := RMf_b.1 g30_2
      obtain rfl := RMf_b.1 g30_3
      obtain rfl := RMf_i8.1 g30_4
      obtain rfl := RMf_b.1 g30_5
      obtain ⟨_, rfl, Gg30_6⟩ := RMf_list.1 g30_6
      obtain ⟨ad30_6, cap30_6, rfl, hnil30_6, Hg30_6⟩ := Gg30_6.els
      obtain rfl := RMf_i8.1 g30_7
      obtain ⟨d30_8, rfl, Gg30_8⟩ := (RMf_txt (by decide)).1 g30_8
      subst hend30
      subst e30_8
      subst e30_7
      subst e30_6
      subst e30_5
      subst e30_4
      subst e30_3
      subst e30_2
      subst e30_1
      subst e30_0
      rw [hce30] at hyr
      simp only [List.cons_append, List.nil_append, List.append_assoc] at hyr
      obtain ⟨hfl, hfu31⟩ := (show okP F_sDescribeConfigsResponseResourceConfig v q ye29 from hkk)
      obtain ⟨k32, hfl⟩ := okFl_cons hfl
      obtain ⟨k33, hfl⟩ := okFl_cons hfl
      obtain ⟨k34, hfl⟩ := okFl_cons hfl
      obtain ⟨k35, hfl⟩ := okFl_cons hfl
      obtain ⟨k36, hfl⟩ := okFl_cons hfl
      obtain ⟨k37, hfl⟩ := okFl_cons hfl
      obtain ⟨k38, hfl⟩ := okFl_cons hfl
      obtain ⟨k39, hfl⟩ := okFl_cons hfl
      obtain ⟨k40, hfl⟩ := okFl_cons hfl
      have hE := vt_open (by decide) hfu31 hE
      have hyr41 := hyr
      refine cd_sq ?_
      have hE := pl_all (by decide) (hasB_all hv0) hE
      have hkk := okV_get k32 (by decide) (hasB_all hv0)
      refine cd_sq ?_
      refine ap_load (off := 0) rfl Tryz.underlying192 rfl tistring.size rfl Tryz.underlying9 rfl (hyr41.mv h0 (by simp)) rfl rfl ?_
      refine at_cd ?_
      refine ap_flex rfl en_112 en_113 rfl rfl rfl rfl (fun hq u hu => by subst hq; rw [fieldB_s0 (by decide) (by decide) (by decide)]; exact as_cstr u _ (okV_s (by decide) (by decide) hkk (.inl rfl)).1) (fun hq u hu => by subst hq; rw [fieldB_s0 (by decide) (by decide) (by decide)]; exact as_str u _ (okV_s (by decide) (by decide) hkk (.inl rfl)).1) hE hB (fun u vd Lc ht42 hE => ?_)
      have h0 := h0.trans ht42
      refine at_sub (.cons (.skip rfl (.cons (.cons (.cons (.cons (.cons (.cons (.cons (.cons (.cons (.cons (.cons (.cons (.cons .rfl'))))))))))))))) ?_
      refine at_cd ?_
      refine cd_sq ?_
      have hE := pl_all (by decide) (hasB_all hv0) hE
      have hkk := okV_get k33 (by decide) (hasB_all hv0)
      refine cd_sq ?_
      refine ap_load (off := 1) rfl Tryz.underlying192 rfl tiPt_string.size rfl Tryz.underlying107 rfl (hyr41.mv h0 (by simp)) rfl rfl ?_
      refine at_cd ?_
      refine ap_flex rfl en_126 en_127 rfl rfl rfl rfl (fun hq u hu => by subst hq; rw [fieldB_sz (by decide) (by decide) (by decide) (by omega)]; exact as_ctxt u _ _ (Gg30_1.mv (h0.trans hu)) (okV_s (by decide) (by decide) hkk (.inl rfl)).1) (fun hq u hu => by subst hq; rw [fieldB_sz (by decide) (by decide) (by decide) (by omega)]; exact as_txt u _ _ (Gg30_1.mv (h0.trans hu)) (okV_s (by decide) (by decide) hkk (.inl rfl)).1) hE hB (fun u vd Lc ht43 hE => ?_)
      have h0 := h0.trans ht43
      refine at_sub (.cons (.skip rfl (.cons (.cons (.cons (.cons (.cons (.cons (.cons (.cons (.cons (.cons (.cons (.cons (.cons .rfl'))))))))))))))) ?_
      refine at_cd ?_
      refine cd_sq ?_
      have hE := pl_all (by decide) (hasB_all hv0) hE
      have hkk := okV_get k34 (by decide) (hasB_all hv0)
      refine cd_sq ?_
      refine ap_load (off := 2) rfl Tryz.underlying192 rfl tibool.size rfl Tryz.underlying4 rfl (hyr41.mv h0 (by simp)) rfl rfl ?_
      refine at_cd ?_
      refine ap_call en_146 rfl rfl (fun u hu => by rw [fieldB_s0 (by decide) (by decide) (by decide)]; exact as_b u _ _ _) hE hB (fun u vd Lc ht44 hE => ?_)
      have h0 := h0.trans ht44
      refine at_sub (.cons (.skip rfl (.cons (.cons (.cons (.cons (.cons (.cons (.cons (.cons (.cons (.cons (.cons (.cons (.cons .rfl'))))))))))))))) ?_
      refine at_cd ?_
      refine cd_sq ?_
      have hE := pl_if (by decide) (hasB_to (by decide)) hE
      refine ap_if2 rfl rfl hE (fun u vd Lc ht45 hE => ?_) (fun hva hvb hE kk => ?_)
      rotate_left
      · skip
        have hkk := okV_get k35 (by decide) (by rw [hasB_to (by decide)]; exact decide_eq_true ⟨hva, hvb⟩)
        refine cd_sq ?_
        refine ap_load (off := 3) rfl Tryz.underlying192 rfl tibool.size rfl Tryz.underlying4 rfl (hyr41.mv h0 (by simp)) rfl rfl ?_
        refine at_cd ?_
        refine ap_call en_146 rfl rfl (fun u hu => by rw [fieldB_s0 (by decide) (by decide) (by decide)]; exact as_b u _ _ _) hE hB (fun u vd Lc ht46 hE => ?_)
        have h0 := h0.trans ht46
        refine at_sub (.cons (.skip rfl (.cons (.cons (.cons (.cons (.cons (.cons (.cons (.cons (.cons (.cons (.cons (.cons (.cons .rfl'))))))))))))))) ?_
        exact at_sub (.cons (.cons (.cons (.cons (.cons (.cons (.cons (.cons (.cons (.cons (.cons (.cons (.cons (.cons .rfl')))))))))))))) (kk _ _ _ ht46 hE)
      have h0 := h0.trans ht45
      refine at_cd ?_
      refine cd_sq ?_
      have hE := pl_if (by decide) (hasB_from) hE
      refine ap_if rfl rfl hE (fun u vd Lc ht47 hE => ?_) (fun hva hE kk => ?_)
      rotate_left
      · skip
        have hkk := okV_get k36 (by decide) (by rw [hasB_from]; exact decide_eq_true hva)
        refine cd_sq ?_
        refine ap_load (off := 4) rfl Tryz.underlying192 rfl tipub_kmsg_ConfigSource.size rfl Tryz.underlying188 rfl (hyr41.mv h0 (by simp)) rfl rfl ?_
        refine at_cd ?_
        refine cd_sq ?_
        refine ap_copy rfl rfl ?_
        refine at_cd ?_
        refine ap_call en_142 rfl rfl (fun u hu => by rw [fieldB_s0 (by decide) (by decide) (by decide)]; exact as_i8 u _ _ _) hE hB (fun u vd Lc ht49 hE => ?_)
        have h0 := h0.trans ht49
        refine at_sub (.cons (.skip rfl (.cons (.cons (.cons (.cons (.cons (.cons (.cons (.cons (.cons (.cons (.cons (.cons (.cons (.cons .rfl')))))))))))))))) ?_
        refine at_sub (.cons (.skip rfl (.cons (.cons (.cons (.cons (.cons (.cons (.cons (.cons (.cons (.cons (.cons (.cons (.cons .rfl'))))))))))))))) ?_
        exact at_sub (.cons (.cons (.cons (.cons (.cons (.cons (.cons (.cons (.cons (.cons (.cons (.cons (.cons (.cons .rfl')))))))))))))) (kk _ _ _ ht49 hE)
      have h0 := h0.trans ht47
      refine at_cd ?_
      refine cd_sq ?_
      have hE := pl_all (by decide) (hasB_all hv0) hE
      have hkk := okV_get k37 (by decide) (hasB_all hv0)
      refine cd_sq ?_
      refine ap_load (off := 5) rfl Tryz.underlying192 rfl tibool.size rfl Tryz.underlying4 rfl (hyr41.mv h0 (by simp)) rfl rfl ?_
      refine at_cd ?_
      refine ap_call en_146 rfl rfl (fun u hu => by rw [fieldB_s0 (by decide) (by decide) (by decide)]; exact as_b u _ _ _) hE hB (fun u vd Lc ht50 hE => ?_)
      have h0 := h0.trans ht50
      refine at_sub (.cons (.skip rfl (.cons (.cons (.cons (.cons (.cons (.cons (.cons (.cons (.cons (.cons (.cons (.cons (.cons .rfl'))))))))))))))) ?_
      refine at_cd ?_
      refine cd_sq ?_
      have hE := pl_if (by decide) (hasB_from) hE
      refine ap_if rfl rfl hE (fun u vd Lc ht51 hE => ?_) (fun hva hE kk => ?_)
      rotate_left
      · skip
        have hkk := okV_get k38 (by decide) (by rw [hasB_from]; exact decide_eq_true hva)
        refine cd_sq ?_
        refine ap_load (off := 6) rfl Tryz.underlying192 rfl tiSl_kmsg_DescribeConfigsResponseResourceConfigConfigSynonym.size rfl Tryz.underlying189 rfl (hyr41.mv h0 (by simp)) rfl rfl ?_
        refine at_cd ?_
        obtain ⟨hll, hlz, hle⟩ := okV_l hkk
        have hE := ls_open (by decide) hll hlz hE
        have hel := els_len hll
        refine cd_sq ?_
        refine ap_flexL (T' := 0) rfl en_124 en_125 Tryz.underlying189 rfl rfl rfl rfl (fun hq u hu => by subst hq; exact al_c u _ hel) (fun hq u hu => by subst hq; exact al_n u _ hel) hE hB (fun u vd Lc ht52 hE => ?_)
        have h0 := h0.trans ht52
        refine at_cd ?_
        refine ap_range (Tl := fun i => ((els (ye29.at_ 6)).drop i).flatMap (valueB 10 F_sDescribeConfigsResponseResourceConfigConfigSynonym false v q)) Tryz.underlying189 rfl (by omega) rfl hE (fun i55 u vd Lc N' X' hi56 hu54 hE kb => ?_) (fun u vd Lc ht53 hE => ?_)
        · skip
          have h0 := h0.trans hu54
          have hE := ls_step hi56 hE
          rcases Hg30_6 with hm0 | ⟨gg, oo, lc, rfl, hgc, hgl, hge⟩
          · omega
          have hy := hge i55 hi56
          have hyr := seg_rc hgc hgl hi56
          have hkk := hle i55 hi56
          refine cd_sq ?_
          refine ap_copy rfl rfl ?_
          refine at_cd ?_
          refine cd_sq ?_
          refine ap_idx (ez := 4) rfl Tryz.underlying189 tipub_kmsg_DescribeConfigsResponseResourceConfigConfigSynonym.size hi56 rfl rfl ?_
          refine at_cd ?_
          have hy := RE_part hy
          have hyr : RC t gg (oo + i55 * 4) _ := hyr
          generalize hyy : (els (ye29.at_ 6))[i55] = ye57 at *
          obtain ⟨fc58, mv58, hce58, hfl58, hTg58⟩ := hy
          simp only [F_sDescribeConfigsResponseResourceConfigConfigSynonym, RMl] at hfl58
          obtain ⟨x58_0, z58_0, e58_0, g58_0, x58_1, z58_1, e58_1, g58_1, x58_2, z58_2, e58_2, g58_2, hend58⟩ := hfl58
          obtain rfl := (RMf_str (by decide)).1 g58_0
          obtain ⟨d58_1, rfl, Gg58_1⟩ := (RMf_txt (by decide)).1 g58_1
          obtain rfl := RMf_i8.1 g58_2
          subst hend58
          subst e58_2
          subst e58_1
          subst e58_0
          rw [hce58] at hyr
          simp only [List.cons_append, List.nil_append, List.append_assoc] at hyr
          obtain ⟨hfl, hfu59⟩ := (show okP F_sDescribeConfigsResponseResourceConfigConfigSynonym v q ye57 from hkk)
          obtain ⟨k60, hfl⟩ := okFl_cons hfl
          obtain ⟨k61, hfl⟩ := okFl_cons hfl
          obtain ⟨k62, hfl⟩ := okFl_cons hfl
          have hE := vt_open (by decide) hfu59 hE
          have hyr63 := hyr
          refine cd_sq ?_
          have hE := pl_all (by decide) (hasB_all hv0) hE
          have hkk := okV_get k60 (by decide) (hasB_all hv0)
          refine cd_sq ?_
          refine ap_load (off := 0) rfl Tryz.underlying196 rfl tistring.size rfl Tryz.underlying9 rfl (hyr63.mv h0 (by simp)) rfl rfl ?_
          refine at_cd ?_
          refine ap_flex rfl en_112 en_113 rfl rfl rfl rfl (fun hq u hu => by subst hq; rw [fieldB_s0 (by decide) (by decide) (by decide)]; exact as_cstr u _ (okV_s (by decide) (by decide) hkk (.inl rfl)).1) (fun hq u hu => by subst hq; rw [fieldB_s0 (by decide) (by decide) (by decide)]; exact as_str u _ (okV_s (by decide) (by decide) hkk (.inl rfl)).1) hE hB (fun u vd Lc ht64 hE => ?_)
          have h0 := h0.trans ht64
          refine at_sub (.cons (.skip rfl (.cons (.cons (.cons (.cons (.cons (.cons (.cons (.cons (.cons (.cons (.cons (.cons (.cons (.cons (.cons (.cons (.cons (.cons .rfl')))))))))))))))))))) ?_
          refine at_cd ?_
          refine cd_sq ?_
          have hE := pl_all (by decide) (hasB_all hv0) hE
          have hkk := okV_get k61 (by decide) (hasB_all hv0)
          refine cd_sq ?_
          refine ap_load (off := 1) rfl Tryz.underlying196 rfl tiPt_string.size rfl Tryz.underlying107 rfl (hyr63.mv h0 (by simp)) rfl rfl ?_
          refine at_cd ?_
          refine ap_flex rfl en_126 en_127 rfl rfl rfl rfl (fun hq u hu => by subst hq; rw [fieldB_sz (by decide) (by decide) (by decide) (by omega)]; exact as_ctxt u _ _ (Gg58_1.mv (h0.trans hu)) (okV_s (by decide) (by decide) hkk (.inl rfl)).1) (fun hq u hu => by subst hq; rw [fieldB_sz (by decide) (by decide) (by decide) (by omega)]; exact as_txt u _ _ (Gg58_1.mv (h0.trans hu)) (okV_s (by decide) (by decide) hkk (.inl rfl)).1) hE hB (fun u vd Lc ht65 hE => ?_)
          have h0 := h0.trans ht65
          refine at_sub (.cons (.skip rfl (.cons (.cons (.cons (.cons (.cons (.cons (.cons (.cons (.cons (.cons (.cons (.cons (.cons (.cons (.cons (.cons (.cons (.cons .rfl')))))))))))))))))))) ?_
          refine at_cd ?_
          refine cd_sq ?_
          have hE := pl_all (by decide) (hasB_all hv0) hE
          have hkk := okV_get k62 (by decide) (hasB_all hv0)
          refine cd_sq ?_
          refine ap_load (off := 2) rfl Tryz.underlying196 rfl tipub_kmsg_ConfigSource.size rfl Tryz.underlying188 rfl (hyr63.mv h0 (by simp)) rfl rfl ?_
          refine at_cd ?_
          refine cd_sq ?_
          refine ap_copy rfl rfl ?_
          refine at_cd ?_
          refine ap_call en_142 rfl rfl (fun u hu => by rw [fieldB_s0 (by decide) (by decide) (by decide)]; exact as_i8 u _ _ _) hE hB (fun u vd Lc ht67 hE => ?_)
          have h0 := h0.trans ht67
          refine at_sub (.cons (.skip rfl (.cons (.cons (.cons (.cons (.cons (.cons (.cons (.cons (.cons (.cons (.cons (.cons (.cons (.cons (.cons (.cons (.cons (.cons (.cons .rfl'))))))))))))))))))))) ?_
          refine at_sub (.cons (.skip rfl (.cons (.cons (.cons (.cons (.cons (.cons (.cons (.cons (.cons (.cons (.cons (.cons (.cons (.cons (.cons (.cons (.cons (.cons .rfl')))))))))))))))))))) ?_
          refine at_cd ?_
          have hE := pl_nil hE
          refine ap_tags (off := 3) rfl rfl Tryz.underlying196 rfl tipub_kmsg_Tags.size rfl (hyr63.mv h0 (by simp)) rfl (hTg58.mv h0) (fun h => (hfu59 h).2) rfl rfl rfl hE hB (fun u vd Lc ht68 hE => ?_)
          have h0 := h0.trans ht68
          exact at_sub (.cons (.skip rfl (.skip rfl (.cons (.cons (.cons (.cons (.cons (.cons (.cons (.cons (.cons (.cons (.cons (.cons (.cons (.cons (.cons (.cons .rfl'))))))))))))))))))) (kb _ _ _ (((ht64.trans ht65).trans ht67).trans ht68) hE)
        have hE := ls_end hE
        have h0 := h0.trans ht53
        refine at_sub (.cons (.skip rfl (.cons (.cons (.cons (.cons (.cons (.cons (.cons (.cons (.cons (.cons (.cons (.cons (.cons .rfl'))))))))))))))) ?_
        exact at_sub (.cons (.cons (.cons (.cons (.cons (.cons (.cons (.cons (.cons (.cons (.cons (.cons (.cons (.cons .rfl')))))))))))))) (kk _ _ _ (ht52.trans ht53) hE)
      have h0 := h0.trans ht51
      refine at_cd ?_
      refine cd_sq ?_
      have hE := pl_if (by decide) (hasB_from) hE
      refine ap_if rfl rfl hE (fun u vd Lc ht69 hE => ?_) (fun hva hE kk => ?_)
      rotate_left
      · skip
        have hkk := okV_get k39 (by decide) (by rw [hasB_from]; exact decide_eq_true hva)
        refine cd_sq ?_
        refine ap_load (off := 7) rfl Tryz.underlying192 rfl tipub_kmsg_ConfigType.size rfl Tryz.underlying190 rfl (hyr41.mv h0 (by simp)) rfl rfl ?_
        refine at_cd ?_
        refine cd_sq ?_
        refine ap_copy rfl rfl ?_
        refine at_cd ?_
        refine ap_call en_142 rfl rfl (fun u hu => by rw [fieldB_s0 (by decide) (by decide) (by decide)]; exact as_i8 u _ _ _) hE hB (fun u vd Lc ht71 hE => ?_)
        have h0 := h0.trans ht71
        refine at_sub (.cons (.skip rfl (.cons (.cons (.cons (.cons (.cons (.cons (.cons (.cons (.cons (.cons (.cons (.cons (.cons (.cons .rfl')))))))))))))))) ?_
        refine at_sub (.cons (.skip rfl (.cons (.cons (.cons (.cons (.cons (.cons (.cons (.cons (.cons (.cons (.cons (.cons (.cons .rfl'))))))))))))))) ?_
        exact at_sub (.cons (.cons (.cons (.cons (.cons (.cons (.cons (.cons (.cons (.cons (.cons (.cons (.cons (.cons .rfl')))))))))))))) (kk _ _ _ ht71 hE)
      have h0 := h0.trans ht69
      refine at_cd ?_
      refine cd_sq ?_
      have hE := pl_if (by decide) (hasB_from) hE
      refine ap_if rfl rfl hE (fun u vd Lc ht72 hE => ?_) (fun hva hE kk => ?_)
      rotate_left
      · skip
        have hkk := okV_get k40 (by decide) (by rw [hasB_from]; exact decide_eq_true hva)
        refine cd_sq ?_
        refine ap_load (off := 8) rfl Tryz.underlying192 rfl tiPt_string.size rfl Tryz.underlying107 rfl (hyr41.mv h0 (by simp)) rfl rfl ?_
        refine at_cd ?_
        refine ap_flex rfl en_126 en_127 rfl rfl rfl rfl (fun hq u hu => by subst hq; rw [fieldB_sz (by decide) (by decide) (by decide) (by omega)]; exact as_ctxt u _ _ (Gg30_8.mv (h0.trans hu)) (okV_s (by decide) (by decide) hkk (.inl rfl)).1) (fun hq u hu => by subst hq; rw [fieldB_sz (by decide) (by decide) (by decide) (by omega)]; exact as_txt u _ _ (Gg30_8.mv (h0.trans hu)) (okV_s (by decide) (by decide) hkk (.inl rfl)).1) hE hB (fun u vd Lc ht73 hE => ?_)
        have h0 := h0.trans ht73
        refine at_sub (.cons (.skip rfl (.cons (.cons (.cons (.cons (.cons (.cons (.cons (.cons (.cons (.cons (.cons (.cons (.cons .rfl'))))))))))))))) ?_
        exact at_sub (.cons (.cons (.cons (.cons (.cons (.cons (.cons (.cons (.cons (.cons (.cons (.cons (.cons (.cons .rfl')))))))))))))) (kk _ _ _ ht73 hE)
      have h0 := h0.trans ht72
      refine at_cd ?_
      have hE := pl_nil hE
      refine ap_tags (off := 9) rfl rfl Tryz.underlying192 rfl tipub_kmsg_Tags.size rfl (hyr41.mv h0 (by simp)) rfl (hTg30.mv h0) (fun h => (hfu31 h).2) rfl rfl rfl hE hB (fun u vd Lc ht74 hE => ?_)
      have h0 := h0.trans ht74
      exact at_sub (.cons (.skip rfl (.skip rfl (.cons (.cons (.cons (.cons (.cons (.cons (.cons (.cons (.cons (.cons (.cons .rfl')))))))))))))) (kb _ _ _ (((((((((ht42.trans ht43).trans ht44).trans ht45).trans ht47).trans ht50).trans ht51).trans ht69).trans ht72).trans ht74) hE)
    have hE := ls_end hE
    have h0 := h0.trans ht25
    refine at_sub (.cons (.skip rfl (.cons (.cons (.cons (.cons (.cons (.cons (.cons (.cons .rfl')))))))))) ?_
    refine at_cd ?_
    have hE := pl_nil hE
    refine ap_tags (off := 5) rfl rfl Tryz.underlying186 rfl tipub_kmsg_Tags.size rfl (hyr18.mv h0 (by simp)) rfl (hTg11.mv h0) (fun h => (hfu12 h).2) rfl rfl rfl hE hB (fun u vd Lc ht75 hE => ?_)
    have h0 := h0.trans ht75
    exact at_sub (.cons (.skip rfl (.skip rfl (.cons (.cons (.cons (.cons (.cons (.cons .rfl'))))))))) (kb _ _ _ ((((((ht19.trans ht20).trans ht22).trans ht23).trans ht24).trans ht25).trans ht75) hE)
  have hE := ls_end hE
  have h0 := h0.trans ht6
  refine at_sub (.cons (.skip rfl (.cons (.cons (.cons .rfl'))))) ?_
  refine at_cd ?_
  have hE := pl_nil hE
  refine cd_sq ?_
  refine ap_tags (off := 3) rfl rfl Tryz.underlying181 rfl tipub_kmsg_Tags.size rfl (hrc.mv h0 (by simp)) rfl (hTg1.mv h0) (fun h => (hfu h).2) rfl rfl rfl hE hB (fun u vd Lc ht76 hE => ?_)
  have h0 := h0.trans ht76
  refine at_cd ?_
  have hE : Lc = Full := by simpa using hE
  subst hE
  refine cd_rowone (i := 0) rfl (fun hone => ?_)
  refine cd_sr ?_
  refine ln_pv (pv_move rfl) rfl ?_
  refine ln_pv (pv_assign rfl) rfl ?_
  refine ln_cd ?_
  refine cd_ret ?_
  exact at_retT (i := 0) rfl rfl rfl (fun w hS => ⟨rfl, hone⟩)
end K
end Go.Proofs.YtkcdocdldebeoaaGreatDoorR
