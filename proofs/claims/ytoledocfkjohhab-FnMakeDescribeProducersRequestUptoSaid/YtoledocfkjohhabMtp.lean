import Derived.Test.YtoledocfkjohhabA3
import Derived.Test.YtoledocfkjohhabMts
set_option linter.unusedVariables false
set_option linter.unusedSimpArgs false
namespace Go.Proofs.Ytoledocfkjohhab
namespace K
open Go Go.Lib
theorem append_DescribeProducersRequest (t : Vw) (b : Nat) (v : Int) (y : Tre) (cells : List Value) (vd : Value) (L0 : List UInt8) (hrc : RC t b 0 (.int .i16 v :: cells)) (hM : RMp t F_DescribeProducersRequest y cells) (hfit : okP F_DescribeProducersRequest v (flexB 0 v) y) (h0 : 0 ≤ v) (h1 : v ≤ 0) (hB : (L0 ++ partB F_DescribeProducersRequest v (flexB 0 v) y).length ≤ 4398046511104) (hok : (OctRow vd L0).ok t.w) (hav : ∀ q ∈ (OctRow vd L0).blk, t.av q) : CT Try.prog 34 [.pointer (some ⟨b, 0, none⟩), vd] t (OctRow vd L0) fun _ r e' => e' = OctRow r (L0 ++ partB F_DescribeProducersRequest v (flexB 0 v) y) ∧ r.oneCell' = true := by
  have hv0 := h0
  clear h0
  obtain ⟨fc1, mv1, hce1, hfl1, hTg1⟩ := hM
  simp only [F_DescribeProducersRequest, RMl] at hfl1
  obtain ⟨x1_0, z1_0, e1_0, g1_0, hend1⟩ := hfl1
  obtain ⟨_, rfl, Gg1_0⟩ := RMf_list.1 g1_0
  obtain ⟨ad1_0, cap1_0, rfl, hnil1_0, Hg1_0⟩ := Gg1_0.els
  subst hend1
  subst e1_0
  rw [hce1] at hrc
  simp only [List.cons_append, List.nil_append] at hrc
  obtain ⟨hfl, hfu⟩ := hfit
  obtain ⟨k2, hfl⟩ := okFl_cons hfl
  have hq0 : decide (v ≥ 0) = flexB 0 v := by simp [flexB]
  obtain ⟨Full, hFull⟩ : ∃ F : List UInt8, L0 ++ partB F_DescribeProducersRequest v (flexB 0 v) y = F := ⟨_, rfl⟩
  rw [hFull] at hB ⊢
  have hE : L0 ++ (partB F_DescribeProducersRequest v (flexB 0 v) y ++ []) = Full := by rw [List.append_nil]; exact hFull
  clear hFull
  generalize flexB 0 v = q at *
  have hE := pt_open (by decide) hfu hE
  refine ct_enter Try.func34 rfl Try.ntmps34 rfl hok hav (by simp only [Ent.blk]; cases vd.ownBlock <;> simp) ?_
  generalize L0 = Lc at *
  have h0 : Tr t t := Tr.refl t
  refine cd_sub_ (L' := [(1, vd), (0, .pointer (some ⟨b, 0, none⟩))]) (.put rfl (.put rfl .nil)) ?_
  refine cd_sq ?_
  refine ap_const rfl ?_
  refine at_sub (.skip rfl .rfl') ?_
  refine at_cd ?_
  refine cd_sq ?_
  refine ap_load0 rfl Try.underlying73 rfl tiint16.size rfl Try.underlying45 rfl (hrc.mv h0 (by simp)) rfl rfl ?_
  refine at_sub (.swap rfl) ?_
  refine at_cd ?_
  refine cd_sq ?_
  refine ap_blank rfl rfl ?_
  refine at_cd ?_
  refine cd_sq ?_
  refine ap_geqF rfl hq0 rfl ?_
  refine at_sub (.swap rfl) ?_
  refine at_cd ?_
  refine cd_sq ?_
  refine ap_blank rfl rfl ?_
  refine at_cd ?_
  refine cd_sq ?_
  have hE := pl_all (by decide) (hasB_all hv0) hE
  have hkk := okV_get k2 (by decide) (hasB_all hv0)
  refine cd_sq ?_
  refine ap_load (off := 1) rfl Try.underlying73 rfl tiSl_kmsg_DescribeProducersRequestTopic.size rfl Try.underlying71 rfl (hrc.mv h0 (by simp)) rfl rfl ?_
  refine at_cd ?_
  obtain ⟨hll, hlz, hle⟩ := okV_l hkk
  have hE := ls_open (by decide) hll hlz hE
  have hel := els_len hll
  refine cd_sq ?_
  refine ap_flexL (T' := 0) rfl en_41 en_42 Try.underlying71 rfl rfl rfl rfl (fun hq u hu => by subst hq; exact al_c u _ hel) (fun hq u hu => by subst hq; exact al_n u _ hel) hE hB (fun u vd Lc ht3 hE => ?_)
  have h0 := h0.trans ht3
  refine at_cd ?_
  refine ap_range (Tl := fun i => ((els (y.at_ 0)).drop i).flatMap (valueB 10 F_sDescribeProducersRequestTopic false v q)) Try.underlying71 rfl (by omega) rfl hE (fun i6 u vd Lc N' X' hi7 hu5 hE kb => ?_) (fun u vd Lc ht4 hE => ?_)
  · skip
    have h0 := h0.trans hu5
    have hE := ls_step hi7 hE
    rcases Hg1_0 with hm0 | ⟨gg, oo, lc, rfl, hgc, hgl, hge⟩
    · omega
    have hy := hge i6 hi7
    have hyr := seg_rc hgc hgl hi7
    have hkk := hle i6 hi7
    refine cd_sq ?_
    refine ap_copy rfl rfl ?_
    refine at_cd ?_
    refine cd_sq ?_
    refine ap_idx (ez := 3) rfl Try.underlying71 tipub_kmsg_DescribeProducersRequestTopic.size hi7 rfl rfl ?_
    refine at_cd ?_
    have hy := RE_part hy
    have hyr : RC t gg (oo + i6 * 3) _ := hyr
    generalize hyy : (els (y.at_ 0))[i6] = ye8 at *
    obtain ⟨fc9, mv9, hce9, hfl9, hTg9⟩ := hy
    simp only [F_sDescribeProducersRequestTopic, RMl] at hfl9
    obtain ⟨x9_0, z9_0, e9_0, g9_0, x9_1, z9_1, e9_1, g9_1, hend9⟩ := hfl9
    obtain rfl := (RMf_str (by decide)).1 g9_0
    obtain ⟨_, rfl, Gg9_1⟩ := RMf_list.1 g9_1
    obtain ⟨ad9_1, cap9_1, rfl, hnil9_1, Hg9_1⟩ := Gg9_1.els
    subst hend9
    subst e9_1
    subst e9_0
    rw [hce9] at hyr
    simp only [List.cons_append, List.nil_append] at hyr
    obtain ⟨hfl, hfu10⟩ := (show okP F_sDescribeProducersRequestTopic v q ye8 from hkk)
    obtain ⟨k11, hfl⟩ := okFl_cons hfl
    obtain ⟨k12, hfl⟩ := okFl_cons hfl
    have hE := vt_open (by decide) hfu10 hE
    have hyr13 := hyr
    refine cd_sq ?_
    have hE := pl_all (by decide) (hasB_all hv0) hE
    have hkk := okV_get k11 (by decide) (hasB_all hv0)
    refine cd_sq ?_
    refine ap_load (off := 0) rfl Try.underlying97 rfl tistring.size rfl Try.underlying9 rfl (hyr13.mv h0 (by simp)) rfl rfl ?_
    refine at_cd ?_
    refine ap_flex rfl en_43 en_44 rfl rfl rfl rfl (fun hq u hu => by subst hq; rw [fieldB_s0 (by decide) (by decide) (by decide)]; exact as_cstr u _ (okV_s (by decide) (by decide) hkk (.inl rfl)).1) (fun hq u hu => by subst hq; rw [fieldB_s0 (by decide) (by decide) (by decide)]; exact as_str u _ (okV_s (by decide) (by decide) hkk (.inl rfl)).1) hE hB (fun u vd Lc ht14 hE => ?_)
    have h0 := h0.trans ht14
    refine at_sub (.cons (.skip rfl (.cons (.cons (.cons (.cons (.cons (.cons (.cons (.cons .rfl')))))))))) ?_
    refine at_cd ?_
    refine cd_sq ?_
    have hE := pl_all (by decide) (hasB_all hv0) hE
    have hkk := okV_get k12 (by decide) (hasB_all hv0)
    refine cd_sq ?_
    refine ap_load (off := 1) rfl Try.underlying97 rfl tiSl_int32.size rfl Try.underlying95 rfl (hyr13.mv h0 (by simp)) rfl rfl ?_
    refine at_cd ?_
    obtain ⟨hll, hlz, hle⟩ := okV_l hkk
    have hE := ls_open (by decide) hll hlz hE
    have hel := els_len hll
    refine cd_sq ?_
    refine ap_flexL (T' := 0) rfl en_41 en_42 Try.underlying95 rfl rfl rfl rfl (fun hq u hu => by subst hq; exact al_c u _ hel) (fun hq u hu => by subst hq; exact al_n u _ hel) hE hB (fun u vd Lc ht15 hE => ?_)
    have h0 := h0.trans ht15
    refine at_cd ?_
    refine ap_range (Tl := fun i => ((els (ye8.at_ 1)).drop i).flatMap (valueB 3 [] false v q)) Try.underlying95 rfl (by omega) rfl hE (fun i18 u vd Lc N' X' hi19 hu17 hE kb => ?_) (fun u vd Lc ht16 hE => ?_)
    · skip
      have h0 := h0.trans hu17
      have hE := ls_step hi19 hE
      rcases Hg9_1 with hm0 | ⟨gg, oo, lc, rfl, hgc, hgl, hge⟩
      · omega
      have hy := hge i18 hi19
      have hyr := seg_rc hgc hgl hi19
      have hkk := hle i18 hi19
      refine cd_sq ?_
      refine ap_copy rfl rfl ?_
      refine at_cd ?_
      have hy := RE_i32 hy
      have hyr : RC t gg (oo + i18 * 1) _ := hyr
      rw [show seg lc i18 _ = _ from hy] at hyr
      refine cd_sq ?_
      refine ap_idxS rfl Try.underlying95 tiint32.size hi19 rfl Try.underlying21 rfl (hyr.mv h0 (by simp)) rfl ?_
      refine at_cd ?_
      refine ap_call en_45 rfl rfl (fun u hu => by rw [val_sc (by decide)]; exact as_i32 u _ _ _) hE hB (fun u vd Lc ht21 hE => ?_)
      have h0 := h0.trans ht21
      exact at_sub (.cons (.skip rfl (.skip rfl (.cons (.cons (.cons (.cons (.cons (.cons (.cons (.cons (.cons (.cons (.cons .rfl')))))))))))))) (kb _ _ _ ht21 hE)
    have hE := ls_end hE
    have h0 := h0.trans ht16
    refine at_sub (.cons (.skip rfl (.cons (.cons (.cons (.cons (.cons (.cons (.cons (.cons .rfl')))))))))) ?_
    refine at_cd ?_
    have hE := pl_nil hE
    refine ap_tags (off := 2) rfl rfl Try.underlying97 rfl tipub_kmsg_Tags.size rfl (hyr13.mv h0 (by simp)) rfl (hTg9.mv h0) (fun h => (hfu10 h).2) rfl rfl rfl hE hB (fun u vd Lc ht22 hE => ?_)
    have h0 := h0.trans ht22
    exact at_sub (.cons (.skip rfl (.skip rfl (.cons (.cons (.cons (.cons (.cons (.cons .rfl'))))))))) (kb _ _ _ (((ht14.trans ht15).trans ht16).trans ht22) hE)
  have hE := ls_end hE
  have h0 := h0.trans ht4
  refine at_sub (.cons (.skip rfl (.cons (.cons (.cons .rfl'))))) ?_
  refine at_cd ?_
  have hE := pl_nil hE
  refine cd_sq ?_
  refine ap_tags (off := 2) rfl rfl Try.underlying73 rfl tipub_kmsg_Tags.size rfl (hrc.mv h0 (by simp)) rfl (hTg1.mv h0) (fun h => (hfu h).2) rfl rfl rfl hE hB (fun u vd Lc ht23 hE => ?_)
  have h0 := h0.trans ht23
  refine at_cd ?_
  have hE : Lc = Full := by simpa using hE
  subst hE
  refine cd_rowone (i := 0) rfl (fun hone => ?_)
  refine cd_sr ?_
  refine ln_pv (pv_move rfl) rfl ?_
  refine ln_pv (pv_assign rfl) rfl ?_
  refine ln_cd ?_
  refine cd_ret ?_
  exact at_retT (i := 0) rfl rfl rfl (fun w hS => ⟨rfl, hone⟩)
end K
end Go.Proofs.Ytoledocfkjohhab
