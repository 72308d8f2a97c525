import Derived.Test.YtmknncmdbmnmgabGreatA5
import Derived.Test.YtmknncmdbmnmgabGreatMds
set_option linter.unusedVariables false
set_option linter.unusedSimpArgs false
namespace Go.Proofs.YtmknncmdbmnmgabGreat
namespace K
open Go Go.Lib
theorem append_DescribeQuorumResponse (t : Vw) (b : Nat) (v : Int) (y : Tre) (cells : List Value) (vd : Value) (L0 : List UInt8) (hrc : RC t b 0 (.int .i16 v :: cells)) (hM : RMp t F_DescribeQuorumResponse y cells) (hfit : okP F_DescribeQuorumResponse v (flexB 0 v) y) (h0 : 0 ≤ v) (h1 : v ≤ 2) (hB : (L0 ++ partB F_DescribeQuorumResponse v (flexB 0 v) y).length ≤ 4398046511104) (hok : (OctRow vd L0).ok t.w) (hav : ∀ q ∈ (OctRow vd L0).blk, t.av q) : CT Tryz.prog 56 [.pointer (some ⟨b, 0, none⟩), vd] t (OctRow vd L0) fun _ r e' => e' = OctRow r (L0 ++ partB F_DescribeQuorumResponse v (flexB 0 v) y) ∧ r.oneCell' = true := by
  have hv0 := h0
  clear h0
  obtain ⟨fc1, mv1, hce1, hfl1, hTg1⟩ := hM
  simp only [F_DescribeQuorumResponse, RMl] at hfl1
  obtain ⟨x1_0, z1_0, e1_0, g1_0, x1_1, z1_1, e1_1, g1_1, x1_2, z1_2, e1_2, g1_2, x1_3, z1_3, e1_3, g1_3, hend1⟩ := hfl1
  obtain rfl := RMf_i16.1 g1_0
  obtain ⟨d1_1, rfl, Gg1_1⟩ := (RMf_txt (by decide)).1 g1_1
  obtain ⟨_, rfl, Gg1_2⟩ := RMf_list.1 g1_2
  obtain ⟨ad1_2, cap1_2, rfl, hnil1_2, Hg1_2⟩ := Gg1_2.els
  obtain ⟨_, rfl, Gg1_3⟩ := RMf_list.1 g1_3
  obtain ⟨ad1_3, cap1_3, rfl, hnil1_3, Hg1_3⟩ := Gg1_3.els
  subst hend1
  subst e1_3
  subst e1_2
  subst e1_1
  subst e1_0
  rw [hce1] at hrc
  simp only [List.cons_append, List.nil_append, List.append_assoc] at hrc
  obtain ⟨hfl, hfu⟩ := hfit
  obtain ⟨k2, hfl⟩ := okFl_cons hfl
  obtain ⟨k3, hfl⟩ := okFl_cons hfl
  obtain ⟨k4, hfl⟩ := okFl_cons hfl
  obtain ⟨k5, hfl⟩ := okFl_cons hfl
  have hq0 : decide (v ≥ 0) = flexB 0 v := by simp [flexB]
  obtain ⟨Full, hFull⟩ : ∃ F : List UInt8, L0 ++ partB F_DescribeQuorumResponse v (flexB 0 v) y = F := ⟨_, rfl⟩
  rw [hFull] at hB ⊢
  have hE : L0 ++ (partB F_DescribeQuorumResponse v (flexB 0 v) y ++ []) = Full := by rw [List.append_nil]; exact hFull
  clear hFull
  generalize flexB 0 v = q at *
  have hE := pt_open (by decide) hfu hE
  refine ct_enter Tryz.func56 rfl Tryz.ntmps56 rfl hok hav (by simp only [Ent.blk]; cases vd.ownBlock <;> simp) ?_
  generalize L0 = Lc at *
  have h0 : Tr t t := Tr.refl t
  refine cd_sub_ (L' := [(1, vd), (0, .pointer (some ⟨b, 0, none⟩))]) (.put rfl (.put rfl .nil)) ?_
  refine cd_sq ?_
  refine ap_const rfl ?_
  refine at_sub (.skip rfl .rfl') ?_
  refine at_cd ?_
  refine cd_sq ?_
  refine ap_load0 rfl Tryz.underlying88 rfl tiint16.size rfl Tryz.underlying45 rfl (hrc.mv h0 (by simp)) rfl rfl ?_
  refine at_sub (.swap rfl) ?_
  refine at_cd ?_
  refine cd_sq ?_
  refine ap_blank rfl rfl ?_
  refine at_cd ?_
  refine cd_sq ?_
  refine ap_geqF rfl hq0 rfl ?_
  refine at_sub (.swap rfl) ?_
  refine at_cd ?_
  refine cd_sq ?_
  refine ap_blank rfl rfl ?_
  refine at_cd ?_
  refine cd_sq ?_
  have hE := pl_all (by decide) (hasB_all hv0) hE
  have hkk := okV_get k2 (by decide) (hasB_all hv0)
  refine cd_sq ?_
  refine ap_load (off := 1) rfl Tryz.underlying88 rfl tiint16.size rfl Tryz.underlying45 rfl (hrc.mv h0 (by simp)) rfl rfl ?_
  refine at_cd ?_
  refine ap_call en_86 rfl rfl (fun u hu => by rw [fieldB_s0 (by decide) (by decide) (by decide)]; exact as_i16 u _ _ _) hE hB (fun u vd Lc ht6 hE => ?_)
  have h0 := h0.trans ht6
  refine at_sub (.cons (.skip rfl (.cons (.cons (.cons .rfl'))))) ?_
  refine at_cd ?_
  refine cd_sq ?_
  have hE := pl_if (by decide) (hasB_from) hE
  refine ap_if rfl rfl hE (fun u vd Lc ht7 hE => ?_) (fun hva hE kk => ?_)
  rotate_left
  · skip
    have hkk := okV_get k3 (by decide) (by rw [hasB_from]; exact decide_eq_true hva)
    refine cd_sq ?_
    refine ap_load (off := 2) rfl Tryz.underlying88 rfl tiPt_string.size rfl Tryz.underlying52 rfl (hrc.mv h0 (by simp)) rfl rfl ?_
    refine at_cd ?_
    refine ap_flex rfl en_74 en_75 rfl rfl rfl rfl (fun hq u hu => by subst hq; rw [fieldB_sz (by decide) (by decide) (by decide) (by omega)]; exact as_ctxt u _ _ (Gg1_1.mv (h0.trans hu)) (okV_s (by decide) (by decide) hkk (.inl rfl)).1) (fun hq u hu => by subst hq; rw [fieldB_sz (by decide) (by decide) (by decide) (by omega)]; exact as_txt u _ _ (Gg1_1.mv (h0.trans hu)) (okV_s (by decide) (by decide) hkk (.inl rfl)).1) hE hB (fun u vd Lc ht8 hE => ?_)
    have h0 := h0.trans ht8
    refine at_sub (.cons (.skip rfl (.cons (.cons (.cons .rfl'))))) ?_
    exact at_sub (.cons (.cons (.cons (.cons .rfl')))) (kk _ _ _ ht8 hE)
  have h0 := h0.trans ht7
  refine at_cd ?_
  refine cd_sq ?_
  have hE := pl_all (by decide) (hasB_all hv0) hE
  have hkk := okV_get k4 (by decide) (hasB_all hv0)
  refine cd_sq ?_
  refine ap_load (off := 3) rfl Tryz.underlying88 rfl tiSl_kmsg_DescribeQuorumResponseTopic.size rfl Tryz.underlying85 rfl (hrc.mv h0 (by simp)) rfl rfl ?_
  refine at_cd ?_
  obtain ⟨hll, hlz, hle⟩ := okV_l hkk
  have hE := ls_open (by decide) hll hlz hE
  have hel := els_len hll
  refine cd_sq ?_
  refine ap_flexL (T' := 0) rfl en_65 en_66 Tryz.underlying85 rfl rfl rfl rfl (fun hq u hu => by subst hq; exact al_c u _ hel) (fun hq u hu => by subst hq; exact al_n u _ hel) hE hB (fun u vd Lc ht9 hE => ?_)
  have h0 := h0.trans ht9
  refine at_cd ?_
  refine ap_range (Tl := fun i => ((els (y.at_ 2)).drop i).flatMap (valueB 10 F_sDescribeQuorumResponseTopic false v q)) Tryz.underlying85 rfl (by omega) rfl hE (fun i12 u vd Lc N' X' hi13 hu11 hE kb => ?_) (fun u vd Lc ht10 hE => ?_)
  · skip
    have h0 := h0.trans hu11
    have hE := ls_step hi13 hE
    rcases Hg1_2 with hm0 | ⟨gg, oo, lc, rfl, hgc, hgl, hge⟩
    · omega
    have hy := hge i12 hi13
    have hyr := seg_rc hgc hgl hi13
    have hkk := hle i12 hi13
    refine cd_sq ?_
    refine ap_copy rfl rfl ?_
    refine at_cd ?_
    refine cd_sq ?_
    refine ap_idx (ez := 3) rfl Tryz.underlying85 tipub_kmsg_DescribeQuorumResponseTopic.size hi13 rfl rfl ?_
    refine at_cd ?_
    have hy := RE_part hy
    have hyr : RC t gg (oo + i12 * 3) _ := hyr
    generalize hyy : (els (y.at_ 2))[i12] = ye14 at *
    obtain ⟨fc15, mv15, hce15, hfl15, hTg15⟩ := hy
    simp only [F_sDescribeQuorumResponseTopic, RMl] at hfl15
    obtain ⟨x15_0, z15_0, e15_0, g15_0, x15_1, z15_1, e15_1, g15_1, hend15⟩ := hfl15
    obtain rfl := (RMf_str (by decide)).1 g15_0
    obtain ⟨_, rfl, Gg15_1⟩ := RMf_list.1 g15_1
    obtain ⟨ad15_1, cap15_1, rfl, hnil15_1, Hg15_1⟩ := Gg15_1.els
    subst hend15
    subst e15_1
    subst e15_0
    rw [hce15] at hyr
    simp only [List.cons_append, List.nil_append, List.append_assoc] at hyr
    obtain ⟨hfl, hfu16⟩ := (show okP F_sDescribeQuorumResponseTopic v q ye14 from hkk)
    obtain ⟨k17, hfl⟩ := okFl_cons hfl
    obtain ⟨k18, hfl⟩ := okFl_cons hfl
    have hE := vt_open (by decide) hfu16 hE
    have hyr19 := hyr
    refine cd_sq ?_
    have hE := pl_all (by decide) (hasB_all hv0) hE
    have hkk := okV_get k17 (by decide) (hasB_all hv0)
    refine cd_sq ?_
    refine ap_load (off := 0) rfl Tryz.underlying157 rfl tistring.size rfl Tryz.underlying9 rfl (hyr19.mv h0 (by simp)) rfl rfl ?_
    refine at_cd ?_
    refine ap_flex rfl en_67 en_68 rfl rfl rfl rfl (fun hq u hu => by subst hq; rw [fieldB_s0 (by decide) (by decide) (by decide)]; exact as_cstr u _ (okV_s (by decide) (by decide) hkk (.inl rfl)).1) (fun hq u hu => by subst hq; rw [fieldB_s0 (by decide) (by decide) (by decide)]; exact as_str u _ (okV_s (by decide) (by decide) hkk (.inl rfl)).1) hE hB (fun u vd Lc ht20 hE => ?_)
    have h0 := h0.trans ht20
    refine at_sub (.cons (.skip rfl (.cons (.cons (.cons (.cons (.cons (.cons (.cons (.cons .rfl')))))))))) ?_
    refine at_cd ?_
    refine cd_sq ?_
    have hE := pl_all (by decide) (hasB_all hv0) hE
    have hkk := okV_get k18 (by decide) (hasB_all hv0)
    refine cd_sq ?_
    refine ap_load (off := 1) rfl Tryz.underlying157 rfl tiSl_kmsg_DescribeQuorumResponseTopicPartition.size rfl Tryz.underlying155 rfl (hyr19.mv h0 (by simp)) rfl rfl ?_
    refine at_cd ?_
    obtain ⟨hll, hlz, hle⟩ := okV_l hkk
    have hE := ls_open (by decide) hll hlz hE
    have hel := els_len hll
    refine cd_sq ?_
    refine ap_flexL (T' := 0) rfl en_65 en_66 Tryz.underlying155 rfl rfl rfl rfl (fun hq u hu => by subst hq; exact al_c u _ hel) (fun hq u hu => by subst hq; exact al_n u _ hel) hE hB (fun u vd Lc ht21 hE => ?_)
    have h0 := h0.trans ht21
    refine at_cd ?_
    refine ap_range (Tl := fun i => ((els (ye14.at_ 1)).drop i).flatMap (valueB 10 F_sDescribeQuorumResponseTopicPartition false v q)) Tryz.underlying155 rfl (by omega) rfl hE (fun i24 u vd Lc N' X' hi25 hu23 hE kb => ?_) (fun u vd Lc ht22 hE => ?_)
    · skip
      have h0 := h0.trans hu23
      have hE := ls_step hi25 hE
      rcases Hg15_1 with hm0 | ⟨gg, oo, lc, rfl, hgc, hgl, hge⟩
      · omega
      have hy := hge i24 hi25
      have hyr := seg_rc hgc hgl hi25
      have hkk := hle i24 hi25
      refine cd_sq ?_
      refine ap_copy rfl rfl ?_
      refine at_cd ?_
      refine cd_sq ?_
      refine ap_idx (ez := 9) rfl Tryz.underlying155 tipub_kmsg_DescribeQuorumResponseTopicPartition.size hi25 rfl rfl ?_
      refine at_cd ?_
      have hy := RE_part hy
      have hyr : RC t gg (oo + i24 * 9) _ := hyr
      generalize hyy : (els (ye14.at_ 1))[i24] = ye26 at *
      obtain ⟨fc27, mv27, hce27, hfl27, hTg27⟩ := hy
      simp only [F_sDescribeQuorumResponseTopicPartition, RMl] at hfl27
      obtain ⟨x27_0, z27_0, e27_0, g27_0, x27_1, z27_1, e27_1, g27_1, x27_2, z27_2, e27_2, g27_2, x27_3, z27_3, e27_3, g27_3, x27_4, z27_4, e27_4, g27_4, x27_5, z27_5, e27_5, g27_5, x27_6, z27_6, e27_6, g27_6, x27_7, z27_7, e27_7, g27_7, hend27⟩ := hfl27
      obtain rfl := RMf_i32.1 g27_0
      obtain rfl := RMf_i16.1 g27_1
      obtain ⟨d27_2, rfl, Gg27_2⟩ := (RMf_txt (by decide)).1 g27_2
      obtain rfl := RMf_i32.1 g27_3
      obtain rfl := RMf_i32.1 g27_4
      obtain ⟨rfl, hI27_5⟩ := RMf_i64.1 g27_5
      obtain ⟨_, rfl, Gg27_6⟩ := RMf_list.1 g27_6
      obtain ⟨ad27_6, cap27_6, rfl, hnil27_6, Hg27_6⟩ := Gg27_6.els
      obtain ⟨_, rfl, Gg27_7⟩ := RMf_list.1 g27_7
      obtain ⟨ad27_7, cap27_7, rfl, hnil27_7, Hg27_7⟩ := Gg27_7.els
      subst hend27
      subst e27_7
      subst e27_6
      subst e27_5
      subst e27_4
      subst e27_3
      subst e27_2
      subst e27_1
      subst e27_0
      rw [hce27] at hyr
      simp only [List.cons_append, List.nil_append, List.append_assoc] at hyr
      obtain ⟨hfl, hfu28⟩ := (show okP F_sDescribeQuorumResponseTopicPartition v q ye26 from hkk)
      obtain ⟨k29, hfl⟩ := okFl_cons hfl
      obtain ⟨k30, hfl⟩ := okFl_cons hfl
      obtain ⟨k31, hfl⟩ := okFl_cons hfl
      obtain ⟨k32, hfl⟩ := okFl_cons hfl
      obtain ⟨k33, hfl⟩ := okFl_cons hfl
      obtain ⟨k34, hfl⟩ := okFl_cons hfl
      obtain ⟨k35, hfl⟩ := okFl_cons hfl
      obtain ⟨k36, hfl⟩ := okFl_cons hfl
      have hE := vt_open (by decide) hfu28 hE
      have hyr37 := hyr
      refine cd_sq ?_
      have hE := pl_all (by decide) (hasB_all hv0) hE
      have hkk := okV_get k29 (by decide) (hasB_all hv0)
      refine cd_sq ?_
      refine ap_load (off := 0) rfl Tryz.underlying167 rfl tiint32.size rfl Tryz.underlying21 rfl (hyr37.mv h0 (by simp)) rfl rfl ?_
      refine at_cd ?_
      refine ap_call en_64 rfl rfl (fun u hu => by rw [fieldB_s0 (by decide) (by decide) (by decide)]; exact as_i32 u _ _ _) hE hB (fun u vd Lc ht38 hE => ?_)
      have h0 := h0.trans ht38
      refine at_sub (.cons (.skip rfl (.cons (.cons (.cons (.cons (.cons (.cons (.cons (.cons (.cons (.cons (.cons (.cons (.cons .rfl'))))))))))))))) ?_
      refine at_cd ?_
      refine cd_sq ?_
      have hE := pl_all (by decide) (hasB_all hv0) hE
      have hkk := okV_get k30 (by decide) (hasB_all hv0)
      refine cd_sq ?_
      refine ap_load (off := 1) rfl Tryz.underlying167 rfl tiint16.size rfl Tryz.underlying45 rfl (hyr37.mv h0 (by simp)) rfl rfl ?_
      refine at_cd ?_
      refine ap_call en_86 rfl rfl (fun u hu => by rw [fieldB_s0 (by decide) (by decide) (by decide)]; exact as_i16 u _ _ _) hE hB (fun u vd Lc ht39 hE => ?_)
      have h0 := h0.trans ht39
      refine at_sub (.cons (.skip rfl (.cons (.cons (.cons (.cons (.cons (.cons (.cons (.cons (.cons (.cons (.cons (.cons (.cons .rfl'))))))))))))))) ?_
      refine at_cd ?_
      refine cd_sq ?_
      have hE := pl_if (by decide) (hasB_from) hE
      refine ap_if rfl rfl hE (fun u vd Lc ht40 hE => ?_) (fun hva hE kk => ?_)
      rotate_left
      · skip
        have hkk := okV_get k31 (by decide) (by rw [hasB_from]; exact decide_eq_true hva)
        refine cd_sq ?_
        refine ap_load (off := 2) rfl Tryz.underlying167 rfl tiPt_string.size rfl Tryz.underlying52 rfl (hyr37.mv h0 (by simp)) rfl rfl ?_
        refine at_cd ?_
        refine ap_flex rfl en_74 en_75 rfl rfl rfl rfl (fun hq u hu => by subst hq; rw [fieldB_sz (by decide) (by decide) (by decide) (by omega)]; exact as_ctxt u _ _ (Gg27_2.mv (h0.trans hu)) (okV_s (by decide) (by decide) hkk (.inl rfl)).1) (fun hq u hu => by subst hq; rw [fieldB_sz (by decide) (by decide) (by decide) (by omega)]; exact as_txt u _ _ (Gg27_2.mv (h0.trans hu)) (okV_s (by decide) (by decide) hkk (.inl rfl)).1) hE hB (fun u vd Lc ht41 hE => ?_)
        have h0 := h0.trans ht41
        refine at_sub (.cons (.skip rfl (.cons (.cons (.cons (.cons (.cons (.cons (.cons (.cons (.cons (.cons (.cons (.cons (.cons .rfl'))))))))))))))) ?_
        exact at_sub (.cons (.cons (.cons (.cons (.cons (.cons (.cons (.cons (.cons (.cons (.cons (.cons (.cons (.cons .rfl')))))))))))))) (kk _ _ _ ht41 hE)
      have h0 := h0.trans ht40
      refine at_cd ?_
      refine cd_sq ?_
      have hE := pl_all (by decide) (hasB_all hv0) hE
      have hkk := okV_get k32 (by decide) (hasB_all hv0)
      refine cd_sq ?_
      refine ap_load (off := 3) rfl Tryz.underlying167 rfl tiint32.size rfl Tryz.underlying21 rfl (hyr37.mv h0 (by simp)) rfl rfl ?_
      refine at_cd ?_
      refine ap_call en_64 rfl rfl (fun u hu => by rw [fieldB_s0 (by decide) (by decide) (by decide)]; exact as_i32 u _ _ _) hE hB (fun u vd Lc ht42 hE => ?_)
      have h0 := h0.trans ht42
      refine at_sub (.cons (.skip rfl (.cons (.cons (.cons (.cons (.cons (.cons (.cons (.cons (.cons (.cons (.cons (.cons (.cons .rfl'))))))))))))))) ?_
      refine at_cd ?_
      refine cd_sq ?_
      have hE := pl_all (by decide) (hasB_all hv0) hE
      have hkk := okV_get k33 (by decide) (hasB_all hv0)
      refine cd_sq ?_
      refine ap_load (off := 4) rfl Tryz.underlying167 rfl tiint32.size rfl Tryz.underlying21 rfl (hyr37.mv h0 (by simp)) rfl rfl ?_
      refine at_cd ?_
      refine ap_call en_64 rfl rfl (fun u hu => by rw [fieldB_s0 (by decide) (by decide) (by decide)]; exact as_i32 u _ _ _) hE hB (fun u vd Lc ht43 hE => ?_)
      have h0 := h0.trans ht43
      refine at_sub (.cons (.skip rfl (.cons (.cons (.cons (.cons (.cons (.cons (.cons (.cons (.cons (.cons (.cons (.cons (.cons .rfl'))))))))))))))) ?_
      refine at_cd ?_
      refine cd_sq ?_
      have hE := pl_all (by decide) (hasB_all hv0) hE
      have hkk := okV_get k34 (by decide) (hasB_all hv0)
      refine cd_sq ?_
      refine ap_load (off := 5) rfl Tryz.underlying167 rfl tiint64.size rfl Tryz.underlying2 rfl (hyr37.mv h0 (by simp)) rfl rfl ?_
      refine at_cd ?_
      refine ap_call en_69 rfl rfl (fun u hu => by rw [fieldB_s0 (by decide) (by decide) (by decide)]; exact as_i64 u _ _ _) hE hB (fun u vd Lc ht44 hE => ?_)
      have h0 := h0.trans ht44
      refine at_sub (.cons (.skip rfl (.cons (.cons (.cons (.cons (.cons (.cons (.cons (.cons (.cons (.cons (.cons (.cons (.cons .rfl'))))))))))))))) ?_
      refine at_cd ?_
      refine cd_sq ?_
      have hE := pl_all (by decide) (hasB_all hv0) hE
      have hkk := okV_get k35 (by decide) (hasB_all hv0)
      refine cd_sq ?_
      refine ap_load (off := 6) rfl Tryz.underlying167 rfl tiSl_kmsg_DescribeQuorumResponseTopicPartitionReplicaState.size rfl Tryz.underlying165 rfl (hyr37.mv h0 (by simp)) rfl rfl ?_
      refine at_cd ?_
      obtain ⟨hll, hlz, hle⟩ := okV_l hkk
      have hE := ls_open (by decide) hll hlz hE
      have hel := els_len hll
      refine cd_sq ?_
      refine ap_flexL (T' := 0) rfl en_65 en_66 Tryz.underlying165 rfl rfl rfl rfl (fun hq u hu => by subst hq; exact al_c u _ hel) (fun hq u hu => by subst hq; exact al_n u _ hel) hE hB (fun u vd Lc ht45 hE => ?_)
      have h0 := h0.trans ht45
      refine at_cd ?_
      refine ap_range (Tl := fun i => ((els (ye26.at_ 6)).drop i).flatMap (valueB 10 F_sDescribeQuorumResponseTopicPartitionReplicaState false v q)) Tryz.underlying165 rfl (by omega) rfl hE (fun i48 u vd Lc N' X' hi49 hu47 hE kb => ?_) (fun u vd Lc ht46 hE => ?_)
      · skip
        have h0 := h0.trans hu47
        have hE := ls_step hi49 hE
        rcases Hg27_6 with hm0 | ⟨gg, oo, lc, rfl, hgc, hgl, hge⟩
        · omega
        have hy := hge i48 hi49
        have hyr := seg_rc hgc hgl hi49
        have hkk := hle i48 hi49
        refine cd_sq ?_
        refine ap_copy rfl rfl ?_
        refine at_cd ?_
        refine cd_sq ?_
        refine ap_idx (ez := 21) rfl Tryz.underlying165 tipub_kmsg_DescribeQuorumResponseTopicPartitionReplicaState.size hi49 rfl rfl ?_
        refine at_cd ?_
        have hy := RE_part hy
        have hyr : RC t gg (oo + i48 * 21) _ := hyr
        generalize hyy : (els (ye26.at_ 6))[i48] = ye50 at *
        obtain ⟨fc51, mv51, hce51, hfl51, hTg51⟩ := hy
        simp only [F_sDescribeQuorumResponseTopicPartitionReplicaState, RMl] at hfl51
        obtain ⟨x51_0, z51_0, e51_0, g51_0, x51_1, z51_1, e51_1, g51_1, x51_2, z51_2, e51_2, g51_2, x51_3, z51_3, e51_3, g51_3, x51_4, z51_4, e51_4, g51_4, hend51⟩ := hfl51
        obtain rfl := RMf_i32.1 g51_0
        have hq51_1 := RMf_uuid.1 g51_1
        obtain ⟨u51_1_0, u51_1_1, u51_1_2, u51_1_3, u51_1_4, u51_1_5, u51_1_6, u51_1_7, u51_1_8, u51_1_9, u51_1_10, u51_1_11, u51_1_12, u51_1_13, u51_1_14, u51_1_15, hu51_1⟩ := uuid16 (ye50.at_ 1).s
        rw [hu51_1] at hq51_1
        subst hq51_1
        obtain ⟨rfl, hI51_2⟩ := RMf_i64.1 g51_2
        obtain ⟨rfl, hI51_3⟩ := RMf_i64.1 g51_3
        obtain ⟨rfl, hI51_4⟩ := RMf_i64.1 g51_4
        subst hend51
        subst e51_4
        subst e51_3
        subst e51_2
        subst e51_1
        subst e51_0
        rw [hce51] at hyr
        simp only [List.cons_append, List.nil_append, List.append_assoc] at hyr
        obtain ⟨hfl, hfu52⟩ := (show okP F_sDescribeQuorumResponseTopicPartitionReplicaState v q ye50 from hkk)
        obtain ⟨k53, hfl⟩ := okFl_cons hfl
        obtain ⟨k54, hfl⟩ := okFl_cons hfl
        obtain ⟨k55, hfl⟩ := okFl_cons hfl
        obtain ⟨k56, hfl⟩ := okFl_cons hfl
        obtain ⟨k57, hfl⟩ := okFl_cons hfl
        have hE := vt_open (by decide) hfu52 hE
        have hyr58 := hyr
        refine cd_sq ?_
        have hE := pl_all (by decide) (hasB_all hv0) hE
        have hkk := okV_get k53 (by decide) (hasB_all hv0)
        refine cd_sq ?_
        refine ap_load (off := 0) rfl Tryz.underlying170 rfl tiint32.size rfl Tryz.underlying21 rfl (hyr58.mv h0 (by simp)) rfl rfl ?_
        refine at_cd ?_
        refine ap_call en_64 rfl rfl (fun u hu => by rw [fieldB_s0 (by decide) (by decide) (by decide)]; exact as_i32 u _ _ _) hE hB (fun u vd Lc ht59 hE => ?_)
        have h0 := h0.trans ht59
        refine at_sub (.cons (.skip rfl (.cons (.cons (.cons (.cons (.cons (.cons (.cons (.cons (.cons (.cons (.cons (.cons (.cons (.cons (.cons (.cons (.cons (.cons .rfl')))))))))))))))))))) ?_
        refine at_cd ?_
        refine cd_sq ?_
        have hE := pl_if (by decide) (hasB_from) hE
        refine ap_if rfl rfl hE (fun u vd Lc ht60 hE => ?_) (fun hva hE kk => ?_)
        rotate_left
        · skip
          have hkk := okV_get k54 (by decide) (by rw [hasB_from]; exact decide_eq_true hva)
          refine ap_uuid (off := 1) (vs := [u51_1_0, u51_1_1, u51_1_2, u51_1_3, u51_1_4, u51_1_5, u51_1_6, u51_1_7, u51_1_8, u51_1_9, u51_1_10, u51_1_11, u51_1_12, u51_1_13, u51_1_14, u51_1_15]) rfl Tryz.underlying170 rfl ti_16_uint8.size rfl Tryz.underlying105 rfl ti_16_uint8 (zl := List.replicate 16 (.int .u8 0)) rfl rfl (hyr58.mv h0 (by simp)) rfl rfl (by rw [← hu51_1]; exact u8s_one _) en_73 rfl (fun u hu => by have h := as_uuid u (ye50.at_ 1) false q; rw [hu51_1] at h; rw [fieldB_s0 (by decide) (by decide) (by decide)]; exact h) hE hB (fun u vd Lc ht61 hE => ?_)
          have h0 := h0.trans ht61
          exact at_sub (.cons (.cons (.cons (.cons (.cons (.cons (.cons (.cons (.cons (.cons (.cons (.cons (.cons (.cons (.cons (.cons (.cons (.cons (.cons .rfl'))))))))))))))))))) (kk _ _ _ ht61 hE)
        have h0 := h0.trans ht60
        refine at_cd ?_
        refine cd_sq ?_
        have hE := pl_all (by decide) (hasB_all hv0) hE
        have hkk := okV_get k55 (by decide) (hasB_all hv0)
        refine cd_sq ?_
        refine ap_load (off := 17) rfl Tryz.underlying170 rfl tiint64.size rfl Tryz.underlying2 rfl (hyr58.mv h0 (by simp)) rfl rfl ?_
        refine at_cd ?_
        refine ap_call en_69 rfl rfl (fun u hu => by rw [fieldB_s0 (by decide) (by decide) (by decide)]; exact as_i64 u _ _ _) hE hB (fun u vd Lc ht62 hE => ?_)
        have h0 := h0.trans ht62
        refine at_sub (.cons (.skip rfl (.cons (.cons (.cons (.cons (.cons (.cons (.cons (.cons (.cons (.cons (.cons (.cons (.cons (.cons (.cons (.cons (.cons (.cons .rfl')))))))))))))))))))) ?_
        refine at_cd ?_
        refine cd_sq ?_
        have hE := pl_if (by decide) (hasB_from) hE
        refine ap_if rfl rfl hE (fun u vd Lc ht63 hE => ?_) (fun hva hE kk => ?_)
        rotate_left
        · skip
          have hkk := okV_get k56 (by decide) (by rw [hasB_from]; exact decide_eq_true hva)
          refine cd_sq ?_
          refine ap_load (off := 18) rfl Tryz.underlying170 rfl tiint64.size rfl Tryz.underlying2 rfl (hyr58.mv h0 (by simp)) rfl rfl ?_
          refine at_cd ?_
          refine ap_call en_69 rfl rfl (fun u hu => by rw [fieldB_s0 (by decide) (by decide) (by decide)]; exact as_i64 u _ _ _) hE hB (fun u vd Lc ht64 hE => ?_)
          have h0 := h0.trans ht64
          refine at_sub (.cons (.skip rfl (.cons (.cons (.cons (.cons (.cons (.cons (.cons (.cons (.cons (.cons (.cons (.cons (.cons (.cons (.cons (.cons (.cons (.cons .rfl')))))))))))))))))))) ?_
          exact at_sub (.cons (.cons (.cons (.cons (.cons (.cons (.cons (.cons (.cons (.cons (.cons (.cons (.cons (.cons (.cons (.cons (.cons (.cons (.cons .rfl'))))))))))))))))))) (kk _ _ _ ht64 hE)
        have h0 := h0.trans ht63
        refine at_cd ?_
        refine cd_sq ?_
        have hE := pl_if (by decide) (hasB_from) hE
        refine ap_if rfl rfl hE (fun u vd Lc ht65 hE => ?_) (fun hva hE kk => ?_)
        rotate_left
        · skip
          have hkk := okV_get k57 (by decide) (by rw [hasB_from]; exact decide_eq_true hva)
          refine cd_sq ?_
          refine ap_load (off := 19) rfl Tryz.underlying170 rfl tiint64.size rfl Tryz.underlying2 rfl (hyr58.mv h0 (by simp)) rfl rfl ?_
          refine at_cd ?_
          refine ap_call en_69 rfl rfl (fun u hu => by rw [fieldB_s0 (by decide) (by decide) (by decide)]; exact as_i64 u _ _ _) hE hB (fun u vd Lc ht66 hE => ?_)
          have h0 := h0.trans ht66
          refine at_sub (.cons (.skip rfl (.cons (.cons (.cons (.cons (.cons (.cons (.cons (.cons (.cons (.cons (.cons (.cons (.cons (.cons (.cons (.cons (.cons (.cons .rfl')))))))))))))))))))) ?_
          exact at_sub (.cons (.cons (.cons (.cons (.cons (.cons (.cons (.cons (.cons (.cons (.cons (.cons (.cons (.cons (.cons (.cons (.cons (.cons (.cons .rfl'))))))))))))))))))) (kk _ _ _ ht66 hE)
        have h0 := h0.trans ht65
        refine at_cd ?_
        have hE := pl_nil hE
        refine ap_tags (off := 20) rfl rfl Tryz.underlying170 rfl tipub_kmsg_Tags.size rfl (hyr58.mv h0 (by simp)) rfl (hTg51.mv h0) (fun h => (hfu52 h).2) rfl rfl rfl hE hB (fun u vd Lc ht67 hE => ?_)
        have h0 := h0.trans ht67
        exact at_sub (.cons (.skip rfl (.skip rfl (.cons (.cons (.cons (.cons (.cons (.cons (.cons (.cons (.cons (.cons (.cons (.cons (.cons (.cons (.cons (.cons .rfl'))))))))))))))))))) (kb _ _ _ (((((ht59.trans ht60).trans ht62).trans ht63).trans ht65).trans ht67) hE)
      have hE := ls_end hE
      have h0 := h0.trans ht46
      refine at_sub (.cons (.skip rfl (.cons (.cons (.cons (.cons (.cons (.cons (.cons (.cons (.cons (.cons (.cons (.cons (.cons .rfl'))))))))))))))) ?_
      refine at_cd ?_
      refine cd_sq ?_
      have hE := pl_all (by decide) (hasB_all hv0) hE
      have hkk := okV_get k36 (by decide) (hasB_all hv0)
      refine cd_sq ?_
      refine ap_load (off := 7) rfl Tryz.underlying167 rfl tiSl_kmsg_DescribeQuorumResponseTopicPartitionReplicaState.size rfl Tryz.underlying165 rfl (hyr37.mv h0 (by simp)) rfl rfl ?_
      refine at_cd ?_
      obtain ⟨hll, hlz, hle⟩ := okV_l hkk
      have hE := ls_open (by decide) hll hlz hE
      have hel := els_len hll
      refine cd_sq ?_
      refine ap_flexL (T' := 0) rfl en_65 en_66 Tryz.underlying165 rfl rfl rfl rfl (fun hq u hu => by subst hq; exact al_c u _ hel) (fun hq u hu => by subst hq; exact al_n u _ hel) hE hB (fun u vd Lc ht68 hE => ?_)
      have h0 := h0.trans ht68
      refine at_cd ?_
      refine ap_range (Tl := fun i => ((els (ye26.at_ 7)).drop i).flatMap (valueB 10 F_sDescribeQuorumResponseTopicPartitionReplicaState false v q)) Tryz.underlying165 rfl (by omega) rfl hE (fun i71 u vd Lc N' X' hi72 hu70 hE kb => ?_) (fun u vd Lc ht69 hE => ?_)
      · skip
        have h0 := h0.trans hu70
        have hE := ls_step hi72 hE
        rcases Hg27_7 with hm0 | ⟨gg, oo, lc, rfl, hgc, hgl, hge⟩
        · omega
        have hy := hge i71 hi72
        have hyr := seg_rc hgc hgl hi72
        have hkk := hle i71 hi72
        refine cd_sq ?_
        refine ap_copy rfl rfl ?_
        refine at_cd ?_
        refine cd_sq ?_
        refine ap_idx (ez := 21) rfl Tryz.underlying165 tipub_kmsg_DescribeQuorumResponseTopicPartitionReplicaState.size hi72 rfl rfl ?_
        refine at_cd ?_
        have hy := RE_part hy
        have hyr : RC t gg (oo + i71 * 21) _ := hyr
        generalize hyy : (els (ye26.at_ 7))[i71] = ye73 at *
        obtain ⟨fc74, mv74, hce74, hfl74, hTg74⟩ := hy
        simp only [F_sDescribeQuorumResponseTopicPartitionReplicaState, RMl] at hfl74
        obtain ⟨x74_0, z74_0, e74_0, g74_0, x74_1, z74_1, e74_1, g74_1, x74_2, z74_2, e74_2, g74_2, x74_3, z74_3, e74_3, g74_3, x74_4, z74_4, e74_4, g74_4, hend74⟩ := hfl74
        obtain rfl := RMf_i32.1 g74_0
        have hq74_1 := RMf_uuid.1 g74_1
        obtain ⟨u74_1_0, u74_1_1, u74_1_2, u74_1_3, u74_1_4, u74_1_5, u74_1_6, u74_1_7, u74_1_8, u74_1_9, u74_1_10, u74_1_11, u74_1_12, u74_1_13, u74_1_14, u74_1_15, hu74_1⟩ := uuid16 (ye73.at_ 1).s
        rw [hu74_1] at hq74_1
        subst hq74_1
        obtain ⟨rfl, hI74_2⟩ := RMf_i64.1 g74_2
        obtain ⟨rfl, hI74_3⟩ := RMf_i64.1 g74_3
        obtain ⟨rfl, hI74_4⟩ := RMf_i64.1 g74_4
        subst hend74
        subst e74_4
        subst e74_3
        subst e74_2
        subst e74_1
        subst e74_0
        rw [hce74] at hyr
        simp only [List.cons_append, List.nil_append, List.append_assoc] at hyr
        obtain ⟨hfl, hfu75⟩ := (show okP F_sDescribeQuorumResponseTopicPartitionReplicaState v q ye73 from hkk)
        obtain ⟨k76, hfl⟩ := okFl_cons hfl
        obtain ⟨k77, hfl⟩ := okFl_cons hfl
        obtain ⟨k78, hfl⟩ := okFl_cons hfl
        obtain ⟨k79, hfl⟩ := okFl_cons hfl
        obtain ⟨k80, hfl⟩ := okFl_cons hfl
        have hE := vt_open (by decide) hfu75 hE
        have hyr81 := hyr
        refine cd_sq ?_
        have hE := pl_all (by decide) (hasB_all hv0) hE
        have hkk := okV_get k76 (by decide) (hasB_all hv0)
        refine cd_sq ?_
        refine ap_load (off := 0) rfl Tryz.underlying170 rfl tiint32.size rfl Tryz.underlying21 rfl (hyr81.mv h0 (by simp)) rfl rfl ?_
        refine at_cd ?_
        refine ap_call en_64 rfl rfl (fun u hu => by rw [fieldB_s0 (by decide) (by decide) (by decide)]; exact as_i32 u _ _ _) hE hB (fun u vd Lc ht82 hE => ?_)
        have h0 := h0.trans ht82
        refine at_sub (.cons (.skip rfl (.cons (.cons (.cons (.cons (.cons (.cons (.cons (.cons (.cons (.cons (.cons (.cons (.cons (.cons (.cons (.cons (.cons (.cons .rfl')))))))))))))))))))) ?_
        refine at_cd ?_
        refine cd_sq ?_
        have hE := pl_if (by decide) (hasB_from) hE
        refine ap_if rfl rfl hE (fun u vd Lc ht83 hE => ?_) (fun hva hE kk => ?_)
        rotate_left
        · skip
          have hkk := okV_get k77 (by decide) (by rw [hasB_from]; exact decide_eq_true hva)
          refine ap_uuid (off := 1) (vs := [u74_1_0, u74_1_1, u74_1_2, u74_1_3, u74_1_4, u74_1_5, u74_1_6, u74_1_7, u74_1_8, u74_1_9, u74_1_10, u74_1_11, u74_1_12, u74_1_13, u74_1_14, u74_1_15]) rfl Tryz.underlying170 rfl ti_16_uint8.size rfl Tryz.underlying105 rfl ti_16_uint8 (zl := List.replicate 16 (.int .u8 0)) rfl rfl (hyr81.mv h0 (by simp)) rfl rfl (by rw [← hu74_1]; exact u8s_one _) en_73 rfl (fun u hu => by have h := as_uuid u (ye73.at_ 1) false q; rw [hu74_1] at h; rw [fieldB_s0 (by decide) (by decide) (by decide)]; exact h) hE hB (fun u vd Lc ht84 hE => ?_)
          have h0 := h0.trans ht84
          exact at_sub (.cons (.cons (.cons (.cons (.cons (.cons (.cons (.cons (.cons (.cons (.cons (.cons (.cons (.cons (.cons (.cons (.cons (.cons (.cons .rfl'))))))))))))))))))) (kk _ _ _ ht84 hE)
        have h0 := h0.trans ht83
        refine at_cd ?_
        refine cd_sq ?_
        have hE := pl_all (by decide) (hasB_all hv0) hE
        have hkk := okV_get k78 (by decide) (hasB_all hv0)
        refine cd_sq ?_
        refine ap_load (off := 17) rfl Tryz.underlying170 rfl tiint64.size rfl Tryz.underlying2 rfl (hyr81.mv h0 (by simp)) rfl rfl ?_
        refine at_cd ?_
        refine ap_call en_69 rfl rfl (fun u hu => by rw [fieldB_s0 (by decide) (by decide) (by decide)]; exact as_i64 u _ _ _) hE hB (fun u vd Lc ht85 hE => ?_)
        have h0 := h0.trans ht85
        refine at_sub (.cons (.skip rfl (.cons (.cons (.cons (.cons (.cons (.cons (.cons (.cons (.cons (.cons (.cons (.cons (.cons (.cons (.cons (.cons (.cons (.cons .rfl')))))))))))))))))))) ?_
        refine at_cd ?_
        refine cd_sq ?_
        have hE := pl_if (by decide) (hasB_from) hE
        refine ap_if rfl rfl hE (fun u vd Lc ht86 hE => ?_) (fun hva hE kk => ?_)
        rotate_left
        · skip
          have hkk := okV_get k79 (by decide) (by rw [hasB_from]; exact decide_eq_true hva)
          refine cd_sq ?_
          refine ap_load (off := 18) rfl Tryz.underlying170 rfl tiint64.size rfl Tryz.underlying2 rfl (hyr81.mv h0 (by simp)) rfl rfl ?_
          refine at_cd ?_
          refine ap_call en_69 rfl rfl (fun u hu => by rw [fieldB_s0 (by decide) (by decide) (by decide)]; exact as_i64 u _ _ _) hE hB (fun u vd Lc ht87 hE => ?_)
          have h0 := h0.trans ht87
          refine at_sub (.cons (.skip rfl (.cons (.cons (.cons (.cons (.cons (.cons (.cons (.cons (.cons (.cons (.cons (.cons (.cons (.cons (.cons (.cons (.cons (.cons .rfl')))))))))))))))))))) ?_
          exact at_sub (.cons (.cons (.cons (.cons (.cons (.cons (.cons (.cons (.cons (.cons (.cons (.cons (.cons (.cons (.cons (.cons (.cons (.cons (.cons .rfl'))))))))))))))))))) (kk _ _ _ ht87 hE)
        have h0 := h0.trans ht86
        refine at_cd ?_
        refine cd_sq ?_
        have hE := pl_if (by decide) (hasB_from) hE
        refine ap_if rfl rfl hE (fun u vd Lc ht88 hE => ?_) (fun hva hE kk => ?_)
        rotate_left
        · skip
          have hkk := okV_get k80 (by decide) (by rw [hasB_from]; exact decide_eq_true hva)
          refine cd_sq ?_
          refine ap_load (off := 19) rfl Tryz.underlying170 rfl tiint64.size rfl Tryz.underlying2 rfl (hyr81.mv h0 (by simp)) rfl rfl ?_
          refine at_cd ?_
          refine ap_call en_69 rfl rfl (fun u hu => by rw [fieldB_s0 (by decide) (by decide) (by decide)]; exact as_i64 u _ _ _) hE hB (fun u vd Lc ht89 hE => ?_)
          have h0 := h0.trans ht89
          refine at_sub (.cons (.skip rfl (.cons (.cons (.cons (.cons (.cons (.cons (.cons (.cons (.cons (.cons (.cons (.cons (.cons (.cons (.cons (.cons (.cons (.cons .rfl')))))))))))))))))))) ?_
          exact at_sub (.cons (.cons (.cons (.cons (.cons (.cons (.cons (.cons (.cons (.cons (.cons (.cons (.cons (.cons (.cons (.cons (.cons (.cons (.cons .rfl'))))))))))))))))))) (kk _ _ _ ht89 hE)
        have h0 := h0.trans ht88
        refine at_cd ?_
        have hE := pl_nil hE
        refine ap_tags (off := 20) rfl rfl Tryz.underlying170 rfl tipub_kmsg_Tags.size rfl (hyr81.mv h0 (by simp)) rfl (hTg74.mv h0) (fun h => (hfu75 h).2) rfl rfl rfl hE hB (fun u vd Lc ht90 hE => ?_)
        have h0 := h0.trans ht90
        exact at_sub (.cons (.skip rfl (.skip rfl (.cons (.cons (.cons (.cons (.cons (.cons (.cons (.cons (.cons (.cons (.cons (.cons (.cons (.cons (.cons (.cons .rfl'))))))))))))))))))) (kb _ _ _ (((((ht82.trans ht83).trans ht85).trans ht86).trans ht88).trans ht90) hE)
      have hE := ls_end hE
      have h0 := h0.trans ht69
      refine at_sub (.cons (.skip rfl (.cons (.cons (.cons (.cons (.cons (.cons (.cons (.cons (.cons (.cons (.cons (.cons (.cons .rfl'))))))))))))))) ?_
      refine at_cd ?_
      have hE := pl_nil hE
      refine ap_tags (off := 8) rfl rfl Tryz.underlying167 rfl tipub_kmsg_Tags.size rfl (hyr37.mv h0 (by simp)) rfl (hTg27.mv h0) (fun h => (hfu28 h).2) rfl rfl rfl hE hB (fun u vd Lc ht91 hE => ?_)
      have h0 := h0.trans ht91
      exact at_sub (.cons (.skip rfl (.skip rfl (.cons (.cons (.cons (.cons (.cons (.cons (.cons (.cons (.cons (.cons (.cons .rfl')))))))))))))) (kb _ _ _ ((((((((((ht38.trans ht39).trans ht40).trans ht42).trans ht43).trans ht44).trans ht45).trans ht46).trans ht68).trans ht69).trans ht91) hE)
    have hE := ls_end hE
    have h0 := h0.trans ht22
    refine at_sub (.cons (.skip rfl (.cons (.cons (.cons (.cons (.cons (.cons (.cons (.cons .rfl')))))))))) ?_
    refine at_cd ?_
    have hE := pl_nil hE
    refine ap_tags (off := 2) rfl rfl Tryz.underlying157 rfl tipub_kmsg_Tags.size rfl (hyr19.mv h0 (by simp)) rfl (hTg15.mv h0) (fun h => (hfu16 h).2) rfl rfl rfl hE hB (fun u vd Lc ht92 hE => ?_)
    have h0 := h0.trans ht92
    exact at_sub (.cons (.skip rfl (.skip rfl (.cons (.cons (.cons (.cons (.cons (.cons .rfl'))))))))) (kb _ _ _ (((ht20.trans ht21).trans ht22).trans ht92) hE)
  have hE := ls_end hE
  have h0 := h0.trans ht10
  refine at_sub (.cons (.skip rfl (.cons (.cons (.cons .rfl'))))) ?_
  refine at_cd ?_
  refine cd_sq ?_
  have hE := pl_if (by decide) (hasB_from) hE
  refine ap_if rfl rfl hE (fun u vd Lc ht93 hE => ?_) (fun hva hE kk => ?_)
  rotate_left
  · skip
    have hkk := okV_get k5 (by decide) (by rw [hasB_from]; exact decide_eq_true hva)
    refine cd_sq ?_
    refine ap_load (off := 4) rfl Tryz.underlying88 rfl tiSl_kmsg_DescribeQuorumResponseNode.size rfl Tryz.underlying86 rfl (hrc.mv h0 (by simp)) rfl rfl ?_
    refine at_cd ?_
    obtain ⟨hll, hlz, hle⟩ := okV_l hkk
    have hE := ls_open (by decide) hll hlz hE
    have hel := els_len hll
    refine cd_sq ?_
    refine ap_flexL (T' := 0) rfl en_65 en_66 Tryz.underlying86 rfl rfl rfl rfl (fun hq u hu => by subst hq; exact al_c u _ hel) (fun hq u hu => by subst hq; exact al_n u _ hel) hE hB (fun u vd Lc ht94 hE => ?_)
    have h0 := h0.trans ht94
    refine at_cd ?_
    refine ap_range (Tl := fun i => ((els (y.at_ 3)).drop i).flatMap (valueB 10 F_sDescribeQuorumResponseNode false v q)) Tryz.underlying86 rfl (by omega) rfl hE (fun i97 u vd Lc N' X' hi98 hu96 hE kb => ?_) (fun u vd Lc ht95 hE => ?_)
    · skip
      have h0 := h0.trans hu96
      have hE := ls_step hi98 hE
      rcases Hg1_3 with hm0 | ⟨gg, oo, lc, rfl, hgc, hgl, hge⟩
      · omega
      have hy := hge i97 hi98
      have hyr := seg_rc hgc hgl hi98
      have hkk := hle i97 hi98
      refine cd_sq ?_
      refine ap_copy rfl rfl ?_
      refine at_cd ?_
      refine cd_sq ?_
      refine ap_idx (ez := 3) rfl Tryz.underlying86 tipub_kmsg_DescribeQuorumResponseNode.size hi98 rfl rfl ?_
      refine at_cd ?_
      have hy := RE_part hy
      have hyr : RC t gg (oo + i97 * 3) _ := hyr
      generalize hyy : (els (y.at_ 3))[i97] = ye99 at *
      obtain ⟨fc100, mv100, hce100, hfl100, hTg100⟩ := hy
      simp only [F_sDescribeQuorumResponseNode, RMl] at hfl100
      obtain ⟨x100_0, z100_0, e100_0, g100_0, x100_1, z100_1, e100_1, g100_1, hend100⟩ := hfl100
      obtain rfl := RMf_i32.1 g100_0
      obtain ⟨_, rfl, Gg100_1⟩ := RMf_list.1 g100_1
      obtain ⟨ad100_1, cap100_1, rfl, hnil100_1, Hg100_1⟩ := Gg100_1.els
      subst hend100
      subst e100_1
      subst e100_0
      rw [hce100] at hyr
      simp only [List.cons_append, List.nil_append, List.append_assoc] at hyr
      obtain ⟨hfl, hfu101⟩ := (show okP F_sDescribeQuorumResponseNode v q ye99 from hkk)
      obtain ⟨k102, hfl⟩ := okFl_cons hfl
      obtain ⟨k103, hfl⟩ := okFl_cons hfl
      have hE := vt_open (by decide) hfu101 hE
      have hyr104 := hyr
      refine cd_sq ?_
      have hE := pl_all (by decide) (hasB_all hv0) hE
      have hkk := okV_get k102 (by decide) (hasB_all hv0)
      refine cd_sq ?_
      refine ap_load (off := 0) rfl Tryz.underlying161 rfl tiint32.size rfl Tryz.underlying21 rfl (hyr104.mv h0 (by simp)) rfl rfl ?_
      refine at_cd ?_
      refine ap_call en_64 rfl rfl (fun u hu => by rw [fieldB_s0 (by decide) (by decide) (by decide)]; exact as_i32 u _ _ _) hE hB (fun u vd Lc ht105 hE => ?_)
      have h0 := h0.trans ht105
      refine at_sub (.cons (.skip rfl (.cons (.cons (.cons (.cons (.cons (.cons (.cons (.cons .rfl')))))))))) ?_
      refine at_cd ?_
      refine cd_sq ?_
      have hE := pl_all (by decide) (hasB_all hv0) hE
      have hkk := okV_get k103 (by decide) (hasB_all hv0)
      refine cd_sq ?_
      refine ap_load (off := 1) rfl Tryz.underlying161 rfl tiSl_kmsg_DescribeQuorumResponseNodeListener.size rfl Tryz.underlying159 rfl (hyr104.mv h0 (by simp)) rfl rfl ?_
      refine at_cd ?_
      obtain ⟨hll, hlz, hle⟩ := okV_l hkk
      have hE := ls_open (by decide) hll hlz hE
      have hel := els_len hll
      refine cd_sq ?_
      refine ap_flexL (T' := 0) rfl en_65 en_66 Tryz.underlying159 rfl rfl rfl rfl (fun hq u hu => by subst hq; exact al_c u _ hel) (fun hq u hu => by subst hq; exact al_n u _ hel) hE hB (fun u vd Lc ht106 hE => ?_)
      have h0 := h0.trans ht106
      refine at_cd ?_
      refine ap_range (Tl := fun i => ((els (ye99.at_ 1)).drop i).flatMap (valueB 10 F_sDescribeQuorumResponseNodeListener false v q)) Tryz.underlying159 rfl (by omega) rfl hE (fun i109 u vd Lc N' X' hi110 hu108 hE kb => ?_) (fun u vd Lc ht107 hE => ?_)
      · skip
        have h0 := h0.trans hu108
        have hE := ls_step hi110 hE
        rcases Hg100_1 with hm0 | ⟨gg, oo, lc, rfl, hgc, hgl, hge⟩
        · omega
        have hy := hge i109 hi110
        have hyr := seg_rc hgc hgl hi110
        have hkk := hle i109 hi110
        refine cd_sq ?_
        refine ap_copy rfl rfl ?_
        refine at_cd ?_
        refine cd_sq ?_
        refine ap_idx (ez := 4) rfl Tryz.underlying159 tipub_kmsg_DescribeQuorumResponseNodeListener.size hi110 rfl rfl ?_
        refine at_cd ?_
        have hy := RE_part hy
        have hyr : RC t gg (oo + i109 * 4) _ := hyr
        generalize hyy : (els (ye99.at_ 1))[i109] = ye111 at *
        obtain ⟨fc112, mv112, hce112, hfl112, hTg112⟩ := hy
        simp only [F_sDescribeQuorumResponseNodeListener, RMl] at hfl112
        obtain ⟨x112_0, z112_0, e112_0, g112_0, x112_1, z112_1, e112_1, g112_1, x112_2, z112_2, e112_2, g112_2, hend112⟩ := hfl112
        obtain rfl := (RMf_str (by decide)).1 g112_0
        obtain rfl := (RMf_str (by decide)).1 g112_1
        obtain rfl := RMf_u16.1 g112_2
        subst hend112
        subst e112_2
        subst e112_1
        subst e112_0
        rw [hce112] at hyr
        simp only [List.cons_append, List.nil_append, List.append_assoc] at hyr
        obtain ⟨hfl, hfu113⟩ := (show okP F_sDescribeQuorumResponseNodeListener v q ye111 from hkk)
        obtain ⟨k114, hfl⟩ := okFl_cons hfl
        obtain ⟨k115, hfl⟩ := okFl_cons hfl
        obtain ⟨k116, hfl⟩ := okFl_cons hfl
        have hE := vt_open (by decide) hfu113 hE
        have hyr117 := hyr
        refine cd_sq ?_
        have hE := pl_all (by decide) (hasB_all hv0) hE
        have hkk := okV_get k114 (by decide) (hasB_all hv0)
        refine cd_sq ?_
        refine ap_load (off := 0) rfl Tryz.underlying175 rfl tistring.size rfl Tryz.underlying9 rfl (hyr117.mv h0 (by simp)) rfl rfl ?_
        refine at_cd ?_
        refine ap_flex rfl en_67 en_68 rfl rfl rfl rfl (fun hq u hu => by subst hq; rw [fieldB_s0 (by decide) (by decide) (by decide)]; exact as_cstr u _ (okV_s (by decide) (by decide) hkk (.inl rfl)).1) (fun hq u hu => by subst hq; rw [fieldB_s0 (by decide) (by decide) (by decide)]; exact as_str u _ (okV_s (by decide) (by decide) hkk (.inl rfl)).1) hE hB (fun u vd Lc ht118 hE => ?_)
        have h0 := h0.trans ht118
        refine at_sub (.cons (.skip rfl (.cons (.cons (.cons (.cons (.cons (.cons (.cons (.cons (.cons (.cons (.cons (.cons (.cons .rfl'))))))))))))))) ?_
        refine at_cd ?_
        refine cd_sq ?_
        have hE := pl_all (by decide) (hasB_all hv0) hE
        have hkk := okV_get k115 (by decide) (hasB_all hv0)
        refine cd_sq ?_
        refine ap_load (off := 1) rfl Tryz.underlying175 rfl tistring.size rfl Tryz.underlying9 rfl (hyr117.mv h0 (by simp)) rfl rfl ?_
        refine at_cd ?_
        refine ap_flex rfl en_67 en_68 rfl rfl rfl rfl (fun hq u hu => by subst hq; rw [fieldB_s0 (by decide) (by decide) (by decide)]; exact as_cstr u _ (okV_s (by decide) (by decide) hkk (.inl rfl)).1) (fun hq u hu => by subst hq; rw [fieldB_s0 (by decide) (by decide) (by decide)]; exact as_str u _ (okV_s (by decide) (by decide) hkk (.inl rfl)).1) hE hB (fun u vd Lc ht119 hE => ?_)
        have h0 := h0.trans ht119
        refine at_sub (.cons (.skip rfl (.cons (.cons (.cons (.cons (.cons (.cons (.cons (.cons (.cons (.cons (.cons (.cons (.cons .rfl'))))))))))))))) ?_
        refine at_cd ?_
        refine cd_sq ?_
        have hE := pl_all (by decide) (hasB_all hv0) hE
        have hkk := okV_get k116 (by decide) (hasB_all hv0)
        refine cd_sq ?_
        refine ap_load (off := 2) rfl Tryz.underlying175 rfl tiuint16.size rfl Tryz.underlying173 rfl (hyr117.mv h0 (by simp)) rfl rfl ?_
        refine at_cd ?_
        refine ap_call en_102 rfl rfl (fun u hu => by rw [fieldB_s0 (by decide) (by decide) (by decide)]; exact as_u16 u _ _ _) hE hB (fun u vd Lc ht120 hE => ?_)
        have h0 := h0.trans ht120
        refine at_sub (.cons (.skip rfl (.cons (.cons (.cons (.cons (.cons (.cons (.cons (.cons (.cons (.cons (.cons (.cons (.cons .rfl'))))))))))))))) ?_
        refine at_cd ?_
        have hE := pl_nil hE
        refine ap_tags (off := 3) rfl rfl Tryz.underlying175 rfl tipub_kmsg_Tags.size rfl (hyr117.mv h0 (by simp)) rfl (hTg112.mv h0) (fun h => (hfu113 h).2) rfl rfl rfl hE hB (fun u vd Lc ht121 hE => ?_)
        have h0 := h0.trans ht121
        exact at_sub (.cons (.skip rfl (.skip rfl (.cons (.cons (.cons (.cons (.cons (.cons (.cons (.cons (.cons (.cons (.cons .rfl')))))))))))))) (kb _ _ _ (((ht118.trans ht119).trans ht120).trans ht121) hE)
      have hE := ls_end hE
      have h0 := h0.trans ht107
      refine at_sub (.cons (.skip rfl (.cons (.cons (.cons (.cons (.cons (.cons (.cons (.cons .rfl')))))))))) ?_
      refine at_cd ?_
      have hE := pl_nil hE
      refine ap_tags (off := 2) rfl rfl Tryz.underlying161 rfl tipub_kmsg_Tags.size rfl (hyr104.mv h0 (by simp)) rfl (hTg100.mv h0) (fun h => (hfu101 h).2) rfl rfl rfl hE hB (fun u vd Lc ht122 hE => ?_)
      have h0 := h0.trans ht122
      exact at_sub (.cons (.skip rfl (.skip rfl (.cons (.cons (.cons (.cons (.cons (.cons .rfl'))))))))) (kb _ _ _ (((ht105.trans ht106).trans ht107).trans ht122) hE)
    have hE := ls_end hE
    have h0 := h0.trans ht95
    refine at_sub (.cons (.skip rfl (.cons (.cons (.cons .rfl'))))) ?_
    exact at_sub (.cons (.cons (.cons (.cons .rfl')))) (kk _ _ _ (ht94.trans ht95) hE)
  have h0 := h0.trans ht93
  refine at_cd ?_
  have hE := pl_nil hE
  refine cd_sq ?_
  refine ap_tags (off := 5) rfl rfl Tryz.underlying88 rfl tipub_kmsg_Tags.size rfl (hrc.mv h0 (by simp)) rfl (hTg1.mv h0) (fun h => (hfu h).2) rfl rfl rfl hE hB (fun u vd Lc ht123 hE => ?_)
  have h0 := h0.trans ht123
  refine at_cd ?_
  have hE : Lc = Full := by simpa using hE
  subst hE
  refine cd_rowone (i := 0) rfl (fun hone => ?_)
  refine cd_sr ?_
  refine ln_pv (pv_move rfl) rfl ?_
  refine ln_pv (pv_assign rfl) rfl ?_
  refine ln_cd ?_
  refine cd_ret ?_
  exact at_retT (i := 0) rfl rfl rfl (fun w hS => ⟨rfl, hone⟩)
end K
end Go.Proofs.YtmknncmdbmnmgabGreat
