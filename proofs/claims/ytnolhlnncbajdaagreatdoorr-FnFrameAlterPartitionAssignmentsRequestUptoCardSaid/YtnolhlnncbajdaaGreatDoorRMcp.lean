import Derived.Test.YtnolhlnncbajdaaGreatDoorRA8
import Derived.Test.YtnolhlnncbajdaaGreatDoorRMcs
set_option linter.unusedVariables false
set_option linter.unusedSimpArgs false
namespace Go.Proofs.YtnolhlnncbajdaaGreatDoorR
namespace K
open Go Go.Lib
theorem append_AlterPartitionAssignmentsRequest (t : Vw) (b : Nat) (v : Int) (y : Tre) (cells : List Value) (vd : Value) (L0 : List UInt8) (hrc : RC t b 0 (.int .i16 v :: cells)) (hM : RMp t F_AlterPartitionAssignmentsRequest y cells) (hfit : okP F_AlterPartitionAssignmentsRequest v (flexB 0 v) y) (h0 : 0 ≤ v) (h1 : v ≤ 1) (hB : (L0 ++ partB F_AlterPartitionAssignmentsRequest v (flexB 0 v) y).length ≤ 4398046511104) (hok : (OctRow vd L0).ok t.w) (hav : ∀ q ∈ (OctRow vd L0).blk, t.av q) : CT Tryz.prog 169 [.pointer (some ⟨b, 0, none⟩), vd] t (OctRow vd L0) fun _ r e' => e' = OctRow r (L0 ++ partB F_AlterPartitionAssignmentsRequest v (flexB 0 v) y) ∧ r.oneCell' = true := by
  have hv0 := h0
  clear h0
  obtain ⟨fc1, mv1, hce1, hfl1, hTg1⟩ := hM
  simp only [F_AlterPartitionAssignmentsRequest, RMl] at hfl1
  obtain ⟨x1_0, z1_0, e1_0, g1_0, x1_1, z1_1, e1_1, g1_1, x1_2, z1_2, e1_2, g1_2, hend1⟩ := hfl1
  obtain rfl := RMf_i32.1 g1_0
  obtain rfl := RMf_b.1 g1_1
  obtain ⟨_, rfl, Gg1_2⟩ := RMf_list.1 g1_2
  obtain ⟨ad1_2, cap1_2, rfl, hnil1_2, Hg1_2⟩ := Gg1_2.els
  subst hend1
  subst e1_2
  subst e1_1
  subst e1_0
  rw [hce1] at hrc
  simp only [List.cons_append, List.nil_append, List.append_assoc] at hrc
  obtain ⟨hfl, hfu⟩ := hfit
  obtain ⟨k2, hfl⟩ := okFl_cons hfl
  obtain ⟨k3, hfl⟩ := okFl_cons hfl
  obtain ⟨k4, hfl⟩ := okFl_cons hfl
  have hq0 : decide (v ≥ 0) = flexB 0 v := by simp [flexB]
  obtain ⟨Full, hFull⟩ : ∃ F : List UInt8, L0 ++ partB F_AlterPartitionAssignmentsRequest v (flexB 0 v) y = F := ⟨_, rfl⟩
  rw [hFull] at hB ⊢
  have hE : L0 ++ (partB F_AlterPartitionAssignmentsRequest v (flexB 0 v) y ++ []) = Full := by rw [List.append_nil]; exact hFull
  clear hFull
  generalize flexB 0 v = q at *
  have hE := pt_open (by decide) hfu hE
  refine ct_enter Tryz.func169 rfl Tryz.ntmps169 rfl hok hav (by simp only [Ent.blk]; cases vd.ownBlock <;> simp) ?_
  generalize L0 = Lc at *
  have h0 : Tr t t := Tr.refl t
  refine cd_sub_ (L' := [(1, vd), (0, .pointer (some ⟨b, 0, none⟩))]) (.put rfl (.put rfl .nil)) ?_
  refine cd_sq ?_
  refine ap_const rfl ?_
  refine at_sub (.skip rfl .rfl') ?_
  refine at_cd ?_
  refine cd_sq ?_
  refine ap_load0 rfl Tryz.underlying94 rfl tiint16.size rfl Tryz.underlying45 rfl (hrc.mv h0 (by simp)) rfl rfl ?_
  refine at_sub (.swap rfl) ?_
  refine at_cd ?_
  refine cd_sq ?_
  refine ap_blank rfl rfl ?_
  refine at_cd ?_
  refine cd_sq ?_
  refine ap_geqF rfl hq0 rfl ?_
  refine at_sub (.swap rfl) ?_
  refine at_cd ?_
  refine cd_sq ?_
  refine ap_blank rfl rfl ?_
  refine at_cd ?_
  refine cd_sq ?_
  have hE := pl_all (by decide) (hasB_all hv0) hE
  have hkk := okV_get k2 (by decide) (hasB_all hv0)
  refine cd_sq ?_
  refine ap_load (off := 1) rfl Tryz.underlying94 rfl tiint32.size rfl Tryz.underlying21 rfl (hrc.mv h0 (by simp)) rfl rfl ?_
  refine at_cd ?_
  refine ap_call en_90 rfl rfl (fun u hu => by rw [fieldB_s0 (by decide) (by decide) (by decide)]; exact as_i32 u _ _ _) hE hB (fun u vd Lc ht5 hE => ?_)
  have h0 := h0.trans ht5
  refine at_sub (.cons (.skip rfl (.cons (.cons (.cons .rfl'))))) ?_
  refine at_cd ?_
  refine cd_sq ?_
  have hE := pl_if (by decide) (hasB_from) hE
  refine ap_if rfl rfl hE (fun u vd Lc ht6 hE => ?_) (fun hva hE kk => ?_)
  rotate_left
  · skip
    have hkk := okV_get k3 (by decide) (by rw [hasB_from]; exact decide_eq_true hva)
    refine cd_sq ?_
    refine ap_load (off := 2) rfl Tryz.underlying94 rfl tibool.size rfl Tryz.underlying4 rfl (hrc.mv h0 (by simp)) rfl rfl ?_
    refine at_cd ?_
    refine ap_call en_173 rfl rfl (fun u hu => by rw [fieldB_s0 (by decide) (by decide) (by decide)]; exact as_b u _ _ _) hE hB (fun u vd Lc ht7 hE => ?_)
    have h0 := h0.trans ht7
    refine at_sub (.cons (.skip rfl (.cons (.cons (.cons .rfl'))))) ?_
    exact at_sub (.cons (.cons (.cons (.cons .rfl')))) (kk _ _ _ ht7 hE)
  have h0 := h0.trans ht6
  refine at_cd ?_
  refine cd_sq ?_
  have hE := pl_all (by decide) (hasB_all hv0) hE
  have hkk := okV_get k4 (by decide) (hasB_all hv0)
  refine cd_sq ?_
  refine ap_load (off := 3) rfl Tryz.underlying94 rfl tiSl_kmsg_AlterPartitionAssignmentsRequestTopic.size rfl Tryz.underlying92 rfl (hrc.mv h0 (by simp)) rfl rfl ?_
  refine at_cd ?_
  obtain ⟨hll, hlz, hle⟩ := okV_l hkk
  have hE := ls_open (by decide) hll hlz hE
  have hel := els_len hll
  refine cd_sq ?_
  refine ap_flexL (T' := 0) rfl en_128 en_129 Tryz.underlying92 rfl rfl rfl rfl (fun hq u hu => by subst hq; exact al_c u _ hel) (fun hq u hu => by subst hq; exact al_n u _ hel) hE hB (fun u vd Lc ht8 hE => ?_)
  have h0 := h0.trans ht8
  refine at_cd ?_
  refine ap_range (Tl := fun i => ((els (y.at_ 2)).drop i).flatMap (valueB 10 F_sAlterPartitionAssignmentsRequestTopic false v q)) Tryz.underlying92 rfl (by omega) rfl hE (fun i11 u vd Lc N' X' hi12 hu10 hE kb => ?_) (fun u vd Lc ht9 hE => ?_)
  · skip
    have h0 := h0.trans hu10
    have hE := ls_step hi12 hE
    rcases Hg1_2 with hm0 | ⟨gg, oo, lc, rfl, hgc, hgl, hge⟩
    · omega
    have hy := hge i11 hi12
    have hyr := seg_rc hgc hgl hi12
    have hkk := hle i11 hi12
    refine cd_sq ?_
    refine ap_copy rfl rfl ?_
    refine at_cd ?_
    refine cd_sq ?_
    refine ap_idx (ez := 3) rfl Tryz.underlying92 tipub_kmsg_AlterPartitionAssignmentsRequestTopic.size hi12 rfl rfl ?_
    refine at_cd ?_
    have hy := RE_part hy
    have hyr : RC t gg (oo + i11 * 3) _ := hyr
    generalize hyy : (els (y.at_ 2))[i11] = ye13 at *
    obtain ⟨fc14, mv14, hce14, hfl14, hTg14⟩ := hy
    simp only [F_sAlterPartitionAssignmentsRequestTopic, RMl] at hfl14
    obtain ⟨x14_0, z14_0, e14_0, g14_0, x14_1, z14_1, e14_1, g14_1, hend14⟩ := hfl14
    obtain rfl := (RMf_str (by decide)).1 g14_0
    obtain ⟨_, rfl, Gg14_1⟩ := RMf_list.1 g14_1
    obtain ⟨ad14_1, cap14_1, rfl, hnil14_1, Hg14_1⟩ := Gg14_1.els
    subst hend14
    subst e14_1
    subst e14_0
    rw [hce14] at hyr
    simp only [List.cons_append, List.nil_append, List.append_assoc] at hyr
    obtain ⟨hfl, hfu15⟩ := (show okP F_sAlterPartitionAssignmentsRequestTopic v q ye13 from hkk)
    obtain ⟨k16, hfl⟩ := okFl_cons hfl
    obtain ⟨k17, hfl⟩ := okFl_cons hfl
    have hE := vt_open (by decide) hfu15 hE
    have hyr18 := hyr
    refine cd_sq ?_
    have hE := pl_all (by decide) (hasB_all hv0) hE
    have hkk := okV_get k16 (by decide) (hasB_all hv0)
    refine cd_sq ?_
    refine ap_load (off := 0) rfl Tryz.underlying137 rfl tistring.size rfl Tryz.underlying9 rfl (hyr18.mv h0 (by simp)) rfl rfl ?_
    refine at_cd ?_
    refine ap_flex rfl en_127 en_104 rfl rfl rfl rfl (fun hq u hu => by subst hq; rw [fieldB_s0 (by decide) (by decide) (by decide)]; exact as_cstr u _ (okV_s (by decide) (by decide) hkk (.inl rfl)).1) (fun hq u hu => by subst hq; rw [fieldB_s0 (by decide) (by decide) (by decide)]; exact as_str u _ (okV_s (by decide) (by decide) hkk (.inl rfl)).1) hE hB (fun u vd Lc ht19 hE => ?_)
    have h0 := h0.trans ht19
    refine at_sub (.cons (.skip rfl (.cons (.cons (.cons (.cons (.cons (.cons (.cons (.cons .rfl')))))))))) ?_
    refine at_cd ?_
    refine cd_sq ?_
    have hE := pl_all (by decide) (hasB_all hv0) hE
    have hkk := okV_get k17 (by decide) (hasB_all hv0)
    refine cd_sq ?_
    refine ap_load (off := 1) rfl Tryz.underlying137 rfl tiSl_kmsg_AlterPartitionAssignmentsRequestTopicPartition.size rfl Tryz.underlying135 rfl (hyr18.mv h0 (by simp)) rfl rfl ?_
    refine at_cd ?_
    obtain ⟨hll, hlz, hle⟩ := okV_l hkk
    have hE := ls_open (by decide) hll hlz hE
    have hel := els_len hll
    refine cd_sq ?_
    refine ap_flexL (T' := 0) rfl en_128 en_129 Tryz.underlying135 rfl rfl rfl rfl (fun hq u hu => by subst hq; exact al_c u _ hel) (fun hq u hu => by subst hq; exact al_n u _ hel) hE hB (fun u vd Lc ht20 hE => ?_)
    have h0 := h0.trans ht20
    refine at_cd ?_
    refine ap_range (Tl := fun i => ((els (ye13.at_ 1)).drop i).flatMap (valueB 10 F_sAlterPartitionAssignmentsRequestTopicPartition false v q)) Tryz.underlying135 rfl (by omega) rfl hE (fun i23 u vd Lc N' X' hi24 hu22 hE kb => ?_) (fun u vd Lc ht21 hE => ?_)
    · skip
      have h0 := h0.trans hu22
      have hE := ls_step hi24 hE
      rcases Hg14_1 with hm0 | ⟨gg, oo, lc, rfl, hgc, hgl, hge⟩
      · omega
      have hy := hge i23 hi24
      have hyr := seg_rc hgc hgl hi24
      have hkk := hle i23 hi24
      refine cd_sq ?_
      refine ap_copy rfl rfl ?_
      refine at_cd ?_
      refine cd_sq ?_
      refine ap_idx (ez := 3) rfl Tryz.underlying135 tipub_kmsg_AlterPartitionAssignmentsRequestTopicPartition.size hi24 rfl rfl ?_
      refine at_cd ?_
      have hy := RE_part hy
      have hyr : RC t gg (oo + i23 * 3) _ := hyr
      generalize hyy : (els (ye13.at_ 1))[i23] = ye25 at *
      obtain ⟨fc26, mv26, hce26, hfl26, hTg26⟩ := hy
      simp only [F_sAlterPartitionAssignmentsRequestTopicPartition, RMl] at hfl26
      obtain ⟨x26_0, z26_0, e26_0, g26_0, x26_1, z26_1, e26_1, g26_1, hend26⟩ := hfl26
      obtain rfl := RMf_i32.1 g26_0
      obtain ⟨_, rfl, Gg26_1⟩ := RMf_list.1 g26_1
      obtain ⟨ad26_1, cap26_1, rfl, hnil26_1, Hg26_1⟩ := Gg26_1.els
      subst hend26
      subst e26_1
      subst e26_0
      rw [hce26] at hyr
      simp only [List.cons_append, List.nil_append, List.append_assoc] at hyr
      obtain ⟨hfl, hfu27⟩ := (show okP F_sAlterPartitionAssignmentsRequestTopicPartition v q ye25 from hkk)
      obtain ⟨k28, hfl⟩ := okFl_cons hfl
      obtain ⟨k29, hfl⟩ := okFl_cons hfl
      have hE := vt_open (by decide) hfu27 hE
      have hyr30 := hyr
      refine cd_sq ?_
      have hE := pl_all (by decide) (hasB_all hv0) hE
      have hkk := okV_get k28 (by decide) (hasB_all hv0)
      refine cd_sq ?_
      refine ap_load (off := 0) rfl Tryz.underlying141 rfl tiint32.size rfl Tryz.underlying21 rfl (hyr30.mv h0 (by simp)) rfl rfl ?_
      refine at_cd ?_
      refine ap_call en_90 rfl rfl (fun u hu => by rw [fieldB_s0 (by decide) (by decide) (by decide)]; exact as_i32 u _ _ _) hE hB (fun u vd Lc ht31 hE => ?_)
      have h0 := h0.trans ht31
      refine at_sub (.cons (.skip rfl (.cons (.cons (.cons (.cons (.cons (.cons (.cons (.cons (.cons (.cons (.cons (.cons (.cons .rfl'))))))))))))))) ?_
      refine at_cd ?_
      refine cd_sq ?_
      have hE := pl_all (by decide) (hasB_all hv0) hE
      have hkk := okV_get k29 (by decide) (hasB_all hv0)
      refine cd_sq ?_
      refine ap_load (off := 1) rfl Tryz.underlying141 rfl tiSl_int32.size rfl Tryz.underlying139 rfl (hyr30.mv h0 (by simp)) rfl rfl ?_
      refine at_cd ?_
      obtain ⟨hll, hlz, hle⟩ := okV_l hkk
      have hE := lz_open (by decide) (by omega) hll hE
      have hel := els_len hll
      refine cd_sq ?_
      refine ap_flexLN (T' := 0) rfl en_174 en_175 Tryz.underlying139 rfl hnil26_1 rfl rfl rfl (fun hq u hu => by subst hq; exact al_cz u _ _ hel) (fun hq u hu => by subst hq; exact al_nz u _ _ hel) hE hB (fun u vd Lc ht32 hE => ?_)
      have h0 := h0.trans ht32
      refine at_cd ?_
      refine ap_range (Tl := fun i => ((els (ye25.at_ 1)).drop i).flatMap (valueB 3 [] false v q)) Tryz.underlying139 rfl (by omega) rfl hE (fun i35 u vd Lc N' X' hi36 hu34 hE kb => ?_) (fun u vd Lc ht33 hE => ?_)
      · skip
        have h0 := h0.trans hu34
        have hE := ls_step hi36 hE
        rcases Hg26_1 with hm0 | ⟨gg, oo, lc, rfl, hgc, hgl, hge⟩
        · omega
        have hy := hge i35 hi36
        have hyr := seg_rc hgc hgl hi36
        have hkk := hle i35 hi36
        refine cd_sq ?_
        refine ap_copy rfl rfl ?_
        refine at_cd ?_
        have hy := RE_i32 hy
        have hyr : RC t gg (oo + i35 * 1) _ := hyr
        rw [show seg lc i35 _ = _ from hy] at hyr
        refine cd_sq ?_
        refine ap_idxS rfl Tryz.underlying139 tiint32.size hi36 rfl Tryz.underlying21 rfl (hyr.mv h0 (by simp)) rfl ?_
        refine at_cd ?_
        refine ap_call en_90 rfl rfl (fun u hu => by rw [val_sc (by decide)]; exact as_i32 u _ _ _) hE hB (fun u vd Lc ht38 hE => ?_)
        have h0 := h0.trans ht38
        exact at_sub (.cons (.skip rfl (.skip rfl (.cons (.cons (.cons (.cons (.cons (.cons (.cons (.cons (.cons (.cons (.cons (.cons (.cons (.cons (.cons (.cons .rfl'))))))))))))))))))) (kb _ _ _ ht38 hE)
      have hE := ls_end hE
      have h0 := h0.trans ht33
      refine at_sub (.cons (.skip rfl (.cons (.cons (.cons (.cons (.cons (.cons (.cons (.cons (.cons (.cons (.cons (.cons (.cons .rfl'))))))))))))))) ?_
      refine at_cd ?_
      have hE := pl_nil hE
      refine ap_tags (off := 2) rfl rfl Tryz.underlying141 rfl tipub_kmsg_Tags.size rfl (hyr30.mv h0 (by simp)) rfl (hTg26.mv h0) (fun h => (hfu27 h).2) rfl rfl rfl hE hB (fun u vd Lc ht39 hE => ?_)
      have h0 := h0.trans ht39
      exact at_sub (.cons (.skip rfl (.skip rfl (.cons (.cons (.cons (.cons (.cons (.cons (.cons (.cons (.cons (.cons (.cons .rfl')))))))))))))) (kb _ _ _ (((ht31.trans ht32).trans ht33).trans ht39) hE)
    have hE := ls_end hE
    have h0 := h0.trans ht21
    refine at_sub (.cons (.skip rfl (.cons (.cons (.cons (.cons (.cons (.cons (.cons (.cons .rfl')))))))))) ?_
    refine at_cd ?_
    have hE := pl_nil hE
    refine ap_tags (off := 2) rfl rfl Tryz.underlying137 rfl tipub_kmsg_Tags.size rfl (hyr18.mv h0 (by simp)) rfl (hTg14.mv h0) (fun h => (hfu15 h).2) rfl rfl rfl hE hB (fun u vd Lc ht40 hE => ?_)
    have h0 := h0.trans ht40
    exact at_sub (.cons (.skip rfl (.skip rfl (.cons (.cons (.cons (.cons (.cons (.cons .rfl'))))))))) (kb _ _ _ (((ht19.trans ht20).trans ht21).trans ht40) hE)
  have hE := ls_end hE
  have h0 := h0.trans ht9
  refine at_sub (.cons (.skip rfl (.cons (.cons (.cons .rfl'))))) ?_
  refine at_cd ?_
  have hE := pl_nil hE
  refine cd_sq ?_
  refine ap_tags (off := 4) rfl rfl Tryz.underlying94 rfl tipub_kmsg_Tags.size rfl (hrc.mv h0 (by simp)) rfl (hTg1.mv h0) (fun h => (hfu h).2) rfl rfl rfl hE hB (fun u vd Lc ht41 hE => ?_)
  have h0 := h0.trans ht41
  refine at_cd ?_
  have hE : Lc = Full := by simpa using hE
  subst hE
  refine cd_rowone (i := 0) rfl (fun hone => ?_)
  refine cd_sr ?_
  refine ln_pv (pv_move rfl) rfl ?_
  refine ln_pv (pv_assign rfl) rfl ?_
  refine ln_cd ?_
  refine cd_ret ?_
  exact at_retT (i := 0) rfl rfl rfl (fun w hS => ⟨rfl, hone⟩)
end K
end Go.Proofs.YtnolhlnncbajdaaGreatDoorR
