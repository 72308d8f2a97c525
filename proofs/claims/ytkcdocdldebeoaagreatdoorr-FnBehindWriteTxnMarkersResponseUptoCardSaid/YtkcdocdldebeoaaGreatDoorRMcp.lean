import Derived.Test.YtkcdocdldebeoaaGreatDoorRA8
import Derived.Test.YtkcdocdldebeoaaGreatDoorRMcs
set_option linter.unusedVariables false
set_option linter.unusedSimpArgs false
namespace Go.Proofs.YtkcdocdldebeoaaGreatDoorR
namespace K
open Go Go.Lib
theorem append_WriteTxnMarkersResponse (t : Vw) (b : Nat) (v : Int) (y : Tre) (cells : List Value) (vd : Value) (L0 : List UInt8) (hrc : RC t b 0 (.int .i16 v :: cells)) (hM : RMp t F_WriteTxnMarkersResponse y cells) (hfit : okP F_WriteTxnMarkersResponse v (flexB 1 v) y) (h0 : 0 ≤ v) (h1 : v ≤ 2) (hB : (L0 ++ partB F_WriteTxnMarkersResponse v (flexB 1 v) y).length ≤ 4398046511104) (hok : (OctRow vd L0).ok t.w) (hav : ∀ q ∈ (OctRow vd L0).blk, t.av q) : CT Tryz.prog 82 [.pointer (some ⟨b, 0, none⟩), vd] t (OctRow vd L0) fun _ r e' => e' = OctRow r (L0 ++ partB F_WriteTxnMarkersResponse v (flexB 1 v) y) ∧ r.oneCell' = true := by
  have hv0 := h0
  clear h0
  obtain ⟨fc1, mv1, hce1, hfl1, hTg1⟩ := hM
  simp only [F_WriteTxnMarkersResponse, RMl] at hfl1
  obtain ⟨x1_0, z1_0, e1_0, g1_0, hend1⟩ := hfl1
  obtain ⟨_, rfl, Gg1_0⟩ := RMf_list.1 g1_0
  obtain ⟨ad1_0, cap1_0, rfl, hnil1_0, Hg1_0⟩ := Gg1_0.els
  subst hend1
  subst e1_0
  rw [hce1] at hrc
  simp only [List.cons_append, List.nil_append, List.append_assoc] at hrc
  obtain ⟨hfl, hfu⟩ := hfit
  obtain ⟨k2, hfl⟩ := okFl_cons hfl
  have hq0 : decide (v ≥ 1) = flexB 1 v := by simp [flexB]
  obtain ⟨Full, hFull⟩ : ∃ F : List UInt8, L0 ++ partB F_WriteTxnMarkersResponse v (flexB 1 v) y = F := ⟨_, rfl⟩
  rw [hFull] at hB ⊢
  have hE : L0 ++ (partB F_WriteTxnMarkersResponse v (flexB 1 v) y ++ []) = Full := by rw [List.append_nil]; exact hFull
  clear hFull
  generalize flexB 1 v = q at *
  have hE := pt_open (by decide) hfu hE
  refine ct_enter Tryz.func82 rfl Tryz.ntmps82 rfl hok hav (by simp only [Ent.blk]; cases vd.ownBlock <;> simp) ?_
  generalize L0 = Lc at *
  have h0 : Tr t t := Tr.refl t
  refine cd_sub_ (L' := [(1, vd), (0, .pointer (some ⟨b, 0, none⟩))]) (.put rfl (.put rfl .nil)) ?_
  refine cd_sq ?_
  refine ap_const rfl ?_
  refine at_sub (.skip rfl .rfl') ?_
  refine at_cd ?_
  refine cd_sq ?_
  refine ap_load0 rfl Tryz.underlying151 rfl tiint16.size rfl Tryz.underlying49 rfl (hrc.mv h0 (by simp)) rfl rfl ?_
  refine at_sub (.swap rfl) ?_
  refine at_cd ?_
  refine cd_sq ?_
  refine ap_blank rfl rfl ?_
  refine at_cd ?_
  refine cd_sq ?_
  refine ap_geqF rfl hq0 rfl ?_
  refine at_sub (.swap rfl) ?_
  refine at_cd ?_
  refine cd_sq ?_
  refine ap_blank rfl rfl ?_
  refine at_cd ?_
  refine cd_sq ?_
  have hE := pl_all (by decide) (hasB_all hv0) hE
  have hkk := okV_get k2 (by decide) (hasB_all hv0)
  refine cd_sq ?_
  refine ap_load (off := 1) rfl Tryz.underlying151 rfl tiSl_kmsg_WriteTxnMarkersResponseMarker.size rfl Tryz.underlying149 rfl (hrc.mv h0 (by simp)) rfl rfl ?_
  refine at_cd ?_
  obtain ⟨hll, hlz, hle⟩ := okV_l hkk
  have hE := ls_open (by decide) hll hlz hE
  have hel := els_len hll
  refine cd_sq ?_
  refine ap_flexL (T' := 0) rfl en_124 en_125 Tryz.underlying149 rfl rfl rfl rfl (fun hq u hu => by subst hq; exact al_c u _ hel) (fun hq u hu => by subst hq; exact al_n u _ hel) hE hB (fun u vd Lc ht3 hE => ?_)
  have h0 := h0.trans ht3
  refine at_cd ?_
  refine ap_range (Tl := fun i => ((els (y.at_ 0)).drop i).flatMap (valueB 10 F_sWriteTxnMarkersResponseMarker false v q)) Tryz.underlying149 rfl (by omega) rfl hE (fun i6 u vd Lc N' X' hi7 hu5 hE kb => ?_) (fun u vd Lc ht4 hE => ?_)
  · skip
    have h0 := h0.trans hu5
    have hE := ls_step hi7 hE
    rcases Hg1_0 with hm0 | ⟨gg, oo, lc, rfl, hgc, hgl, hge⟩
    · omega
    have hy := hge i6 hi7
    have hyr := seg_rc hgc hgl hi7
    have hkk := hle i6 hi7
    refine cd_sq ?_
    refine ap_copy rfl rfl ?_
    refine at_cd ?_
    refine cd_sq ?_
    refine ap_idx (ez := 3) rfl Tryz.underlying149 tipub_kmsg_WriteTxnMarkersResponseMarker.size hi7 rfl rfl ?_
    refine at_cd ?_
    have hy := RE_part hy
    have hyr : RC t gg (oo + i6 * 3) _ := hyr
    generalize hyy : (els (y.at_ 0))[i6] = ye8 at *
    obtain ⟨fc9, mv9, hce9, hfl9, hTg9⟩ := hy
    simp only [F_sWriteTxnMarkersResponseMarker, RMl] at hfl9
    obtain ⟨x9_0, z9_0, e9_0, g9_0, x9_1, z9_1, e9_1, g9_1, hend9⟩ := hfl9
    obtain ⟨rfl, hI9_0⟩ := RMf_i64.1 g9_0
    obtain ⟨_, rfl, Gg9_1⟩ := RMf_list.1 g9_1
    obtain ⟨ad9_1, cap9_1, rfl, hnil9_1, Hg9_1⟩ := Gg9_1.els
    subst hend9
    subst e9_1
    subst e9_0
    rw [hce9] at hyr
    simp only [List.cons_append, List.nil_append, List.append_assoc] at hyr
    obtain ⟨hfl, hfu10⟩ := (show okP F_sWriteTxnMarkersResponseMarker v q ye8 from hkk)
    obtain ⟨k11, hfl⟩ := okFl_cons hfl
    obtain ⟨k12, hfl⟩ := okFl_cons hfl
    have hE := vt_open (by decide) hfu10 hE
    have hyr13 := hyr
    refine cd_sq ?_
    have hE := pl_all (by decide) (hasB_all hv0) hE
    have hkk := okV_get k11 (by decide) (hasB_all hv0)
    refine cd_sq ?_
    refine ap_load (off := 0) rfl Tryz.underlying155 rfl tiint64.size rfl Tryz.underlying2 rfl (hyr13.mv h0 (by simp)) rfl rfl ?_
    refine at_cd ?_
    refine ap_call en_134 rfl rfl (fun u hu => by rw [fieldB_s0 (by decide) (by decide) (by decide)]; exact as_i64 u _ _ _) hE hB (fun u vd Lc ht14 hE => ?_)
    have h0 := h0.trans ht14
    refine at_sub (.cons (.skip rfl (.cons (.cons (.cons (.cons (.cons (.cons (.cons (.cons .rfl')))))))))) ?_
    refine at_cd ?_
    refine cd_sq ?_
    have hE := pl_all (by decide) (hasB_all hv0) hE
    have hkk := okV_get k12 (by decide) (hasB_all hv0)
    refine cd_sq ?_
    refine ap_load (off := 1) rfl Tryz.underlying155 rfl tiSl_kmsg_WriteTxnMarkersResponseMarkerTopic.size rfl Tryz.underlying153 rfl (hyr13.mv h0 (by simp)) rfl rfl ?_
    refine at_cd ?_
    obtain ⟨hll, hlz, hle⟩ := okV_l hkk
    have hE := ls_open (by decide) hll hlz hE
    have hel := els_len hll
    refine cd_sq ?_
    refine ap_flexL (T' := 0) rfl en_124 en_125 Tryz.underlying153 rfl rfl rfl rfl (fun hq u hu => by subst hq; exact al_c u _ hel) (fun hq u hu => by subst hq; exact al_n u _ hel) hE hB (fun u vd Lc ht15 hE => ?_)
    have h0 := h0.trans ht15
    refine at_cd ?_
    refine ap_range (Tl := fun i => ((els (ye8.at_ 1)).drop i).flatMap (valueB 10 F_sWriteTxnMarkersResponseMarkerTopic false v q)) Tryz.underlying153 rfl (by omega) rfl hE (fun i18 u vd Lc N' X' hi19 hu17 hE kb => ?_) (fun u vd Lc ht16 hE => ?_)
    · skip
      have h0 := h0.trans hu17
      have hE := ls_step hi19 hE
      rcases Hg9_1 with hm0 | ⟨gg, oo, lc, rfl, hgc, hgl, hge⟩
      · omega
      have hy := hge i18 hi19
      have hyr := seg_rc hgc hgl hi19
      have hkk := hle i18 hi19
      refine cd_sq ?_
      refine ap_copy rfl rfl ?_
      refine at_cd ?_
      refine cd_sq ?_
      refine ap_idx (ez := 3) rfl Tryz.underlying153 tipub_kmsg_WriteTxnMarkersResponseMarkerTopic.size hi19 rfl rfl ?_
      refine at_cd ?_
      have hy := RE_part hy
      have hyr : RC t gg (oo + i18 * 3) _ := hyr
      generalize hyy : (els (ye8.at_ 1))[i18] = ye20 at *
      obtain ⟨fc21, mv21, hce21, hfl21, hTg21⟩ := hy
      simp only [F_sWriteTxnMarkersResponseMarkerTopic, RMl] at hfl21
      obtain ⟨x21_0, z21_0, e21_0, g21_0, x21_1, z21_1, e21_1, g21_1, hend21⟩ := hfl21
      obtain rfl := (RMf_str (by decide)).1 g21_0
      obtain ⟨_, rfl, Gg21_1⟩ := RMf_list.1 g21_1
      obtain ⟨ad21_1, cap21_1, rfl, hnil21_1, Hg21_1⟩ := Gg21_1.els
      subst hend21
      subst e21_1
      subst e21_0
      rw [hce21] at hyr
      simp only [List.cons_append, List.nil_append, List.append_assoc] at hyr
      obtain ⟨hfl, hfu22⟩ := (show okP F_sWriteTxnMarkersResponseMarkerTopic v q ye20 from hkk)
      obtain ⟨k23, hfl⟩ := okFl_cons hfl
      obtain ⟨k24, hfl⟩ := okFl_cons hfl
      have hE := vt_open (by decide) hfu22 hE
      have hyr25 := hyr
      refine cd_sq ?_
      have hE := pl_all (by decide) (hasB_all hv0) hE
      have hkk := okV_get k23 (by decide) (hasB_all hv0)
      refine cd_sq ?_
      refine ap_load (off := 0) rfl Tryz.underlying159 rfl tistring.size rfl Tryz.underlying9 rfl (hyr25.mv h0 (by simp)) rfl rfl ?_
      refine at_cd ?_
      refine ap_flex rfl en_112 en_113 rfl rfl rfl rfl (fun hq u hu => by subst hq; rw [fieldB_s0 (by decide) (by decide) (by decide)]; exact as_cstr u _ (okV_s (by decide) (by decide) hkk (.inl rfl)).1) (fun hq u hu => by subst hq; rw [fieldB_s0 (by decide) (by decide) (by decide)]; exact as_str u _ (okV_s (by decide) (by decide) hkk (.inl rfl)).1) hE hB (fun u vd Lc ht26 hE => ?_)
      have h0 := h0.trans ht26
      refine at_sub (.cons (.skip rfl (.cons (.cons (.cons (.cons (.cons (.cons (.cons (.cons (.cons (.cons (.cons (.cons (.cons .rfl'))))))))))))))) ?_
      refine at_cd ?_
      refine cd_sq ?_
      have hE := pl_all (by decide) (hasB_all hv0) hE
      have hkk := okV_get k24 (by decide) (hasB_all hv0)
      refine cd_sq ?_
      refine ap_load (off := 1) rfl Tryz.underlying159 rfl tiSl_kmsg_WriteTxnMarkersResponseMarkerTopicPartition.size rfl Tryz.underlying157 rfl (hyr25.mv h0 (by simp)) rfl rfl ?_
      refine at_cd ?_
      obtain ⟨hll, hlz, hle⟩ := okV_l hkk
      have hE := ls_open (by decide) hll hlz hE
      have hel := els_len hll
      refine cd_sq ?_
      refine ap_flexL (T' := 0) rfl en_124 en_125 Tryz.underlying157 rfl rfl rfl rfl (fun hq u hu => by subst hq; exact al_c u _ hel) (fun hq u hu => by subst hq; exact al_n u _ hel) hE hB (fun u vd Lc ht27 hE => ?_)
      have h0 := h0.trans ht27
      refine at_cd ?_
      refine ap_range (Tl := fun i => ((els (ye20.at_ 1)).drop i).flatMap (valueB 10 F_sWriteTxnMarkersResponseMarkerTopicPartition false v q)) Tryz.underlying157 rfl (by omega) rfl hE (fun i30 u vd Lc N' X' hi31 hu29 hE kb => ?_) (fun u vd Lc ht28 hE => ?_)
      · skip
        have h0 := h0.trans hu29
        have hE := ls_step hi31 hE
        rcases Hg21_1 with hm0 | ⟨gg, oo, lc, rfl, hgc, hgl, hge⟩
        · omega
        have hy := hge i30 hi31
        have hyr := seg_rc hgc hgl hi31
        have hkk := hle i30 hi31
        refine cd_sq ?_
        refine ap_copy rfl rfl ?_
        refine at_cd ?_
        refine cd_sq ?_
        refine ap_idx (ez := 3) rfl Tryz.underlying157 tipub_kmsg_WriteTxnMarkersResponseMarkerTopicPartition.size hi31 rfl rfl ?_
        refine at_cd ?_
        have hy := RE_part hy
        have hyr : RC t gg (oo + i30 * 3) _ := hyr
        generalize hyy : (els (ye20.at_ 1))[i30] = ye32 at *
        obtain ⟨fc33, mv33, hce33, hfl33, hTg33⟩ := hy
        simp only [F_sWriteTxnMarkersResponseMarkerTopicPartition, RMl] at hfl33
        obtain ⟨x33_0, z33_0, e33_0, g33_0, x33_1, z33_1, e33_1, g33_1, hend33⟩ := hfl33
        obtain rfl := RMf_i32.1 g33_0
        obtain rfl := RMf_i16.1 g33_1
        subst hend33
        subst e33_1
        subst e33_0
        rw [hce33] at hyr
        simp only [List.cons_append, List.nil_append, List.append_assoc] at hyr
        obtain ⟨hfl, hfu34⟩ := (show okP F_sWriteTxnMarkersResponseMarkerTopicPartition v q ye32 from hkk)
        obtain ⟨k35, hfl⟩ := okFl_cons hfl
        obtain ⟨k36, hfl⟩ := okFl_cons hfl
        have hE := vt_open (by decide) hfu34 hE
        have hyr37 := hyr
        refine cd_sq ?_
        have hE := pl_all (by decide) (hasB_all hv0) hE
        have hkk := okV_get k35 (by decide) (hasB_all hv0)
        refine cd_sq ?_
        refine ap_load (off := 0) rfl Tryz.underlying162 rfl tiint32.size rfl Tryz.underlying21 rfl (hyr37.mv h0 (by simp)) rfl rfl ?_
        refine at_cd ?_
        refine ap_call en_105 rfl rfl (fun u hu => by rw [fieldB_s0 (by decide) (by decide) (by decide)]; exact as_i32 u _ _ _) hE hB (fun u vd Lc ht38 hE => ?_)
        have h0 := h0.trans ht38
        refine at_sub (.cons (.skip rfl (.cons (.cons (.cons (.cons (.cons (.cons (.cons (.cons (.cons (.cons (.cons (.cons (.cons (.cons (.cons (.cons (.cons (.cons .rfl')))))))))))))))))))) ?_
        refine at_cd ?_
        refine cd_sq ?_
        have hE := pl_all (by decide) (hasB_all hv0) hE
        have hkk := okV_get k36 (by decide) (hasB_all hv0)
        refine cd_sq ?_
        refine ap_load (off := 1) rfl Tryz.underlying162 rfl tiint16.size rfl Tryz.underlying49 rfl (hyr37.mv h0 (by simp)) rfl rfl ?_
        refine at_cd ?_
        refine ap_call en_106 rfl rfl (fun u hu => by rw [fieldB_s0 (by decide) (by decide) (by decide)]; exact as_i16 u _ _ _) hE hB (fun u vd Lc ht39 hE => ?_)
        have h0 := h0.trans ht39
        refine at_sub (.cons (.skip rfl (.cons (.cons (.cons (.cons (.cons (.cons (.cons (.cons (.cons (.cons (.cons (.cons (.cons (.cons (.cons (.cons (.cons (.cons .rfl')))))))))))))))))))) ?_
        refine at_cd ?_
        have hE := pl_nil hE
        refine ap_tags (off := 2) rfl rfl Tryz.underlying162 rfl tipub_kmsg_Tags.size rfl (hyr37.mv h0 (by simp)) rfl (hTg33.mv h0) (fun h => (hfu34 h).2) rfl rfl rfl hE hB (fun u vd Lc ht40 hE => ?_)
        have h0 := h0.trans ht40
        exact at_sub (.cons (.skip rfl (.skip rfl (.cons (.cons (.cons (.cons (.cons (.cons (.cons (.cons (.cons (.cons (.cons (.cons (.cons (.cons (.cons (.cons .rfl'))))))))))))))))))) (kb _ _ _ ((ht38.trans ht39).trans ht40) hE)
      have hE := ls_end hE
      have h0 := h0.trans ht28
      refine at_sub (.cons (.skip rfl (.cons (.cons (.cons (.cons (.cons (.cons (.cons (.cons (.cons (.cons (.cons (.cons (.cons .rfl'))))))))))))))) ?_
      refine at_cd ?_
      have hE := pl_nil hE
      refine ap_tags (off := 2) rfl rfl Tryz.underlying159 rfl tipub_kmsg_Tags.size rfl (hyr25.mv h0 (by simp)) rfl (hTg21.mv h0) (fun h => (hfu22 h).2) rfl rfl rfl hE hB (fun u vd Lc ht41 hE => ?_)
      have h0 := h0.trans ht41
      exact at_sub (.cons (.skip rfl (.skip rfl (.cons (.cons (.cons (.cons (.cons (.cons (.cons (.cons (.cons (.cons (.cons .rfl')))))))))))))) (kb _ _ _ (((ht26.trans ht27).trans ht28).trans ht41) hE)
    have hE := ls_end hE
    have h0 := h0.trans ht16
    refine at_sub (.cons (.skip rfl (.cons (.cons (.cons (.cons (.cons (.cons (.cons (.cons .rfl')))))))))) ?_
    refine at_cd ?_
    have hE := pl_nil hE
    refine ap_tags (off := 2) rfl rfl Tryz.underlying155 rfl tipub_kmsg_Tags.size rfl (hyr13.mv h0 (by simp)) rfl (hTg9.mv h0) (fun h => (hfu10 h).2) rfl rfl rfl hE hB (fun u vd Lc ht42 hE => ?_)
    have h0 := h0.trans ht42
    exact at_sub (.cons (.skip rfl (.skip rfl (.cons (.cons (.cons (.cons (.cons (.cons .rfl'))))))))) (kb _ _ _ (((ht14.trans ht15).trans ht16).trans ht42) hE)
  have hE := ls_end hE
  have h0 := h0.trans ht4
  refine at_sub (.cons (.skip rfl (.cons (.cons (.cons .rfl'))))) ?_
  refine at_cd ?_
  have hE := pl_nil hE
  refine cd_sq ?_
  refine ap_tags (off := 2) rfl rfl Tryz.underlying151 rfl tipub_kmsg_Tags.size rfl (hrc.mv h0 (by simp)) rfl (hTg1.mv h0) (fun h => (hfu h).2) rfl rfl rfl hE hB (fun u vd Lc ht43 hE => ?_)
  have h0 := h0.trans ht43
  refine at_cd ?_
  have hE : Lc = Full := by simpa using hE
  subst hE
  refine cd_rowone (i := 0) rfl (fun hone => ?_)
  refine cd_sr ?_
  refine ln_pv (pv_move rfl) rfl ?_
  refine ln_pv (pv_assign rfl) rfl ?_
  refine ln_cd ?_
  refine cd_ret ?_
  exact at_retT (i := 0) rfl rfl rfl (fun w hS => ⟨rfl, hone⟩)
end K
end Go.Proofs.YtkcdocdldebeoaaGreatDoorR
