import Derived.Test.YtmknncmdbmnmgabGreatA8
import Derived.Test.YtmknncmdbmnmgabGreatMas
set_option linter.unusedVariables false
set_option linter.unusedSimpArgs false
namespace Go.Proofs.YtmknncmdbmnmgabGreat
namespace K
open Go Go.Lib
theorem append_FetchSnapshotRequest (t : Vw) (b : Nat) (v : Int) (y : Tre) (cells : List Value) (vd : Value) (L0 : List UInt8) (hrc : RC t b 0 (.int .i16 v :: cells)) (hM : RMp t F_FetchSnapshotRequest y cells) (hfit : okP F_FetchSnapshotRequest v (flexB 0 v) y) (h0 : 0 ≤ v) (h1 : v ≤ 1) (hB : (L0 ++ partB F_FetchSnapshotRequest v (flexB 0 v) y).length ≤ 4398046511104) (hok : (OctRow vd L0).ok t.w) (hav : ∀ q ∈ (OctRow vd L0).blk, t.av q) : CT Tryz.prog 31 [.pointer (some ⟨b, 0, none⟩), vd] t (OctRow vd L0) fun _ r e' => e' = OctRow r (L0 ++ partB F_FetchSnapshotRequest v (flexB 0 v) y) ∧ r.oneCell' = true := by
  have hv0 := h0
  clear h0
  obtain ⟨fc1, mv1, hce1, hfl1, hTg1⟩ := hM
  simp only [F_FetchSnapshotRequest, RMl] at hfl1
  obtain ⟨x1_0, z1_0, e1_0, g1_0, x1_1, z1_1, e1_1, g1_1, x1_2, z1_2, e1_2, g1_2, x1_3, z1_3, e1_3, g1_3, hend1⟩ := hfl1
  obtain ⟨d1_0, rfl, Gg1_0⟩ := (RMf_txt (by decide)).1 g1_0
  obtain rfl := RMf_i32.1 g1_1
  obtain rfl := RMf_i32.1 g1_2
  obtain ⟨_, rfl, Gg1_3⟩ := RMf_list.1 g1_3
  obtain ⟨ad1_3, cap1_3, rfl, hnil1_3, Hg1_3⟩ := Gg1_3.els
  subst hend1
  subst e1_3
  subst e1_2
  subst e1_1
  subst e1_0
  rw [hce1] at hrc
  simp only [List.cons_append, List.nil_append, List.append_assoc] at hrc
  obtain ⟨hfl, hfu⟩ := hfit
  obtain ⟨k2, hfl⟩ := okFl_cons hfl
  obtain ⟨k3, hfl⟩ := okFl_cons hfl
  obtain ⟨k4, hfl⟩ := okFl_cons hfl
  obtain ⟨k5, hfl⟩ := okFl_cons hfl
  have hq0 : decide (v ≥ 0) = flexB 0 v := by simp [flexB]
  obtain ⟨Full, hFull⟩ : ∃ F : List UInt8, L0 ++ partB F_FetchSnapshotRequest v (flexB 0 v) y = F := ⟨_, rfl⟩
  rw [hFull] at hB ⊢
  have hE : L0 ++ (partB F_FetchSnapshotRequest v (flexB 0 v) y ++ []) = Full := by rw [List.append_nil]; exact hFull
  clear hFull
  generalize flexB 0 v = q at *
  have hE := pt_open1 (by decide) hfu (tgf_here (by decide) ((tgf_skip (by decide)).trans ((tgf_skip (by decide)).trans ((tgf_skip (by decide)).trans tgf_nil)))) hE
  refine ct_enter Tryz.func31 rfl Tryz.ntmps31 rfl hok hav (by simp only [Ent.blk]; cases vd.ownBlock <;> simp) ?_
  generalize L0 = Lc at *
  have h0 : Tr t t := Tr.refl t
  refine cd_sub_ (L' := [(1, vd), (0, .pointer (some ⟨b, 0, none⟩))]) (.put rfl (.put rfl .nil)) ?_
  refine cd_sq ?_
  refine ap_const rfl ?_
  refine at_sub (.skip rfl .rfl') ?_
  refine at_cd ?_
  refine cd_sq ?_
  refine ap_load0 rfl Tryz.underlying58 rfl tiint16.size rfl Tryz.underlying45 rfl (hrc.mv h0 (by simp)) rfl rfl ?_
  refine at_sub (.swap rfl) ?_
  refine at_cd ?_
  refine cd_sq ?_
  refine ap_blank rfl rfl ?_
  refine at_cd ?_
  refine cd_sq ?_
  refine ap_geqF rfl hq0 rfl ?_
  refine at_sub (.swap rfl) ?_
  refine at_cd ?_
  refine cd_sq ?_
  refine ap_blank rfl rfl ?_
  refine at_cd ?_
  have hE := pl_tag (by decide) hE
  refine cd_sq ?_
  have hE := pl_all (by decide) (hasB_all hv0) hE
  have hkk := okV_get k3 (by decide) (hasB_all hv0)
  refine cd_sq ?_
  refine ap_load (off := 2) rfl Tryz.underlying58 rfl tiint32.size rfl Tryz.underlying21 rfl (hrc.mv h0 (by simp)) rfl rfl ?_
  refine at_cd ?_
  refine ap_call en_64 rfl rfl (fun u hu => by rw [fieldB_s0 (by decide) (by decide) (by decide)]; exact as_i32 u _ _ _) hE hB (fun u vd Lc ht6 hE => ?_)
  have h0 := h0.trans ht6
  refine at_sub (.cons (.skip rfl (.cons (.cons (.cons .rfl'))))) ?_
  refine at_cd ?_
  refine cd_sq ?_
  have hE := pl_all (by decide) (hasB_all hv0) hE
  have hkk := okV_get k4 (by decide) (hasB_all hv0)
  refine cd_sq ?_
  refine ap_load (off := 3) rfl Tryz.underlying58 rfl tiint32.size rfl Tryz.underlying21 rfl (hrc.mv h0 (by simp)) rfl rfl ?_
  refine at_cd ?_
  refine ap_call en_64 rfl rfl (fun u hu => by rw [fieldB_s0 (by decide) (by decide) (by decide)]; exact as_i32 u _ _ _) hE hB (fun u vd Lc ht7 hE => ?_)
  have h0 := h0.trans ht7
  refine at_sub (.cons (.skip rfl (.cons (.cons (.cons .rfl'))))) ?_
  refine at_cd ?_
  refine cd_sq ?_
  have hE := pl_all (by decide) (hasB_all hv0) hE
  have hkk := okV_get k5 (by decide) (hasB_all hv0)
  refine cd_sq ?_
  refine ap_load (off := 4) rfl Tryz.underlying58 rfl tiSl_kmsg_FetchSnapshotRequestTopic.size rfl Tryz.underlying53 rfl (hrc.mv h0 (by simp)) rfl rfl ?_
  refine at_cd ?_
  obtain ⟨hll, hlz, hle⟩ := okV_l hkk
  have hE := ls_open (by decide) hll hlz hE
  have hel := els_len hll
  refine cd_sq ?_
  refine ap_flexL (T' := 0) rfl en_65 en_66 Tryz.underlying53 rfl rfl rfl rfl (fun hq u hu => by subst hq; exact al_c u _ hel) (fun hq u hu => by subst hq; exact al_n u _ hel) hE hB (fun u vd Lc ht8 hE => ?_)
  have h0 := h0.trans ht8
  refine at_cd ?_
  refine ap_range (Tl := fun i => ((els (y.at_ 3)).drop i).flatMap (valueB 10 F_sFetchSnapshotRequestTopic false v q)) Tryz.underlying53 rfl (by omega) rfl hE (fun i11 u vd Lc N' X' hi12 hu10 hE kb => ?_) (fun u vd Lc ht9 hE => ?_)
  · skip
    have h0 := h0.trans hu10
    have hE := ls_step hi12 hE
    rcases Hg1_3 with hm0 | ⟨gg, oo, lc, rfl, hgc, hgl, hge⟩
    · omega
    have hy := hge i11 hi12
    have hyr := seg_rc hgc hgl hi12
    have hkk := hle i11 hi12
    refine cd_sq ?_
    refine ap_copy rfl rfl ?_
    refine at_cd ?_
    refine cd_sq ?_
    refine ap_idx (ez := 3) rfl Tryz.underlying53 tipub_kmsg_FetchSnapshotRequestTopic.size hi12 rfl rfl ?_
    refine at_cd ?_
    have hy := RE_part hy
    have hyr : RC t gg (oo + i11 * 3) _ := hyr
    generalize hyy : (els (y.at_ 3))[i11] = ye13 at *
    obtain ⟨fc14, mv14, hce14, hfl14, hTg14⟩ := hy
    simp only [F_sFetchSnapshotRequestTopic, RMl] at hfl14
    obtain ⟨x14_0, z14_0, e14_0, g14_0, x14_1, z14_1, e14_1, g14_1, hend14⟩ := hfl14
    obtain rfl := (RMf_str (by decide)).1 g14_0
    obtain ⟨_, rfl, Gg14_1⟩ := RMf_list.1 g14_1
    obtain ⟨ad14_1, cap14_1, rfl, hnil14_1, Hg14_1⟩ := Gg14_1.els
    subst hend14
    subst e14_1
    subst e14_0
    rw [hce14] at hyr
    simp only [List.cons_append, List.nil_append, List.append_assoc] at hyr
    obtain ⟨hfl, hfu15⟩ := (show okP F_sFetchSnapshotRequestTopic v q ye13 from hkk)
    obtain ⟨k16, hfl⟩ := okFl_cons hfl
    obtain ⟨k17, hfl⟩ := okFl_cons hfl
    have hE := vt_open (by decide) hfu15 hE
    have hyr18 := hyr
    refine cd_sq ?_
    have hE := pl_all (by decide) (hasB_all hv0) hE
    have hkk := okV_get k16 (by decide) (hasB_all hv0)
    refine cd_sq ?_
    refine ap_load (off := 0) rfl Tryz.underlying95 rfl tistring.size rfl Tryz.underlying9 rfl (hyr18.mv h0 (by simp)) rfl rfl ?_
    refine at_cd ?_
    refine ap_flex rfl en_67 en_68 rfl rfl rfl rfl (fun hq u hu => by subst hq; rw [fieldB_s0 (by decide) (by decide) (by decide)]; exact as_cstr u _ (okV_s (by decide) (by decide) hkk (.inl rfl)).1) (fun hq u hu => by subst hq; rw [fieldB_s0 (by decide) (by decide) (by decide)]; exact as_str u _ (okV_s (by decide) (by decide) hkk (.inl rfl)).1) hE hB (fun u vd Lc ht19 hE => ?_)
    have h0 := h0.trans ht19
    refine at_sub (.cons (.skip rfl (.cons (.cons (.cons (.cons (.cons (.cons (.cons (.cons .rfl')))))))))) ?_
    refine at_cd ?_
    refine cd_sq ?_
    have hE := pl_all (by decide) (hasB_all hv0) hE
    have hkk := okV_get k17 (by decide) (hasB_all hv0)
    refine cd_sq ?_
    refine ap_load (off := 1) rfl Tryz.underlying95 rfl tiSl_kmsg_FetchSnapshotRequestTopicPartition.size rfl Tryz.underlying93 rfl (hyr18.mv h0 (by simp)) rfl rfl ?_
    refine at_cd ?_
    obtain ⟨hll, hlz, hle⟩ := okV_l hkk
    have hE := ls_open (by decide) hll hlz hE
    have hel := els_len hll
    refine cd_sq ?_
    refine ap_flexL (T' := 0) rfl en_65 en_66 Tryz.underlying93 rfl rfl rfl rfl (fun hq u hu => by subst hq; exact al_c u _ hel) (fun hq u hu => by subst hq; exact al_n u _ hel) hE hB (fun u vd Lc ht20 hE => ?_)
    have h0 := h0.trans ht20
    refine at_cd ?_
    refine ap_range (Tl := fun i => ((els (ye13.at_ 1)).drop i).flatMap (valueB 10 F_sFetchSnapshotRequestTopicPartition false v q)) Tryz.underlying93 rfl (by omega) rfl hE (fun i23 u vd Lc N' X' hi24 hu22 hE kb => ?_) (fun u vd Lc ht21 hE => ?_)
    · skip
      have h0 := h0.trans hu22
      have hE := ls_step hi24 hE
      rcases Hg14_1 with hm0 | ⟨gg, oo, lc, rfl, hgc, hgl, hge⟩
      · omega
      have hy := hge i23 hi24
      have hyr := seg_rc hgc hgl hi24
      have hkk := hle i23 hi24
      refine cd_sq ?_
      refine ap_copy rfl rfl ?_
      refine at_cd ?_
      refine cd_sq ?_
      refine ap_idx (ez := 23) rfl Tryz.underlying93 tipub_kmsg_FetchSnapshotRequestTopicPartition.size hi24 rfl rfl ?_
      refine at_cd ?_
      have hy := RE_part hy
      have hyr : RC t gg (oo + i23 * 23) _ := hyr
      generalize hyy : (els (ye13.at_ 1))[i23] = ye25 at *
      obtain ⟨fc26, mv26, hce26, hfl26, hTg26⟩ := hy
      simp only [F_sFetchSnapshotRequestTopicPartition, RMl] at hfl26
      obtain ⟨x26_0, z26_0, e26_0, g26_0, x26_1, z26_1, e26_1, g26_1, x26_2, z26_2, e26_2, g26_2, x26_3, z26_3, e26_3, g26_3, x26_4, z26_4, e26_4, g26_4, hend26⟩ := hfl26
      obtain rfl := RMf_i32.1 g26_0
      obtain rfl := RMf_i32.1 g26_1
      obtain ⟨fc27, mv27, hce27, hfl27, hTg27⟩ := (RMf_part (by decide)).1 g26_2
      simp only [F_sFetchSnapshotRequestTopicPartitionSnapshotID, RMl] at hfl27
      obtain ⟨x27_0, z27_0, e27_0, g27_0, x27_1, z27_1, e27_1, g27_1, hend27⟩ := hfl27
      obtain ⟨rfl, hI27_0⟩ := RMf_i64.1 g27_0
      obtain rfl := RMf_i32.1 g27_1
      subst hend27
      subst e27_1
      subst e27_0
      subst hce27
      obtain ⟨rfl, hI26_3⟩ := RMf_i64.1 g26_3
      have hq26_4 := RMf_uuid.1 g26_4
      obtain ⟨u26_4_0, u26_4_1, u26_4_2, u26_4_3, u26_4_4, u26_4_5, u26_4_6, u26_4_7, u26_4_8, u26_4_9, u26_4_10, u26_4_11, u26_4_12, u26_4_13, u26_4_14, u26_4_15, hu26_4⟩ := uuid16 (ye25.at_ 4).s
      rw [hu26_4] at hq26_4
      subst hq26_4
      subst hend26
      subst e26_4
      subst e26_3
      subst e26_2
      subst e26_1
      subst e26_0
      rw [hce26] at hyr
      simp only [List.cons_append, List.nil_append, List.append_assoc] at hyr
      obtain ⟨hfl, hfu28⟩ := (show okP F_sFetchSnapshotRequestTopicPartition v q ye25 from hkk)
      obtain ⟨k29, hfl⟩ := okFl_cons hfl
      obtain ⟨k30, hfl⟩ := okFl_cons hfl
      obtain ⟨k31, hfl⟩ := okFl_cons hfl
      obtain ⟨k32, hfl⟩ := okFl_cons hfl
      obtain ⟨k33, hfl⟩ := okFl_cons hfl
      have hE := vt_open1 (by decide) hfu28 ((tgf_skip (by decide)).trans ((tgf_skip (by decide)).trans ((tgf_skip (by decide)).trans ((tgf_skip (by decide)).trans (tgf_here (by decide) tgf_nil))))) hE
      have hyr34 := hyr
      refine cd_sq ?_
      have hE := pl_all (by decide) (hasB_all hv0) hE
      have hkk := okV_get k29 (by decide) (hasB_all hv0)
      refine cd_sq ?_
      refine ap_load (off := 0) rfl Tryz.underlying107 rfl tiint32.size rfl Tryz.underlying21 rfl (hyr34.mv h0 (by simp)) rfl rfl ?_
      refine at_cd ?_
      refine ap_call en_64 rfl rfl (fun u hu => by rw [fieldB_s0 (by decide) (by decide) (by decide)]; exact as_i32 u _ _ _) hE hB (fun u vd Lc ht35 hE => ?_)
      have h0 := h0.trans ht35
      refine at_sub (.cons (.skip rfl (.cons (.cons (.cons (.cons (.cons (.cons (.cons (.cons (.cons (.cons (.cons (.cons (.cons .rfl'))))))))))))))) ?_
      refine at_cd ?_
      refine cd_sq ?_
      have hE := pl_all (by decide) (hasB_all hv0) hE
      have hkk := okV_get k30 (by decide) (hasB_all hv0)
      refine cd_sq ?_
      refine ap_load (off := 1) rfl Tryz.underlying107 rfl tiint32.size rfl Tryz.underlying21 rfl (hyr34.mv h0 (by simp)) rfl rfl ?_
      refine at_cd ?_
      refine ap_call en_64 rfl rfl (fun u hu => by rw [fieldB_s0 (by decide) (by decide) (by decide)]; exact as_i32 u _ _ _) hE hB (fun u vd Lc ht36 hE => ?_)
      have h0 := h0.trans ht36
      refine at_sub (.cons (.skip rfl (.cons (.cons (.cons (.cons (.cons (.cons (.cons (.cons (.cons (.cons (.cons (.cons (.cons .rfl'))))))))))))))) ?_
      refine at_cd ?_
      refine cd_sq ?_
      have hE := pl_all (by decide) (hasB_all hv0) hE
      have hkk := okV_get k31 (by decide) (hasB_all hv0)
      refine cd_sq ?_
      refine ap_addr (off := 2) rfl Tryz.underlying107 rfl tipub_kmsg_FetchSnapshotRequestTopicPartitionSnapshotID.size rfl rfl ?_
      refine at_cd ?_
      have hrP37 := hyr34.dropk 2 (Nat.le_of_ble_eq_true rfl)
      obtain ⟨hflP37, hfuP37⟩ := okV_p (by decide) hkk
      obtain ⟨k38, hflP37⟩ := okFl_cons hflP37
      obtain ⟨k39, hflP37⟩ := okFl_cons hflP37
      have hE := fp_open (by decide) (by decide) hfuP37 hE
      refine cd_sq ?_
      have hE := pl_all (by decide) (hasB_all hv0) hE
      have hkk := okV_get k38 (by decide) (hasB_all hv0)
      refine cd_sq ?_
      refine ap_load (off := 0) rfl Tryz.underlying104 rfl tiint64.size rfl Tryz.underlying2 rfl (hrP37.mv h0 (by simp)) rfl rfl ?_
      refine at_cd ?_
      refine ap_call en_69 rfl rfl (fun u hu => by rw [fieldB_s0 (by decide) (by decide) (by decide)]; exact as_i64 u _ _ _) hE hB (fun u vd Lc ht40 hE => ?_)
      have h0 := h0.trans ht40
      refine at_sub (.cons (.skip rfl (.cons (.cons (.cons (.cons (.cons (.cons (.cons (.cons (.cons (.cons (.cons (.cons (.cons (.cons .rfl')))))))))))))))) ?_
      refine at_cd ?_
      refine cd_sq ?_
      have hE := pl_all (by decide) (hasB_all hv0) hE
      have hkk := okV_get k39 (by decide) (hasB_all hv0)
      refine cd_sq ?_
      refine ap_load (off := 1) rfl Tryz.underlying104 rfl tiint32.size rfl Tryz.underlying21 rfl (hrP37.mv h0 (by simp)) rfl rfl ?_
      refine at_cd ?_
      refine ap_call en_64 rfl rfl (fun u hu => by rw [fieldB_s0 (by decide) (by decide) (by decide)]; exact as_i32 u _ _ _) hE hB (fun u vd Lc ht41 hE => ?_)
      have h0 := h0.trans ht41
      refine at_sub (.cons (.skip rfl (.cons (.cons (.cons (.cons (.cons (.cons (.cons (.cons (.cons (.cons (.cons (.cons (.cons (.cons .rfl')))))))))))))))) ?_
      refine at_cd ?_
      have hE := pl_nil hE
      refine ap_tags (off := 2) rfl rfl Tryz.underlying104 rfl tipub_kmsg_Tags.size rfl (hrP37.mv h0 (by simp)) rfl (hTg27.mv h0) (fun h => (hfuP37 h).2) rfl rfl rfl hE hB (fun u vd Lc ht42 hE => ?_)
      have h0 := h0.trans ht42
      refine at_sub (.cons (.skip rfl (.cons (.cons (.cons (.cons (.cons (.cons (.cons (.cons (.cons (.cons (.cons (.cons (.cons .rfl'))))))))))))))) ?_
      refine at_cd ?_
      refine cd_sq ?_
      have hE := pl_all (by decide) (hasB_all hv0) hE
      have hkk := okV_get k32 (by decide) (hasB_all hv0)
      refine cd_sq ?_
      refine ap_load (off := 5) rfl Tryz.underlying107 rfl tiint64.size rfl Tryz.underlying2 rfl (hyr34.mv h0 (by simp)) rfl rfl ?_
      refine at_cd ?_
      refine ap_call en_69 rfl rfl (fun u hu => by rw [fieldB_s0 (by decide) (by decide) (by decide)]; exact as_i64 u _ _ _) hE hB (fun u vd Lc ht43 hE => ?_)
      have h0 := h0.trans ht43
      refine at_sub (.cons (.skip rfl (.cons (.cons (.cons (.cons (.cons (.cons (.cons (.cons (.cons (.cons (.cons (.cons (.cons .rfl'))))))))))))))) ?_
      refine at_cd ?_
      have hE := pl_tag (by decide) hE
      have hE := pl_nil hE
      refine ap_test rfl rfl (fun hq => ?_) (fun hq => ?_)
      · skip
        subst hq
        obtain ⟨o1, o2, o3⟩ := (hfu28 rfl).2
        rw [if_pos rfl, List.append_assoc, List.append_assoc] at hE
        have hkk := okV_tag k33 (by decide) rfl
        generalize hus0 : usualB _ _ = us at hE
        refine cd_sq ?_
        refine ap_const rfl ?_
        refine at_cd ?_
        refine cd_sq ?_
        refine cd_sq ?_
        refine cd_region ?_
        refine ln_pv (pv_move rfl) rfl ?_
        refine ln_pv (pv_nilCheck rfl) rfl ?_
        refine ln_pv (pv_fieldAddr (off := 6) Tryz.underlying107 rfl ti_16_uint8.size rfl rfl rfl) rfl ?_
        refine ln_pv (pv_ldSub (off := 6) (vs := u8s (uuid (ye25.at_ 4).s)) (hyr34.mv h0 (by simp)) Tryz.underlying105 rfl ti_16_uint8.size (by rw [hu26_4]; rfl) (by simp [uuid_length]) lk_eq) rfl ?_
        refine ln_pv (pv_build0 (cs := u8s (List.replicate 16 0)) Tryz.underlying105 ti_16_uint8 rfl (by obtain ⟨ii, h, _⟩ := Option.map_eq_some_iff.1 (tiuint8 : TI Tryz.prog _ _ _ _).size; exact Option.isSome_iff_exists.2 ⟨ii, h⟩)) rfl ?_
        refine ln_pv (pv_neqA' (a := uuid (ye25.at_ 4).s) (b := List.replicate 16 0) Tryz.underlying105 Tryz.underlying5 tiuint8.size (by kernel_rfl) rfl rfl (uuid_length _) rfl) rfl ?_
        refine ln_nil (at_cd ?_)
        refine cd_cond lk_eq (fun hp => ?_) (fun hp => ?_)
        · skip
          have hus : us = false := hus0.symm.trans (us_uuid.trans (by simpa using hp))
          rw [hus] at hE
          simp only [Bool.false_eq_true, if_false] at hE
          refine cd_sub_ (.skip rfl (.skip rfl (.skip rfl (.skip rfl (.skip rfl (.skip rfl .rfl')))))) ?_
          refine ap_tapp Tryz.underlying111 tiuint32 rfl rfl (fun g cp => ?_)
          refine at_sub (.swap rfl) ?_
          refine at_cd ?_
          refine cd_sq ?_
          refine ap_tcount (m := 1) rfl (by decide) Tryz.underlying111 rfl Tryz.underlying107 rfl tipub_kmsg_Tags.size rfl (hyr34.mv h0 (by simp)) rfl (hTg26.mv h0) o3 rfl hE hB (fun u vd Lc ht44 hE => ?_)
          have h0 := h0.trans ht44
          refine at_cd ?_
          refine cd_sq ?_
          refine ap_rangeV (m := 1) (Tl := fun i => match i with | 0 => tagB (0, _) | _ => []) Tryz.underlying111 rfl (by omega) rfl hE (fun i u vd Lc N' X' hi hu46 hE kb => ?_) (fun u vd Lc ht45 hE => ?_)
          · skip
            have h0 := h0.trans hu46
            obtain rfl : i = 0 := by omega
            refine ap_case rfl rfl Tryz.underlying111 tiuint32.size Tryz.underlying62 rfl rfl rfl ?_
            generalize hfb : fieldB _ v true _ = fb at hE kb
            have hE := tg_open hE
            have hlen : fb.length = 16 := by rw [← hfb]; exact fb_len16
            rw [hlen] at hE
            refine cd_sq ?_
            refine cd_region ?_
            refine ln_pv (pv_move rfl) rfl ?_
            refine ln_pv (pv_nilCheck rfl) rfl ?_
            refine ln_pv (pv_fieldAddr (off := 6) Tryz.underlying107 rfl ti_16_uint8.size rfl rfl rfl) rfl ?_
            refine ln_pv (pv_ldSub (off := 6) (vs := u8s (uuid (ye25.at_ 4).s)) (hyr34.mv h0 (by simp)) Tryz.underlying105 rfl ti_16_uint8.size (by rw [hu26_4]; rfl) (by simp [uuid_length]) lk_eq) rfl ?_
            refine ln_alloc (l := List.replicate 16 (.int .u8 0)) ti_16_uint8 rfl rfl (fun bx => ?_)
            refine ln_storeW (i := 0) (vs := u8s (uuid (ye25.at_ 4).s)) (v := .agg (u8s (uuid (ye25.at_ 4).s)).toArray) rfl lk_eq rfl rfl ti_16_uint8.size (by simp [uuid_length]) (u8s_one _) ?_
            refine ln_nil ?_
            refine at_perm (List.Perm.swap _ _ _) ?_
            refine at_sub (.cons (.skip rfl (.skip rfl (.skip rfl (.skip rfl .rfl'))))) ?_
            refine at_sub (.swap rfl) ?_
            refine at_cd ?_
            refine cd_sq ?_
            refine ap_callK (bs := uvar 0) en_70 rfl (fun u hu => kbin_AppendUvarint u 0 (by omega)) hE hB (fun u vd Lc ht47 hL2 => ?_)
            have hE := app_step hE
            rw [← hL2] at hE
            clear hL2
            refine at_cd ?_
            have h0 := h0.trans ht47
            refine cd_sq ?_
            refine ap_callK (bs := uvar 16) en_70 rfl (fun u hu => kbin_AppendUvarint u 16 (by omega)) hE hB (fun u vd Lc ht48 hL2 => ?_)
            have hE := app_step hE
            rw [← hL2] at hE
            clear hL2
            refine at_cd ?_
            have h0 := h0.trans ht48
            have e16 : fb = uuid (ye25.at_ 4).s := by rw [← hfb, fieldB_sc (by decide) (by decide)]; simp [scalarB, uuid]
            rw [e16] at hE
            refine cd_region ?_
            refine ln_pv (pv_move (v := vd) rfl) rfl ?_
            refine ln_pv (pv_ldO (i := 1) (l := u8s (uuid (ye25.at_ 4).s)) rfl Tryz.underlying105 rfl ti_16_uint8.size rfl (by simp [uuid_length])) rfl ?_
            refine ln_callT (i := 0) (vals := [vd, .agg (u8s (uuid (ye25.at_ 4).s)).toArray]) en_73 rfl rfl (fun u hu hok hav => kbin_AppendUuid u (uuid (ye25.at_ 4).s) (uuid_length _) _ _ (app_len hE hB) hok hav) rfl ?_
            rintro u v9 _ ht49 ⟨_, ⟨rfl, _⟩, _⟩
            refine ln_pv (pv_assign (v := v9) rfl) rfl ?_
            have hE := app_step hE
            have h0 := h0.trans ht49
            refine ln_nil (at_Hs (at_sub (.cons (.skip rfl (.skip rfl (.skip rfl (.skip rfl (.skip rfl .rfl')))))) ?_))
            exact at_sub (.cons (.cons (.cons (.cons (.cons (.cons (.cons (.cons (.cons (.cons (.cons (.cons (.cons (.cons (.cons (.cons (.cons (.cons .rfl')))))))))))))))))) (kb _ _ _ ((ht47.trans ht48).trans ht49) hE)
          have h0 := h0.trans ht45
          refine at_cd ?_
          refine ap_teach rfl Tryz.underlying107 rfl tipub_kmsg_Tags.size rfl (hyr34.mv h0 (by simp)) rfl (hTg26.mv h0) o1 o2 rfl hE hB (fun u vd Lc ht50 hE => ?_)
          have h0 := h0.trans ht50
          refine at_Hs ?_
          refine at_sub (.cons (.skip rfl .rfl')) ?_
          exact at_sub (.cons (.skip rfl (.skip rfl (.cons (.cons (.cons (.cons (.cons (.cons (.cons (.cons (.cons (.cons (.cons .rfl')))))))))))))) (kb _ _ _ ((((((((ht35.trans ht36).trans ht40).trans ht41).trans ht42).trans ht43).trans ht44).trans ht45).trans ht50) hE)
        · skip
          have hus : us = true := hus0.symm.trans (us_uuid.trans (by simpa using hp))
          rw [hus] at hE
          simp only [if_true, List.nil_append] at hE
          refine cd_sub_ (.skip rfl (.skip rfl (.skip rfl (.skip rfl (.skip rfl (.skip rfl .rfl')))))) ?_
          refine cd_skip (at_sub (.swap rfl) ?_)
          refine at_cd ?_
          refine cd_sq ?_
          refine ap_tcount (m := 0) rfl (by decide) Tryz.underlying111 rfl Tryz.underlying107 rfl tipub_kmsg_Tags.size rfl (hyr34.mv h0 (by simp)) rfl (hTg26.mv h0) o3 rfl hE hB (fun u vd Lc ht51 hE => ?_)
          have h0 := h0.trans ht51
          refine at_cd ?_
          refine cd_sq ?_
          refine ap_range (m := 0) (Tl := fun _ => []) Tryz.underlying111 rfl (by omega) rfl hE (fun i _ _ _ _ _ hi => absurd hi (by omega)) (fun u vd Lc ht52 hE => ?_)
          have h0 := h0.trans ht52
          refine at_cd ?_
          refine ap_teach rfl Tryz.underlying107 rfl tipub_kmsg_Tags.size rfl (hyr34.mv h0 (by simp)) rfl (hTg26.mv h0) o1 o2 rfl hE hB (fun u vd Lc ht53 hE => ?_)
          have h0 := h0.trans ht53
          refine at_sub (.cons (.skip rfl .rfl')) ?_
          exact at_sub (.cons (.skip rfl (.skip rfl (.cons (.cons (.cons (.cons (.cons (.cons (.cons (.cons (.cons (.cons (.cons .rfl')))))))))))))) (kb _ _ _ ((((((((ht35.trans ht36).trans ht40).trans ht41).trans ht42).trans ht43).trans ht51).trans ht52).trans ht53) hE)
      · skip
        subst hq
        simp only [Bool.false_eq_true, if_false, List.nil_append] at hE
        refine cd_skip (at_base fun u ht54 => ?_)
        have h0 := h0.trans ht54
        exact at_sub (.cons (.skip rfl (.skip rfl (.cons (.cons (.cons (.cons (.cons (.cons (.cons (.cons (.cons (.cons (.cons .rfl')))))))))))))) (kb _ _ _ ((((((ht35.trans ht36).trans ht40).trans ht41).trans ht42).trans ht43).trans ht54) hE)
    have hE := ls_end hE
    have h0 := h0.trans ht21
    refine at_sub (.cons (.skip rfl (.cons (.cons (.cons (.cons (.cons (.cons (.cons (.cons .rfl')))))))))) ?_
    refine at_cd ?_
    have hE := pl_nil hE
    refine ap_tags (off := 2) rfl rfl Tryz.underlying95 rfl tipub_kmsg_Tags.size rfl (hyr18.mv h0 (by simp)) rfl (hTg14.mv h0) (fun h => (hfu15 h).2) rfl rfl rfl hE hB (fun u vd Lc ht55 hE => ?_)
    have h0 := h0.trans ht55
    exact at_sub (.cons (.skip rfl (.skip rfl (.cons (.cons (.cons (.cons (.cons (.cons .rfl'))))))))) (kb _ _ _ (((ht19.trans ht20).trans ht21).trans ht55) hE)
  have hE := ls_end hE
  have h0 := h0.trans ht9
  refine at_sub (.cons (.skip rfl (.cons (.cons (.cons .rfl'))))) ?_
  refine at_cd ?_
  have hE := pl_nil hE
  refine cd_sq ?_
  refine ap_test rfl rfl (fun hq => ?_) (fun hq => ?_)
  · skip
    subst hq
    obtain ⟨o1, o2, o3⟩ := (hfu rfl).2
    rw [if_pos rfl, List.append_assoc, List.append_assoc] at hE
    have hkk := okV_tag k2 (by decide) rfl
    generalize hus0 : usualB _ _ = us at hE
    refine cd_sq ?_
    refine ap_const rfl ?_
    refine at_cd ?_
    refine cd_sq ?_
    refine cd_sq ?_
    refine cd_region ?_
    refine ln_pv (pv_move rfl) rfl ?_
    refine ln_pv (pv_nilCheck rfl) rfl ?_
    refine ln_pv (pv_fieldAddr (off := 1) Tryz.underlying58 rfl tiPt_string.size rfl rfl rfl) rfl ?_
    refine ln_pv (pv_ldr (j := 1) (hrc.mv h0 (by simp)) Tryz.underlying52 rfl lk_eq rfl) rfl ?_
    obtain ⟨pp, hpp, hpz⟩ := Txt.ptr Gg1_0
    rw [hpp]
    refine ln_pv (pv_neqP Tryz.underlying52 lk_eq ev_c) rfl ?_
    refine ln_nil (at_cd ?_)
    refine cd_cond lk_eq (fun hp => ?_) (fun hp => ?_)
    · skip
      have hus : us = false := hus0.symm.trans ((us_text (by decide)).trans (by rw [← hpz]; cases pp <;> simp_all))
      rw [hus] at hE
      simp only [Bool.false_eq_true, if_false] at hE
      refine cd_sub_ (.skip rfl (.skip rfl (.skip rfl (.skip rfl (.skip rfl .rfl'))))) ?_
      refine ap_tapp Tryz.underlying111 tiuint32 rfl rfl (fun g cp => ?_)
      refine at_sub (.swap rfl) ?_
      refine at_cd ?_
      refine cd_sq ?_
      refine ap_tcount (m := 1) rfl (by decide) Tryz.underlying111 rfl Tryz.underlying58 rfl tipub_kmsg_Tags.size rfl (hrc.mv h0 (by simp)) rfl (hTg1.mv h0) o3 rfl hE hB (fun u vd Lc ht56 hE => ?_)
      have h0 := h0.trans ht56
      refine at_cd ?_
      refine cd_sq ?_
      refine ap_rangeV (m := 1) (Tl := fun i => match i with | 0 => tagB (0, _) | _ => []) Tryz.underlying111 rfl (by omega) rfl hE (fun i u vd Lc N' X' hi hu58 hE kb => ?_) (fun u vd Lc ht57 hE => ?_)
      · skip
        have h0 := h0.trans hu58
        obtain rfl : i = 0 := by omega
        refine ap_case rfl rfl Tryz.underlying111 tiuint32.size Tryz.underlying62 rfl rfl rfl ?_
        generalize hfb : fieldB _ v true _ = fb at hE kb
        have hE := tg_open hE
        refine ap_scopeJ (off := 1) (fb := fb) rfl Tryz.underlying58 rfl tiPt_string.size rfl Tryz.underlying52 rfl (hrc.mv h0 (by simp)) rfl rfl rfl rfl rfl hE hB (fun u vd hu59 => ?_) (fun u vd hu60 => ?_)
        · skip
          have h0 := h0.trans hu59
          have hbb : (Lc ++ uvar 0).length + fb.length ≤ 4398046511104 := by rw [← hE] at hB; simp only [List.length_append] at hB ⊢; omega
          have hbu : (Lc ++ uvar 0).length + (uvar fb.length).length ≤ 4398046511104 := by rw [← hE] at hB; simp only [List.length_append] at hB ⊢; omega
          have hb0 : 0 < (Lc ++ uvar 0).length := by rw [uvar_zero]; simp
          have hb32 : fb.length ≤ 4294967295 := (by rw [← hfb]; exact tx_le (okV_s (by decide) (by decide) hkk (.inl rfl)).1)
          clear hE hB
          generalize Lc ++ uvar 0 = L1 at *
          obtain ⟨F1, hF1⟩ : ∃ F : List UInt8, L1 ++ fb = F := ⟨_, rfl⟩
          have hE : L1 ++ (fb ++ []) = F1 := by rw [List.append_nil]; exact hF1
          have hB : F1.length ≤ 4398046511104 := by rw [← hF1, List.length_append]; exact hbb
          rw [← hfb] at hE
          refine cdG_sq ?_
          refine ap_flex rfl en_74 en_75 rfl rfl rfl rfl (fun _ u hu => by rw [fieldB_sz (by decide) (by decide) (by decide) (by omega)]; exact as_ctxt u _ _ (Gg1_0.mv (h0.trans hu)) (okV_s (by decide) (by decide) hkk (.inl rfl)).1) (fun hq => by cases hq) hE hB (fun u vd Lc ht61 hE => ?_)
          have h0 := h0.trans ht61
          have hL : Lc = L1 ++ fb := by rw [hF1, ← hE, List.append_nil]
          subst hL
          refine at_sub (.cons (.cons (.cons (.cons (.cons (.cons (.cons (.cons (.cons (.cons (.cons .rfl'))))))))))) ?_
          refine at_cdG ?_
          refine cdG_sq ?_
          refine ap_sized (b := false) rfl rfl ?_
          refine at_cdG ?_
          refine cdG_tt rfl (cdG_sub (.skip rfl .rfl') ?_)
          refine cdG_sq ?_
          refine ap_resize (k := L1.length) (bs := uvar fb.length) rfl en_70 (by rw [List.length_append]; omega) (by rw [List.length_append]; omega) (by rw [List.length_append]; omega) rfl (fun u hu => by rw [List.length_append, Nat.add_sub_cancel_left]; exact kbin_AppendUvarint u fb.length (by omega)) (by omega) (by kernel_rfl) (fun u v' ht62 => ?_)
          have h0 := h0.trans ht62
          rw [List.take_left]
          refine at_cdG ?_
          refine cdG_sq ?_
          refine cd_region ?_
          refine ln_pv (pv_assign ev_c) rfl ?_
          refine ln_nil ?_
          refine at_cdG ?_
          refine cdG_goto ?_
          exact at_jump (S := Value) (Lj := fun z => _ :: _ :: _ :: _ :: _) (Hj := fun z => OctRow z _ :: _) (I := fun _ _ => True) v' ((hu59.trans ht61).trans ht62) (fun _ _ => trivial) (.put rfl (.put rfl (.put rfl (.put rfl (.skip rfl (.skip rfl (.skip rfl (.skip rfl (.skip rfl .rfl'))))))))) (List.Sublist.refl _)
        · skip
          have h0 := h0.trans hu60
          have hE := tg_open2 hE
          have hE : _ ++ (_ ++ _) = Full := hE
          conv at hE => lhs; rhs; lhs; rw [← hfb]
          refine cd_sq ?_
          refine ap_flex rfl en_74 en_75 rfl rfl rfl rfl (fun _ u hu => by rw [fieldB_sz (by decide) (by decide) (by decide) (by omega)]; exact as_ctxt u _ _ (Gg1_0.mv (h0.trans hu)) (okV_s (by decide) (by decide) hkk (.inl rfl)).1) (fun hq => by cases hq) hE hB (fun u vd Lc ht63 hE => ?_)
          have h0 := h0.trans ht63
          refine at_sub (.cons (.cons (.cons (.cons (.cons (.cons (.cons (.cons (.cons (.cons (.cons .rfl'))))))))))) ?_
          refine at_cd ?_
          refine cd_sq ?_
          refine ap_sized (b := true) rfl rfl ?_
          refine at_cd ?_
          refine cd_ff rfl (cd_sub_ (.skip rfl .rfl') (cd_skip ?_))
          exact at_sub (.cons (.skip rfl (.skip rfl (.skip rfl (.cons (.cons (.cons (.cons (.cons (.cons (.cons .rfl'))))))))))) (kb _ _ _ (hu60.trans ht63) hE)
      have h0 := h0.trans ht57
      refine at_cd ?_
      refine ap_teach rfl Tryz.underlying58 rfl tipub_kmsg_Tags.size rfl (hrc.mv h0 (by simp)) rfl (hTg1.mv h0) o1 o2 rfl hE hB (fun u vd Lc ht64 hE => ?_)
      have h0 := h0.trans ht64
      refine at_Hs ?_
      refine at_sub (.cons (.skip rfl .rfl')) ?_
      refine at_cd ?_
      have hE : Lc = Full := by simpa using hE
      subst hE
      refine cd_rowone (i := 0) rfl (fun hone => ?_)
      refine cd_sr ?_
      refine ln_pv (pv_move rfl) rfl ?_
      refine ln_pv (pv_assign rfl) rfl ?_
      refine ln_cd ?_
      refine cd_ret ?_
      exact at_retT (i := 0) rfl rfl rfl (fun w hS => ⟨rfl, hone⟩)
    · skip
      have hus : us = true := hus0.symm.trans ((us_text (by decide)).trans (by rw [← hpz]; cases pp <;> simp_all))
      rw [hus] at hE
      simp only [if_true, List.nil_append] at hE
      refine cd_sub_ (.skip rfl (.skip rfl (.skip rfl (.skip rfl (.skip rfl .rfl'))))) ?_
      refine cd_skip (at_sub (.swap rfl) ?_)
      refine at_cd ?_
      refine cd_sq ?_
      refine ap_tcount (m := 0) rfl (by decide) Tryz.underlying111 rfl Tryz.underlying58 rfl tipub_kmsg_Tags.size rfl (hrc.mv h0 (by simp)) rfl (hTg1.mv h0) o3 rfl hE hB (fun u vd Lc ht65 hE => ?_)
      have h0 := h0.trans ht65
      refine at_cd ?_
      refine cd_sq ?_
      refine ap_range (m := 0) (Tl := fun _ => []) Tryz.underlying111 rfl (by omega) rfl hE (fun i _ _ _ _ _ hi => absurd hi (by omega)) (fun u vd Lc ht66 hE => ?_)
      have h0 := h0.trans ht66
      refine at_cd ?_
      refine ap_teach rfl Tryz.underlying58 rfl tipub_kmsg_Tags.size rfl (hrc.mv h0 (by simp)) rfl (hTg1.mv h0) o1 o2 rfl hE hB (fun u vd Lc ht67 hE => ?_)
      have h0 := h0.trans ht67
      refine at_sub (.cons (.skip rfl .rfl')) ?_
      refine at_cd ?_
      have hE : Lc = Full := by simpa using hE
      subst hE
      refine cd_rowone (i := 0) rfl (fun hone => ?_)
      refine cd_sr ?_
      refine ln_pv (pv_move rfl) rfl ?_
      refine ln_pv (pv_assign rfl) rfl ?_
      refine ln_cd ?_
      refine cd_ret ?_
      exact at_retT (i := 0) rfl rfl rfl (fun w hS => ⟨rfl, hone⟩)
  · skip
    subst hq
    simp only [Bool.false_eq_true, if_false, List.nil_append] at hE
    refine cd_skip (at_base fun u ht68 => ?_)
    have h0 := h0.trans ht68
    refine at_cd ?_
    have hE : Lc = Full := by simpa using hE
    subst hE
    refine cd_rowone (i := 0) rfl (fun hone => ?_)
    refine cd_sr ?_
    refine ln_pv (pv_move rfl) rfl ?_
    refine ln_pv (pv_assign rfl) rfl ?_
    refine ln_cd ?_
    refine cd_ret ?_
    exact at_retT (i := 0) rfl rfl rfl (fun w hS => ⟨rfl, hone⟩)
end K
end Go.Proofs.YtmknncmdbmnmgabGreat
