import Derived.Test.YtmknncmdbmnmgaaA5
import Derived.Test.YtmknncmdbmnmgaaMas
set_option linter.unusedVariables false
set_option linter.unusedSimpArgs false
namespace Go.Proofs.Ytmknncmdbmnmgaa
namespace K
open Go Go.Lib
theorem append_LeaderChangeMessage (t : Vw) (b : Nat) (v : Int) (y : Tre) (cells : List Value) (vd : Value) (L0 : List UInt8) (hrc : RC t b 0 (.int .i16 v :: cells)) (hM : RMp t F_LeaderChangeMessage y cells) (hfit : okP F_LeaderChangeMessage v (flexB 0 v) y) (h0 : 0 ≤ v) (h1 : v ≤ 1) (hB : (L0 ++ (fixed v 2 ++ partB F_LeaderChangeMessage v (flexB 0 v) y)).length ≤ 4398046511104) (hok : (OctRow vd L0).ok t.w) (hav : ∀ q ∈ (OctRow vd L0).blk, t.av q) : CT Try.prog 60 [.pointer (some ⟨b, 0, none⟩), vd] t (OctRow vd L0) fun _ r e' => e' = OctRow r (L0 ++ (fixed v 2 ++ partB F_LeaderChangeMessage v (flexB 0 v) y)) ∧ r.oneCell' = true := by
  have hv0 := h0
  clear h0
  obtain ⟨fc1, mv1, hce1, hfl1, hTg1⟩ := hM
  simp only [F_LeaderChangeMessage, RMl] at hfl1
  obtain ⟨x1_0, z1_0, e1_0, g1_0, x1_1, z1_1, e1_1, g1_1, x1_2, z1_2, e1_2, g1_2, hend1⟩ := hfl1
  obtain rfl := RMf_i32.1 g1_0
  obtain ⟨_, rfl, Gg1_1⟩ := RMf_list.1 g1_1
  obtain ⟨ad1_1, cap1_1, rfl, hnil1_1, Hg1_1⟩ := Gg1_1.els
  obtain ⟨_, rfl, Gg1_2⟩ := RMf_list.1 g1_2
  obtain ⟨ad1_2, cap1_2, rfl, hnil1_2, Hg1_2⟩ := Gg1_2.els
  subst hend1
  subst e1_2
  subst e1_1
  subst e1_0
  rw [hce1] at hrc
  simp only [List.cons_append, List.nil_append, List.append_assoc] at hrc
  obtain ⟨hfl, hfu⟩ := hfit
  obtain ⟨k2, hfl⟩ := okFl_cons hfl
  obtain ⟨k3, hfl⟩ := okFl_cons hfl
  obtain ⟨k4, hfl⟩ := okFl_cons hfl
  have hq0 : decide (v ≥ 0) = flexB 0 v := by simp [flexB]
  obtain ⟨Full, hFull⟩ : ∃ F : List UInt8, L0 ++ (fixed v 2 ++ partB F_LeaderChangeMessage v (flexB 0 v) y) = F := ⟨_, rfl⟩
  rw [hFull] at hB ⊢
  have hE : L0 ++ ((fixed v 2 ++ partB F_LeaderChangeMessage v (flexB 0 v) y) ++ []) = Full := by rw [List.append_nil]; exact hFull
  clear hFull
  rw [List.append_assoc] at hE
  generalize flexB 0 v = q at *
  refine ct_enter Try.func60 rfl Try.ntmps60 rfl hok hav (by simp only [Ent.blk]; cases vd.ownBlock <;> simp) ?_
  generalize L0 = Lc at *
  have h0 : Tr t t := Tr.refl t
  refine cd_sub_ (L' := [(1, vd), (0, .pointer (some ⟨b, 0, none⟩))]) (.put rfl (.put rfl .nil)) ?_
  refine cd_sq ?_
  refine ap_const rfl ?_
  refine at_sub (.skip rfl .rfl') ?_
  refine at_cd ?_
  refine cd_sq ?_
  refine ap_load0 rfl Try.underlying55 rfl tiint16.size rfl Try.underlying49 rfl (hrc.mv h0 (by simp)) rfl rfl ?_
  refine at_sub (.swap rfl) ?_
  refine at_cd ?_
  refine cd_sq ?_
  refine ap_blank rfl rfl ?_
  refine at_cd ?_
  refine cd_sq ?_
  refine ap_geqF rfl hq0 rfl ?_
  refine at_sub (.swap rfl) ?_
  refine at_cd ?_
  refine cd_sq ?_
  refine ap_blank rfl rfl ?_
  refine at_cd ?_
  refine cd_sq ?_
  refine cd_sq ?_
  refine ap_load (off := 0) rfl Try.underlying55 rfl tiint16.size rfl Try.underlying49 rfl (hrc.mv h0 (by simp)) rfl rfl ?_
  refine at_cd ?_
  refine ap_call en_137 rfl rfl (fun u hu => kbin_AppendInt16 u v) hE hB (fun u vd Lc ht5 hE => ?_)
  have h0 := h0.trans ht5
  refine at_sub (.cons (.skip rfl (.cons (.cons (.cons .rfl'))))) ?_
  refine at_cd ?_
  have hE := pt_open (by decide) hfu hE
  refine cd_sq ?_
  have hE := pl_all (by decide) (hasB_all hv0) hE
  have hkk := okV_get k2 (by decide) (hasB_all hv0)
  refine cd_sq ?_
  refine ap_load (off := 1) rfl Try.underlying55 rfl tiint32.size rfl Try.underlying21 rfl (hrc.mv h0 (by simp)) rfl rfl ?_
  refine at_cd ?_
  refine ap_call en_138 rfl rfl (fun u hu => by rw [fieldB_s0 (by decide) (by decide) (by decide)]; exact as_i32 u _ _ _) hE hB (fun u vd Lc ht6 hE => ?_)
  have h0 := h0.trans ht6
  refine at_sub (.cons (.skip rfl (.cons (.cons (.cons .rfl'))))) ?_
  refine at_cd ?_
  refine cd_sq ?_
  have hE := pl_all (by decide) (hasB_all hv0) hE
  have hkk := okV_get k3 (by decide) (hasB_all hv0)
  refine cd_sq ?_
  refine ap_load (off := 2) rfl Try.underlying55 rfl tiSl_kmsg_LeaderChangeMessageVoter.size rfl Try.underlying50 rfl (hrc.mv h0 (by simp)) rfl rfl ?_
  refine at_cd ?_
  obtain ⟨hll, hlz, hle⟩ := okV_l hkk
  have hE := ls_open (by decide) hll hlz hE
  have hel := els_len hll
  refine cd_sq ?_
  refine ap_flexL (T' := 0) rfl en_139 en_140 Try.underlying50 rfl rfl rfl rfl (fun hq u hu => by subst hq; exact al_c u _ hel) (fun hq u hu => by subst hq; exact al_n u _ hel) hE hB (fun u vd Lc ht7 hE => ?_)
  have h0 := h0.trans ht7
  refine at_cd ?_
  refine ap_range (Tl := fun i => ((els (y.at_ 1)).drop i).flatMap (valueB 10 F_sLeaderChangeMessageVoter false v q)) Try.underlying50 rfl (by omega) rfl hE (fun i10 u vd Lc N' X' hi11 hu9 hE kb => ?_) (fun u vd Lc ht8 hE => ?_)
  · skip
    have h0 := h0.trans hu9
    have hE := ls_step hi11 hE
    rcases Hg1_1 with hm0 | ⟨gg, oo, lc, rfl, hgc, hgl, hge⟩
    · omega
    have hy := hge i10 hi11
    have hyr := seg_rc hgc hgl hi11
    have hkk := hle i10 hi11
    refine cd_sq ?_
    refine ap_copy rfl rfl ?_
    refine at_cd ?_
    refine cd_sq ?_
    refine ap_idx (ez := 18) rfl Try.underlying50 tipub_kmsg_LeaderChangeMessageVoter.size hi11 rfl rfl ?_
    refine at_cd ?_
    have hy := RE_part hy
    have hyr : RC t gg (oo + i10 * 18) _ := hyr
    generalize hyy : (els (y.at_ 1))[i10] = ye12 at *
    obtain ⟨fc13, mv13, hce13, hfl13, hTg13⟩ := hy
    simp only [F_sLeaderChangeMessageVoter, RMl] at hfl13
    obtain ⟨x13_0, z13_0, e13_0, g13_0, x13_1, z13_1, e13_1, g13_1, hend13⟩ := hfl13
    obtain rfl := RMf_i32.1 g13_0
    have hq13_1 := RMf_uuid.1 g13_1
    obtain ⟨u13_1_0, u13_1_1, u13_1_2, u13_1_3, u13_1_4, u13_1_5, u13_1_6, u13_1_7, u13_1_8, u13_1_9, u13_1_10, u13_1_11, u13_1_12, u13_1_13, u13_1_14, u13_1_15, hu13_1⟩ := uuid16 (ye12.at_ 1).s
    rw [hu13_1] at hq13_1
    subst hq13_1
    subst hend13
    subst e13_1
    subst e13_0
    rw [hce13] at hyr
    simp only [List.cons_append, List.nil_append, List.append_assoc] at hyr
    obtain ⟨hfl, hfu14⟩ := (show okP F_sLeaderChangeMessageVoter v q ye12 from hkk)
    obtain ⟨k15, hfl⟩ := okFl_cons hfl
    obtain ⟨k16, hfl⟩ := okFl_cons hfl
    have hE := vt_open (by decide) hfu14 hE
    have hyr17 := hyr
    refine cd_sq ?_
    have hE := pl_all (by decide) (hasB_all hv0) hE
    have hkk := okV_get k15 (by decide) (hasB_all hv0)
    refine cd_sq ?_
    refine ap_load (off := 0) rfl Try.underlying141 rfl tiint32.size rfl Try.underlying21 rfl (hyr17.mv h0 (by simp)) rfl rfl ?_
    refine at_cd ?_
    refine ap_call en_138 rfl rfl (fun u hu => by rw [fieldB_s0 (by decide) (by decide) (by decide)]; exact as_i32 u _ _ _) hE hB (fun u vd Lc ht18 hE => ?_)
    have h0 := h0.trans ht18
    refine at_sub (.cons (.skip rfl (.cons (.cons (.cons (.cons (.cons (.cons (.cons (.cons .rfl')))))))))) ?_
    refine at_cd ?_
    refine cd_sq ?_
    have hE := pl_if (by decide) (hasB_from) hE
    refine ap_if rfl rfl hE (fun u vd Lc ht19 hE => ?_) (fun hva hE kk => ?_)
    rotate_left
    · skip
      have hkk := okV_get k16 (by decide) (by rw [hasB_from]; exact decide_eq_true hva)
      refine ap_uuid (off := 1) (vs := [u13_1_0, u13_1_1, u13_1_2, u13_1_3, u13_1_4, u13_1_5, u13_1_6, u13_1_7, u13_1_8, u13_1_9, u13_1_10, u13_1_11, u13_1_12, u13_1_13, u13_1_14, u13_1_15]) rfl Try.underlying141 rfl ti_16_uint8.size rfl Try.underlying139 rfl ti_16_uint8 (zl := List.replicate 16 (.int .u8 0)) rfl rfl (hyr17.mv h0 (by simp)) rfl rfl (by rw [← hu13_1]; exact u8s_one _) en_141 rfl (fun u hu => by have h := as_uuid u (ye12.at_ 1) false q; rw [hu13_1] at h; rw [fieldB_s0 (by decide) (by decide) (by decide)]; exact h) hE hB (fun u vd Lc ht20 hE => ?_)
      have h0 := h0.trans ht20
      exact at_sub (.cons (.cons (.cons (.cons (.cons (.cons (.cons (.cons (.cons .rfl'))))))))) (kk _ _ _ ht20 hE)
    have h0 := h0.trans ht19
    refine at_cd ?_
    have hE := pl_nil hE
    refine ap_tags (off := 17) rfl rfl Try.underlying141 rfl tipub_kmsg_Tags.size rfl (hyr17.mv h0 (by simp)) rfl (hTg13.mv h0) (fun h => (hfu14 h).2) rfl rfl rfl hE hB (fun u vd Lc ht21 hE => ?_)
    have h0 := h0.trans ht21
    exact at_sub (.cons (.skip rfl (.skip rfl (.cons (.cons (.cons (.cons (.cons (.cons .rfl'))))))))) (kb _ _ _ ((ht18.trans ht19).trans ht21) hE)
  have hE := ls_end hE
  have h0 := h0.trans ht8
  refine at_sub (.cons (.skip rfl (.cons (.cons (.cons .rfl'))))) ?_
  refine at_cd ?_
  refine cd_sq ?_
  have hE := pl_all (by decide) (hasB_all hv0) hE
  have hkk := okV_get k4 (by decide) (hasB_all hv0)
  refine cd_sq ?_
  refine ap_load (off := 3) rfl Try.underlying55 rfl tiSl_kmsg_LeaderChangeMessageVoter.size rfl Try.underlying50 rfl (hrc.mv h0 (by simp)) rfl rfl ?_
  refine at_cd ?_
  obtain ⟨hll, hlz, hle⟩ := okV_l hkk
  have hE := ls_open (by decide) hll hlz hE
  have hel := els_len hll
  refine cd_sq ?_
  refine ap_flexL (T' := 0) rfl en_139 en_140 Try.underlying50 rfl rfl rfl rfl (fun hq u hu => by subst hq; exact al_c u _ hel) (fun hq u hu => by subst hq; exact al_n u _ hel) hE hB (fun u vd Lc ht22 hE => ?_)
  have h0 := h0.trans ht22
  refine at_cd ?_
  refine ap_range (Tl := fun i => ((els (y.at_ 2)).drop i).flatMap (valueB 10 F_sLeaderChangeMessageVoter false v q)) Try.underlying50 rfl (by omega) rfl hE (fun i25 u vd Lc N' X' hi26 hu24 hE kb => ?_) (fun u vd Lc ht23 hE => ?_)
  · skip
    have h0 := h0.trans hu24
    have hE := ls_step hi26 hE
    rcases Hg1_2 with hm0 | ⟨gg, oo, lc, rfl, hgc, hgl, hge⟩
    · omega
    have hy := hge i25 hi26
    have hyr := seg_rc hgc hgl hi26
    have hkk := hle i25 hi26
    refine cd_sq ?_
    refine ap_copy rfl rfl ?_
    refine at_cd ?_
    refine cd_sq ?_
    refine ap_idx (ez := 18) rfl Try.underlying50 tipub_kmsg_LeaderChangeMessageVoter.size hi26 rfl rfl ?_
    refine at_cd ?_
    have hy := RE_part hy
    have hyr : RC t gg (oo + i25 * 18) _ := hyr
    generalize hyy : (els (y.at_ 2))[i25] = ye27 at *
    obtain ⟨fc28, mv28, hce28, hfl28, hTg28⟩ := hy
    simp only [F_sLeaderChangeMessageVoter, RMl] at hfl28
    obtain ⟨x28_0, z28_0, e28_0, g28_0, x28_1, z28_1, e28_1, g28_1, hend28⟩ := hfl28
    obtain rfl := RMf_i32.1 g28_0
    have hq28_1 := RMf_uuid.1 g28_1
    obtain ⟨u28_1_0, u28_1_1, u28_1_2, u28_1_3, u28_1_4, u28_1_5, u28_1_6, u28_1_7, u28_1_8, u28_1_9, u28_1_10, u28_1_11, u28_1_12, u28_1_13, u28_1_14, u28_1_15, hu28_1⟩ := uuid16 (ye27.at_ 1).s
    rw [hu28_1] at hq28_1
    subst hq28_1
    subst hend28
    subst e28_1
    subst e28_0
    rw [hce28] at hyr
    simp only [List.cons_append, List.nil_append, List.append_assoc] at hyr
    obtain ⟨hfl, hfu29⟩ := (show okP F_sLeaderChangeMessageVoter v q ye27 from hkk)
    obtain ⟨k30, hfl⟩ := okFl_cons hfl
    obtain ⟨k31, hfl⟩ := okFl_cons hfl
    have hE := vt_open (by decide) hfu29 hE
    have hyr32 := hyr
    refine cd_sq ?_
    have hE := pl_all (by decide) (hasB_all hv0) hE
    have hkk := okV_get k30 (by decide) (hasB_all hv0)
    refine cd_sq ?_
    refine ap_load (off := 0) rfl Try.underlying141 rfl tiint32.size rfl Try.underlying21 rfl (hyr32.mv h0 (by simp)) rfl rfl ?_
    refine at_cd ?_
    refine ap_call en_138 rfl rfl (fun u hu => by rw [fieldB_s0 (by decide) (by decide) (by decide)]; exact as_i32 u _ _ _) hE hB (fun u vd Lc ht33 hE => ?_)
    have h0 := h0.trans ht33
    refine at_sub (.cons (.skip rfl (.cons (.cons (.cons (.cons (.cons (.cons (.cons (.cons .rfl')))))))))) ?_
    refine at_cd ?_
    refine cd_sq ?_
    have hE := pl_if (by decide) (hasB_from) hE
    refine ap_if rfl rfl hE (fun u vd Lc ht34 hE => ?_) (fun hva hE kk => ?_)
    rotate_left
    · skip
      have hkk := okV_get k31 (by decide) (by rw [hasB_from]; exact decide_eq_true hva)
      refine ap_uuid (off := 1) (vs := [u28_1_0, u28_1_1, u28_1_2, u28_1_3, u28_1_4, u28_1_5, u28_1_6, u28_1_7, u28_1_8, u28_1_9, u28_1_10, u28_1_11, u28_1_12, u28_1_13, u28_1_14, u28_1_15]) rfl Try.underlying141 rfl ti_16_uint8.size rfl Try.underlying139 rfl ti_16_uint8 (zl := List.replicate 16 (.int .u8 0)) rfl rfl (hyr32.mv h0 (by simp)) rfl rfl (by rw [← hu28_1]; exact u8s_one _) en_141 rfl (fun u hu => by have h := as_uuid u (ye27.at_ 1) false q; rw [hu28_1] at h; rw [fieldB_s0 (by decide) (by decide) (by decide)]; exact h) hE hB (fun u vd Lc ht35 hE => ?_)
      have h0 := h0.trans ht35
      exact at_sub (.cons (.cons (.cons (.cons (.cons (.cons (.cons (.cons (.cons .rfl'))))))))) (kk _ _ _ ht35 hE)
    have h0 := h0.trans ht34
    refine at_cd ?_
    have hE := pl_nil hE
    refine ap_tags (off := 17) rfl rfl Try.underlying141 rfl tipub_kmsg_Tags.size rfl (hyr32.mv h0 (by simp)) rfl (hTg28.mv h0) (fun h => (hfu29 h).2) rfl rfl rfl hE hB (fun u vd Lc ht36 hE => ?_)
    have h0 := h0.trans ht36
    exact at_sub (.cons (.skip rfl (.skip rfl (.cons (.cons (.cons (.cons (.cons (.cons .rfl'))))))))) (kb _ _ _ ((ht33.trans ht34).trans ht36) hE)
  have hE := ls_end hE
  have h0 := h0.trans ht23
  refine at_sub (.cons (.skip rfl (.cons (.cons (.cons .rfl'))))) ?_
  refine at_cd ?_
  have hE := pl_nil hE
  refine cd_sq ?_
  refine ap_tags (off := 4) rfl rfl Try.underlying55 rfl tipub_kmsg_Tags.size rfl (hrc.mv h0 (by simp)) rfl (hTg1.mv h0) (fun h => (hfu h).2) rfl rfl rfl hE hB (fun u vd Lc ht37 hE => ?_)
  have h0 := h0.trans ht37
  refine at_cd ?_
  have hE : Lc = Full := by simpa using hE
  subst hE
  refine cd_rowone (i := 0) rfl (fun hone => ?_)
  refine cd_sr ?_
  refine ln_pv (pv_move rfl) rfl ?_
  refine ln_pv (pv_assign rfl) rfl ?_
  refine ln_cd ?_
  refine cd_ret ?_
  exact at_retT (i := 0) rfl rfl rfl (fun w hS => ⟨rfl, hone⟩)
end K
end Go.Proofs.Ytmknncmdbmnmgaa
