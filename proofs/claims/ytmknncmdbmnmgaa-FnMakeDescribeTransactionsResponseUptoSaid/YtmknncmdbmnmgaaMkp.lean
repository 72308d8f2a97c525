import Derived.Test.YtmknncmdbmnmgaaA4
import Derived.Test.YtmknncmdbmnmgaaMks
set_option linter.unusedVariables false
set_option linter.unusedSimpArgs false
namespace Go.Proofs.Ytmknncmdbmnmgaa
namespace K
open Go Go.Lib
theorem append_DescribeTransactionsResponse (t : Vw) (b : Nat) (v : Int) (y : Tre) (cells : List Value) (vd : Value) (L0 : List UInt8) (hrc : RC t b 0 (.int .i16 v :: cells)) (hM : RMp t F_DescribeTransactionsResponse y cells) (hfit : okP F_DescribeTransactionsResponse v (flexB 0 v) y) (h0 : 0 ≤ v) (h1 : v ≤ 0) (hB : (L0 ++ partB F_DescribeTransactionsResponse v (flexB 0 v) y).length ≤ 4398046511104) (hok : (OctRow vd L0).ok t.w) (hav : ∀ q ∈ (OctRow vd L0).blk, t.av q) : CT Try.prog 125 [.pointer (some ⟨b, 0, none⟩), vd] t (OctRow vd L0) fun _ r e' => e' = OctRow r (L0 ++ partB F_DescribeTransactionsResponse v (flexB 0 v) y) ∧ r.oneCell' = true := by
  have hv0 := h0
  clear h0
  obtain ⟨fc1, mv1, hce1, hfl1, hTg1⟩ := hM
  simp only [F_DescribeTransactionsResponse, RMl] at hfl1
  obtain ⟨x1_0, z1_0, e1_0, g1_0, x1_1, z1_1, e1_1, g1_1, hend1⟩ := hfl1
  obtain rfl := RMf_i32.1 g1_0
  obtain ⟨_, rfl, Gg1_1⟩ := RMf_list.1 g1_1
  obtain ⟨ad1_1, cap1_1, rfl, hnil1_1, Hg1_1⟩ := Gg1_1.els
  subst hend1
  subst e1_1
  subst e1_0
  rw [hce1] at hrc
  simp only [List.cons_append, List.nil_append] at hrc
  obtain ⟨hfl, hfu⟩ := hfit
  obtain ⟨k2, hfl⟩ := okFl_cons hfl
  obtain ⟨k3, hfl⟩ := okFl_cons hfl
  have hq0 : decide (v ≥ 0) = flexB 0 v := by simp [flexB]
  obtain ⟨Full, hFull⟩ : ∃ F : List UInt8, L0 ++ partB F_DescribeTransactionsResponse v (flexB 0 v) y = F := ⟨_, rfl⟩
  rw [hFull] at hB ⊢
  have hE : L0 ++ (partB F_DescribeTransactionsResponse v (flexB 0 v) y ++ []) = Full := by rw [List.append_nil]; exact hFull
  clear hFull
  generalize flexB 0 v = q at *
  have hE := pt_open (by decide) hfu hE
  refine ct_enter Try.func125 rfl Try.ntmps125 rfl hok hav (by simp only [Ent.blk]; cases vd.ownBlock <;> simp) ?_
  generalize L0 = Lc at *
  have h0 : Tr t t := Tr.refl t
  refine cd_sub_ (L' := [(1, vd), (0, .pointer (some ⟨b, 0, none⟩))]) (.put rfl (.put rfl .nil)) ?_
  refine cd_sq ?_
  refine ap_const rfl ?_
  refine at_sub (.skip rfl .rfl') ?_
  refine at_cd ?_
  refine cd_sq ?_
  refine ap_load0 rfl Try.underlying128 rfl tiint16.size rfl Try.underlying49 rfl (hrc.mv h0 (by simp)) rfl rfl ?_
  refine at_sub (.swap rfl) ?_
  refine at_cd ?_
  refine cd_sq ?_
  refine ap_blank rfl rfl ?_
  refine at_cd ?_
  refine cd_sq ?_
  refine ap_geqF rfl hq0 rfl ?_
  refine at_sub (.swap rfl) ?_
  refine at_cd ?_
  refine cd_sq ?_
  refine ap_blank rfl rfl ?_
  refine at_cd ?_
  refine cd_sq ?_
  have hE := pl_all (by decide) (hasB_all hv0) hE
  have hkk := okV_get k2 (by decide) (hasB_all hv0)
  refine cd_sq ?_
  refine ap_load (off := 1) rfl Try.underlying128 rfl tiint32.size rfl Try.underlying21 rfl (hrc.mv h0 (by simp)) rfl rfl ?_
  refine at_cd ?_
  refine ap_call en_138 rfl rfl (fun u hu => by rw [fieldB_s0 (by decide) (by decide) (by decide)]; exact as_i32 u _ _ _) hE hB (fun u vd Lc ht4 hE => ?_)
  have h0 := h0.trans ht4
  refine at_sub (.cons (.skip rfl (.cons (.cons (.cons .rfl'))))) ?_
  refine at_cd ?_
  refine cd_sq ?_
  have hE := pl_all (by decide) (hasB_all hv0) hE
  have hkk := okV_get k3 (by decide) (hasB_all hv0)
  refine cd_sq ?_
  refine ap_load (off := 2) rfl Try.underlying128 rfl tiSl_kmsg_DescribeTransactionsResponseTransactionState.size rfl Try.underlying126 rfl (hrc.mv h0 (by simp)) rfl rfl ?_
  refine at_cd ?_
  obtain ⟨hll, hlz, hle⟩ := okV_l hkk
  have hE := ls_open (by decide) hll hlz hE
  have hel := els_len hll
  refine cd_sq ?_
  refine ap_flexL (T' := 0) rfl en_139 en_140 Try.underlying126 rfl rfl rfl rfl (fun hq u hu => by subst hq; exact al_c u _ hel) (fun hq u hu => by subst hq; exact al_n u _ hel) hE hB (fun u vd Lc ht5 hE => ?_)
  have h0 := h0.trans ht5
  refine at_cd ?_
  refine ap_range (Tl := fun i => ((els (y.at_ 1)).drop i).flatMap (valueB 10 F_sDescribeTransactionsResponseTransactionState false v q)) Try.underlying126 rfl (by omega) rfl hE (fun i8 u vd Lc N' X' hi9 hu7 hE kb => ?_) (fun u vd Lc ht6 hE => ?_)
  · skip
    have h0 := h0.trans hu7
    have hE := ls_step hi9 hE
    rcases Hg1_1 with hm0 | ⟨gg, oo, lc, rfl, hgc, hgl, hge⟩
    · omega
    have hy := hge i8 hi9
    have hyr := seg_rc hgc hgl hi9
    have hkk := hle i8 hi9
    refine cd_sq ?_
    refine ap_copy rfl rfl ?_
    refine at_cd ?_
    refine cd_sq ?_
    refine ap_idx (ez := 9) rfl Try.underlying126 tipub_kmsg_DescribeTransactionsResponseTransactionState.size hi9 rfl rfl ?_
    refine at_cd ?_
    have hy := RE_part hy
    have hyr : RC t gg (oo + i8 * 9) _ := hyr
    generalize hyy : (els (y.at_ 1))[i8] = ye10 at *
    obtain ⟨fc11, mv11, hce11, hfl11, hTg11⟩ := hy
    simp only [F_sDescribeTransactionsResponseTransactionState, RMl] at hfl11
    obtain ⟨x11_0, z11_0, e11_0, g11_0, x11_1, z11_1, e11_1, g11_1, x11_2, z11_2, e11_2, g11_2, x11_3, z11_3, e11_3, g11_3, x11_4, z11_4, e11_4, g11_4, x11_5, z11_5, e11_5, g11_5, x11_6, z11_6, e11_6, g11_6, x11_7, z11_7, e11_7, g11_7, hend11⟩ := hfl11
    obtain rfl := RMf_i16.1 g11_0
    obtain rfl := (RMf_str (by decide)).1 g11_1
    obtain rfl := (RMf_str (by decide)).1 g11_2
    obtain rfl := RMf_i32.1 g11_3
    obtain ⟨rfl, hI11_4⟩ := RMf_i64.1 g11_4
    obtain ⟨rfl, hI11_5⟩ := RMf_i64.1 g11_5
    obtain rfl := RMf_i16.1 g11_6
    obtain ⟨_, rfl, Gg11_7⟩ := RMf_list.1 g11_7
    obtain ⟨ad11_7, cap11_7, rfl, hnil11_7, Hg11_7⟩ := Gg11_7.els
    subst hend11
    subst e11_7
    subst e11_6
    subst e11_5
    subst e11_4
    subst e11_3
    subst e11_2
    subst e11_1
    subst e11_0
    rw [hce11] at hyr
    simp only [List.cons_append, List.nil_append] at hyr
    obtain ⟨hfl, hfu12⟩ := (show okP F_sDescribeTransactionsResponseTransactionState v q ye10 from hkk)
    obtain ⟨k13, hfl⟩ := okFl_cons hfl
    obtain ⟨k14, hfl⟩ := okFl_cons hfl
    obtain ⟨k15, hfl⟩ := okFl_cons hfl
    obtain ⟨k16, hfl⟩ := okFl_cons hfl
    obtain ⟨k17, hfl⟩ := okFl_cons hfl
    obtain ⟨k18, hfl⟩ := okFl_cons hfl
    obtain ⟨k19, hfl⟩ := okFl_cons hfl
    obtain ⟨k20, hfl⟩ := okFl_cons hfl
    have hE := vt_open (by decide) hfu12 hE
    have hyr21 := hyr
    refine cd_sq ?_
    have hE := pl_all (by decide) (hasB_all hv0) hE
    have hkk := okV_get k13 (by decide) (hasB_all hv0)
    refine cd_sq ?_
    refine ap_load (off := 0) rfl Try.underlying215 rfl tiint16.size rfl Try.underlying49 rfl (hyr21.mv h0 (by simp)) rfl rfl ?_
    refine at_cd ?_
    refine ap_call en_137 rfl rfl (fun u hu => by rw [fieldB_s0 (by decide) (by decide) (by decide)]; exact as_i16 u _ _ _) hE hB (fun u vd Lc ht22 hE => ?_)
    have h0 := h0.trans ht22
    refine at_sub (.cons (.skip rfl (.cons (.cons (.cons (.cons (.cons (.cons (.cons (.cons .rfl')))))))))) ?_
    refine at_cd ?_
    refine cd_sq ?_
    have hE := pl_all (by decide) (hasB_all hv0) hE
    have hkk := okV_get k14 (by decide) (hasB_all hv0)
    refine cd_sq ?_
    refine ap_load (off := 1) rfl Try.underlying215 rfl tistring.size rfl Try.underlying9 rfl (hyr21.mv h0 (by simp)) rfl rfl ?_
    refine at_cd ?_
    refine ap_flex rfl en_162 en_163 rfl rfl rfl rfl (fun hq u hu => by subst hq; rw [fieldB_s0 (by decide) (by decide) (by decide)]; exact as_cstr u _ (okV_s (by decide) (by decide) hkk (.inl rfl)).1) (fun hq u hu => by subst hq; rw [fieldB_s0 (by decide) (by decide) (by decide)]; exact as_str u _ (okV_s (by decide) (by decide) hkk (.inl rfl)).1) hE hB (fun u vd Lc ht23 hE => ?_)
    have h0 := h0.trans ht23
    refine at_sub (.cons (.skip rfl (.cons (.cons (.cons (.cons (.cons (.cons (.cons (.cons .rfl')))))))))) ?_
    refine at_cd ?_
    refine cd_sq ?_
    have hE := pl_all (by decide) (hasB_all hv0) hE
    have hkk := okV_get k15 (by decide) (hasB_all hv0)
    refine cd_sq ?_
    refine ap_load (off := 2) rfl Try.underlying215 rfl tistring.size rfl Try.underlying9 rfl (hyr21.mv h0 (by simp)) rfl rfl ?_
    refine at_cd ?_
    refine ap_flex rfl en_162 en_163 rfl rfl rfl rfl (fun hq u hu => by subst hq; rw [fieldB_s0 (by decide) (by decide) (by decide)]; exact as_cstr u _ (okV_s (by decide) (by decide) hkk (.inl rfl)).1) (fun hq u hu => by subst hq; rw [fieldB_s0 (by decide) (by decide) (by decide)]; exact as_str u _ (okV_s (by decide) (by decide) hkk (.inl rfl)).1) hE hB (fun u vd Lc ht24 hE => ?_)
    have h0 := h0.trans ht24
    refine at_sub (.cons (.skip rfl (.cons (.cons (.cons (.cons (.cons (.cons (.cons (.cons .rfl')))))))))) ?_
    refine at_cd ?_
    refine cd_sq ?_
    have hE := pl_all (by decide) (hasB_all hv0) hE
    have hkk := okV_get k16 (by decide) (hasB_all hv0)
    refine cd_sq ?_
    refine ap_load (off := 3) rfl Try.underlying215 rfl tiint32.size rfl Try.underlying21 rfl (hyr21.mv h0 (by simp)) rfl rfl ?_
    refine at_cd ?_
    refine ap_call en_138 rfl rfl (fun u hu => by rw [fieldB_s0 (by decide) (by decide) (by decide)]; exact as_i32 u _ _ _) hE hB (fun u vd Lc ht25 hE => ?_)
    have h0 := h0.trans ht25
    refine at_sub (.cons (.skip rfl (.cons (.cons (.cons (.cons (.cons (.cons (.cons (.cons .rfl')))))))))) ?_
    refine at_cd ?_
    refine cd_sq ?_
    have hE := pl_all (by decide) (hasB_all hv0) hE
    have hkk := okV_get k17 (by decide) (hasB_all hv0)
    refine cd_sq ?_
    refine ap_load (off := 4) rfl Try.underlying215 rfl tiint64.size rfl Try.underlying2 rfl (hyr21.mv h0 (by simp)) rfl rfl ?_
    refine at_cd ?_
    refine ap_call en_155 rfl rfl (fun u hu => by rw [fieldB_s0 (by decide) (by decide) (by decide)]; exact as_i64 u _ _ _) hE hB (fun u vd Lc ht26 hE => ?_)
    have h0 := h0.trans ht26
    refine at_sub (.cons (.skip rfl (.cons (.cons (.cons (.cons (.cons (.cons (.cons (.cons .rfl')))))))))) ?_
    refine at_cd ?_
    refine cd_sq ?_
    have hE := pl_all (by decide) (hasB_all hv0) hE
    have hkk := okV_get k18 (by decide) (hasB_all hv0)
    refine cd_sq ?_
    refine ap_load (off := 5) rfl Try.underlying215 rfl tiint64.size rfl Try.underlying2 rfl (hyr21.mv h0 (by simp)) rfl rfl ?_
    refine at_cd ?_
    refine ap_call en_155 rfl rfl (fun u hu => by rw [fieldB_s0 (by decide) (by decide) (by decide)]; exact as_i64 u _ _ _) hE hB (fun u vd Lc ht27 hE => ?_)
    have h0 := h0.trans ht27
    refine at_sub (.cons (.skip rfl (.cons (.cons (.cons (.cons (.cons (.cons (.cons (.cons .rfl')))))))))) ?_
    refine at_cd ?_
    refine cd_sq ?_
    have hE := pl_all (by decide) (hasB_all hv0) hE
    have hkk := okV_get k19 (by decide) (hasB_all hv0)
    refine cd_sq ?_
    refine ap_load (off := 6) rfl Try.underlying215 rfl tiint16.size rfl Try.underlying49 rfl (hyr21.mv h0 (by simp)) rfl rfl ?_
    refine at_cd ?_
    refine ap_call en_137 rfl rfl (fun u hu => by rw [fieldB_s0 (by decide) (by decide) (by decide)]; exact as_i16 u _ _ _) hE hB (fun u vd Lc ht28 hE => ?_)
    have h0 := h0.trans ht28
    refine at_sub (.cons (.skip rfl (.cons (.cons (.cons (.cons (.cons (.cons (.cons (.cons .rfl')))))))))) ?_
    refine at_cd ?_
    refine cd_sq ?_
    have hE := pl_all (by decide) (hasB_all hv0) hE
    have hkk := okV_get k20 (by decide) (hasB_all hv0)
    refine cd_sq ?_
    refine ap_load (off := 7) rfl Try.underlying215 rfl tiSl_kmsg_DescribeTransactionsResponseTransactionStateTopic.size rfl Try.underlying213 rfl (hyr21.mv h0 (by simp)) rfl rfl ?_
    refine at_cd ?_
    obtain ⟨hll, hlz, hle⟩ := okV_l hkk
    have hE := ls_open (by decide) hll hlz hE
    have hel := els_len hll
    refine cd_sq ?_
    refine ap_flexL (T' := 0) rfl en_139 en_140 Try.underlying213 rfl rfl rfl rfl (fun hq u hu => by subst hq; exact al_c u _ hel) (fun hq u hu => by subst hq; exact al_n u _ hel) hE hB (fun u vd Lc ht29 hE => ?_)
    have h0 := h0.trans ht29
    refine at_cd ?_
    refine ap_range (Tl := fun i => ((els (ye10.at_ 7)).drop i).flatMap (valueB 10 F_sDescribeTransactionsResponseTransactionStateTopic false v q)) Try.underlying213 rfl (by omega) rfl hE (fun i32 u vd Lc N' X' hi33 hu31 hE kb => ?_) (fun u vd Lc ht30 hE => ?_)
    · skip
      have h0 := h0.trans hu31
      have hE := ls_step hi33 hE
      rcases Hg11_7 with hm0 | ⟨gg, oo, lc, rfl, hgc, hgl, hge⟩
      · omega
      have hy := hge i32 hi33
      have hyr := seg_rc hgc hgl hi33
      have hkk := hle i32 hi33
      refine cd_sq ?_
      refine ap_copy rfl rfl ?_
      refine at_cd ?_
      refine cd_sq ?_
      refine ap_idx (ez := 3) rfl Try.underlying213 tipub_kmsg_DescribeTransactionsResponseTransactionStateTopic.size hi33 rfl rfl ?_
      refine at_cd ?_
      have hy := RE_part hy
      have hyr : RC t gg (oo + i32 * 3) _ := hyr
      generalize hyy : (els (ye10.at_ 7))[i32] = ye34 at *
      obtain ⟨fc35, mv35, hce35, hfl35, hTg35⟩ := hy
      simp only [F_sDescribeTransactionsResponseTransactionStateTopic, RMl] at hfl35
      obtain ⟨x35_0, z35_0, e35_0, g35_0, x35_1, z35_1, e35_1, g35_1, hend35⟩ := hfl35
      obtain rfl := (RMf_str (by decide)).1 g35_0
      obtain ⟨_, rfl, Gg35_1⟩ := RMf_list.1 g35_1
      obtain ⟨ad35_1, cap35_1, rfl, hnil35_1, Hg35_1⟩ := Gg35_1.els
      subst hend35
      subst e35_1
      subst e35_0
      rw [hce35] at hyr
      simp only [List.cons_append, List.nil_append] at hyr
      obtain ⟨hfl, hfu36⟩ := (show okP F_sDescribeTransactionsResponseTransactionStateTopic v q ye34 from hkk)
      obtain ⟨k37, hfl⟩ := okFl_cons hfl
      obtain ⟨k38, hfl⟩ := okFl_cons hfl
      have hE := vt_open (by decide) hfu36 hE
      have hyr39 := hyr
      refine cd_sq ?_
      have hE := pl_all (by decide) (hasB_all hv0) hE
      have hkk := okV_get k37 (by decide) (hasB_all hv0)
      refine cd_sq ?_
      refine ap_load (off := 0) rfl Try.underlying221 rfl tistring.size rfl Try.underlying9 rfl (hyr39.mv h0 (by simp)) rfl rfl ?_
      refine at_cd ?_
      refine ap_flex rfl en_162 en_163 rfl rfl rfl rfl (fun hq u hu => by subst hq; rw [fieldB_s0 (by decide) (by decide) (by decide)]; exact as_cstr u _ (okV_s (by decide) (by decide) hkk (.inl rfl)).1) (fun hq u hu => by subst hq; rw [fieldB_s0 (by decide) (by decide) (by decide)]; exact as_str u _ (okV_s (by decide) (by decide) hkk (.inl rfl)).1) hE hB (fun u vd Lc ht40 hE => ?_)
      have h0 := h0.trans ht40
      refine at_sub (.cons (.skip rfl (.cons (.cons (.cons (.cons (.cons (.cons (.cons (.cons (.cons (.cons (.cons (.cons (.cons .rfl'))))))))))))))) ?_
      refine at_cd ?_
      refine cd_sq ?_
      have hE := pl_all (by decide) (hasB_all hv0) hE
      have hkk := okV_get k38 (by decide) (hasB_all hv0)
      refine cd_sq ?_
      refine ap_load (off := 1) rfl Try.underlying221 rfl tiSl_int32.size rfl Try.underlying219 rfl (hyr39.mv h0 (by simp)) rfl rfl ?_
      refine at_cd ?_
      obtain ⟨hll, hlz, hle⟩ := okV_l hkk
      have hE := ls_open (by decide) hll hlz hE
      have hel := els_len hll
      refine cd_sq ?_
      refine ap_flexL (T' := 0) rfl en_139 en_140 Try.underlying219 rfl rfl rfl rfl (fun hq u hu => by subst hq; exact al_c u _ hel) (fun hq u hu => by subst hq; exact al_n u _ hel) hE hB (fun u vd Lc ht41 hE => ?_)
      have h0 := h0.trans ht41
      refine at_cd ?_
      refine ap_range (Tl := fun i => ((els (ye34.at_ 1)).drop i).flatMap (valueB 3 [] false v q)) Try.underlying219 rfl (by omega) rfl hE (fun i44 u vd Lc N' X' hi45 hu43 hE kb => ?_) (fun u vd Lc ht42 hE => ?_)
      · skip
        have h0 := h0.trans hu43
        have hE := ls_step hi45 hE
        rcases Hg35_1 with hm0 | ⟨gg, oo, lc, rfl, hgc, hgl, hge⟩
        · omega
        have hy := hge i44 hi45
        have hyr := seg_rc hgc hgl hi45
        have hkk := hle i44 hi45
        refine cd_sq ?_
        refine ap_copy rfl rfl ?_
        refine at_cd ?_
        have hy := RE_i32 hy
        have hyr : RC t gg (oo + i44 * 1) _ := hyr
        rw [show seg lc i44 _ = _ from hy] at hyr
        refine cd_sq ?_
        refine ap_idxS rfl Try.underlying219 tiint32.size hi45 rfl Try.underlying21 rfl (hyr.mv h0 (by simp)) rfl ?_
        refine at_cd ?_
        refine ap_call en_138 rfl rfl (fun u hu => by rw [val_sc (by decide)]; exact as_i32 u _ _ _) hE hB (fun u vd Lc ht47 hE => ?_)
        have h0 := h0.trans ht47
        exact at_sub (.cons (.skip rfl (.skip rfl (.cons (.cons (.cons (.cons (.cons (.cons (.cons (.cons (.cons (.cons (.cons (.cons (.cons (.cons (.cons (.cons .rfl'))))))))))))))))))) (kb _ _ _ ht47 hE)
      have hE := ls_end hE
      have h0 := h0.trans ht42
      refine at_sub (.cons (.skip rfl (.cons (.cons (.cons (.cons (.cons (.cons (.cons (.cons (.cons (.cons (.cons (.cons (.cons .rfl'))))))))))))))) ?_
      refine at_cd ?_
      have hE := pl_nil hE
      refine ap_tags (off := 2) rfl rfl Try.underlying221 rfl tipub_kmsg_Tags.size rfl (hyr39.mv h0 (by simp)) rfl (hTg35.mv h0) (fun h => (hfu36 h).2) rfl rfl rfl hE hB (fun u vd Lc ht48 hE => ?_)
      have h0 := h0.trans ht48
      exact at_sub (.cons (.skip rfl (.skip rfl (.cons (.cons (.cons (.cons (.cons (.cons (.cons (.cons (.cons (.cons (.cons .rfl')))))))))))))) (kb _ _ _ (((ht40.trans ht41).trans ht42).trans ht48) hE)
    have hE := ls_end hE
    have h0 := h0.trans ht30
    refine at_sub (.cons (.skip rfl (.cons (.cons (.cons (.cons (.cons (.cons (.cons (.cons .rfl')))))))))) ?_
    refine at_cd ?_
    have hE := pl_nil hE
    refine ap_tags (off := 8) rfl rfl Try.underlying215 rfl tipub_kmsg_Tags.size rfl (hyr21.mv h0 (by simp)) rfl (hTg11.mv h0) (fun h => (hfu12 h).2) rfl rfl rfl hE hB (fun u vd Lc ht49 hE => ?_)
    have h0 := h0.trans ht49
    exact at_sub (.cons (.skip rfl (.skip rfl (.cons (.cons (.cons (.cons (.cons (.cons .rfl'))))))))) (kb _ _ _ (((((((((ht22.trans ht23).trans ht24).trans ht25).trans ht26).trans ht27).trans ht28).trans ht29).trans ht30).trans ht49) hE)
  have hE := ls_end hE
  have h0 := h0.trans ht6
  refine at_sub (.cons (.skip rfl (.cons (.cons (.cons .rfl'))))) ?_
  refine at_cd ?_
  have hE := pl_nil hE
  refine cd_sq ?_
  refine ap_tags (off := 3) rfl rfl Try.underlying128 rfl tipub_kmsg_Tags.size rfl (hrc.mv h0 (by simp)) rfl (hTg1.mv h0) (fun h => (hfu h).2) rfl rfl rfl hE hB (fun u vd Lc ht50 hE => ?_)
  have h0 := h0.trans ht50
  refine at_cd ?_
  have hE : Lc = Full := by simpa using hE
  subst hE
  refine cd_rowone (i := 0) rfl (fun hone => ?_)
  refine cd_sr ?_
  refine ln_pv (pv_move rfl) rfl ?_
  refine ln_pv (pv_assign rfl) rfl ?_
  refine ln_cd ?_
  refine cd_ret ?_
  exact at_retT (i := 0) rfl rfl rfl (fun w hS => ⟨rfl, hone⟩)
end K
end Go.Proofs.Ytmknncmdbmnmgaa
