import Derived.Test.YtmknncmdbmnmgaaA4
import Derived.Test.YtmknncmdbmnmgaaMgs
set_option linter.unusedVariables false
set_option linter.unusedSimpArgs false
namespace Go.Proofs.Ytmknncmdbmnmgaa
namespace K
open Go Go.Lib
theorem append_ListTransactionsResponse (t : Vw) (b : Nat) (v : Int) (y : Tre) (cells : List Value) (vd : Value) (L0 : List UInt8) (hrc : RC t b 0 (.int .i16 v :: cells)) (hM : RMp t F_ListTransactionsResponse y cells) (hfit : okP F_ListTransactionsResponse v (flexB 0 v) y) (h0 : 0 ≤ v) (h1 : v ≤ 2) (hB : (L0 ++ partB F_ListTransactionsResponse v (flexB 0 v) y).length ≤ 4398046511104) (hok : (OctRow vd L0).ok t.w) (hav : ∀ q ∈ (OctRow vd L0).blk, t.av q) : CT Try.prog 101 [.pointer (some ⟨b, 0, none⟩), vd] t (OctRow vd L0) fun _ r e' => e' = OctRow r (L0 ++ partB F_ListTransactionsResponse v (flexB 0 v) y) ∧ r.oneCell' = true := by
  have hv0 := h0
  clear h0
  obtain ⟨fc1, mv1, hce1, hfl1, hTg1⟩ := hM
  simp only [F_ListTransactionsResponse, RMl] at hfl1
  obtain ⟨x1_0, z1_0, e1_0, g1_0, x1_1, z1_1, e1_1, g1_1, x1_2, z1_2, e1_2, g1_2, x1_3, z1_3, e1_3, g1_3, hend1⟩ := hfl1
  obtain rfl := RMf_i32.1 g1_0
  obtain rfl := RMf_i16.1 g1_1
  obtain ⟨_, rfl, Gg1_2⟩ := RMf_list.1 g1_2
  obtain ⟨ad1_2, cap1_2, rfl, hnil1_2, Hg1_2⟩ := Gg1_2.els
  obtain ⟨_, rfl, Gg1_3⟩ := RMf_list.1 g1_3
  obtain ⟨ad1_3, cap1_3, rfl, hnil1_3, Hg1_3⟩ := Gg1_3.els
  subst hend1
  subst e1_3
  subst e1_2
  subst e1_1
  subst e1_0
  rw [hce1] at hrc
  simp only [List.cons_append, List.nil_append] at hrc
  obtain ⟨hfl, hfu⟩ := hfit
  obtain ⟨k2, hfl⟩ := okFl_cons hfl
  obtain ⟨k3, hfl⟩ := okFl_cons hfl
  obtain ⟨k4, hfl⟩ := okFl_cons hfl
  obtain ⟨k5, hfl⟩ := okFl_cons hfl
  have hq0 : decide (v ≥ 0) = flexB 0 v := by simp [flexB]
  obtain ⟨Full, hFull⟩ : ∃ F : List UInt8, L0 ++ partB F_ListTransactionsResponse v (flexB 0 v) y = F := ⟨_, rfl⟩
  rw [hFull] at hB ⊢
  have hE : L0 ++ (partB F_ListTransactionsResponse v (flexB 0 v) y ++ []) = Full := by rw [List.append_nil]; exact hFull
  clear hFull
  generalize flexB 0 v = q at *
  have hE := pt_open (by decide) hfu hE
  refine ct_enter Try.func101 rfl Try.ntmps101 rfl hok hav (by simp only [Ent.blk]; cases vd.ownBlock <;> simp) ?_
  generalize L0 = Lc at *
  have h0 : Tr t t := Tr.refl t
  refine cd_sub_ (L' := [(1, vd), (0, .pointer (some ⟨b, 0, none⟩))]) (.put rfl (.put rfl .nil)) ?_
  refine cd_sq ?_
  refine ap_const rfl ?_
  refine at_sub (.skip rfl .rfl') ?_
  refine at_cd ?_
  refine cd_sq ?_
  refine ap_load0 rfl Try.underlying104 rfl tiint16.size rfl Try.underlying49 rfl (hrc.mv h0 (by simp)) rfl rfl ?_
  refine at_sub (.swap rfl) ?_
  refine at_cd ?_
  refine cd_sq ?_
  refine ap_blank rfl rfl ?_
  refine at_cd ?_
  refine cd_sq ?_
  refine ap_geqF rfl hq0 rfl ?_
  refine at_sub (.swap rfl) ?_
  refine at_cd ?_
  refine cd_sq ?_
  refine ap_blank rfl rfl ?_
  refine at_cd ?_
  refine cd_sq ?_
  have hE := pl_all (by decide) (hasB_all hv0) hE
  have hkk := okV_get k2 (by decide) (hasB_all hv0)
  refine cd_sq ?_
  refine ap_load (off := 1) rfl Try.underlying104 rfl tiint32.size rfl Try.underlying21 rfl (hrc.mv h0 (by simp)) rfl rfl ?_
  refine at_cd ?_
  refine ap_call en_138 rfl rfl (fun u hu => by rw [fieldB_s0 (by decide) (by decide) (by decide)]; exact as_i32 u _ _ _) hE hB (fun u vd Lc ht6 hE => ?_)
  have h0 := h0.trans ht6
  refine at_sub (.cons (.skip rfl (.cons (.cons (.cons .rfl'))))) ?_
  refine at_cd ?_
  refine cd_sq ?_
  have hE := pl_all (by decide) (hasB_all hv0) hE
  have hkk := okV_get k3 (by decide) (hasB_all hv0)
  refine cd_sq ?_
  refine ap_load (off := 2) rfl Try.underlying104 rfl tiint16.size rfl Try.underlying49 rfl (hrc.mv h0 (by simp)) rfl rfl ?_
  refine at_cd ?_
  refine ap_call en_137 rfl rfl (fun u hu => by rw [fieldB_s0 (by decide) (by decide) (by decide)]; exact as_i16 u _ _ _) hE hB (fun u vd Lc ht7 hE => ?_)
  have h0 := h0.trans ht7
  refine at_sub (.cons (.skip rfl (.cons (.cons (.cons .rfl'))))) ?_
  refine at_cd ?_
  refine cd_sq ?_
  have hE := pl_all (by decide) (hasB_all hv0) hE
  have hkk := okV_get k4 (by decide) (hasB_all hv0)
  refine cd_sq ?_
  refine ap_load (off := 3) rfl Try.underlying104 rfl tiSl_string.size rfl Try.underlying101 rfl (hrc.mv h0 (by simp)) rfl rfl ?_
  refine at_cd ?_
  obtain ⟨hll, hlz, hle⟩ := okV_l hkk
  have hE := ls_open (by decide) hll hlz hE
  have hel := els_len hll
  refine cd_sq ?_
  refine ap_flexL (T' := 0) rfl en_139 en_140 Try.underlying101 rfl rfl rfl rfl (fun hq u hu => by subst hq; exact al_c u _ hel) (fun hq u hu => by subst hq; exact al_n u _ hel) hE hB (fun u vd Lc ht8 hE => ?_)
  have h0 := h0.trans ht8
  refine at_cd ?_
  refine ap_range (Tl := fun i => ((els (y.at_ 2)).drop i).flatMap (valueB 8 [] false v q)) Try.underlying101 rfl (by omega) rfl hE (fun i11 u vd Lc N' X' hi12 hu10 hE kb => ?_) (fun u vd Lc ht9 hE => ?_)
  · skip
    have h0 := h0.trans hu10
    have hE := ls_step hi12 hE
    rcases Hg1_2 with hm0 | ⟨gg, oo, lc, rfl, hgc, hgl, hge⟩
    · omega
    have hy := hge i11 hi12
    have hyr := seg_rc hgc hgl hi12
    have hkk := hle i11 hi12
    refine cd_sq ?_
    refine ap_copy rfl rfl ?_
    refine at_cd ?_
    have hy := RE_str hy
    have hyr : RC t gg (oo + i11 * 1) _ := hyr
    rw [show seg lc i11 _ = _ from hy] at hyr
    refine cd_sq ?_
    refine ap_idxS rfl Try.underlying101 tistring.size hi12 rfl Try.underlying9 rfl (hyr.mv h0 (by simp)) rfl ?_
    refine at_cd ?_
    refine ap_flex rfl en_162 en_163 rfl rfl rfl rfl (fun hq u hu => by subst hq; rw [val_sc (by decide)]; exact as_cstr u _ (hkk (.inl rfl)).1) (fun hq u hu => by subst hq; rw [val_sc (by decide)]; exact as_str u _ (hkk (.inl rfl)).1) hE hB (fun u vd Lc ht14 hE => ?_)
    have h0 := h0.trans ht14
    exact at_sub (.cons (.skip rfl (.skip rfl (.cons (.cons (.cons (.cons (.cons (.cons .rfl'))))))))) (kb _ _ _ ht14 hE)
  have hE := ls_end hE
  have h0 := h0.trans ht9
  refine at_sub (.cons (.skip rfl (.cons (.cons (.cons .rfl'))))) ?_
  refine at_cd ?_
  refine cd_sq ?_
  have hE := pl_all (by decide) (hasB_all hv0) hE
  have hkk := okV_get k5 (by decide) (hasB_all hv0)
  refine cd_sq ?_
  refine ap_load (off := 4) rfl Try.underlying104 rfl tiSl_kmsg_ListTransactionsResponseTransactionState.size rfl Try.underlying102 rfl (hrc.mv h0 (by simp)) rfl rfl ?_
  refine at_cd ?_
  obtain ⟨hll, hlz, hle⟩ := okV_l hkk
  have hE := ls_open (by decide) hll hlz hE
  have hel := els_len hll
  refine cd_sq ?_
  refine ap_flexL (T' := 0) rfl en_139 en_140 Try.underlying102 rfl rfl rfl rfl (fun hq u hu => by subst hq; exact al_c u _ hel) (fun hq u hu => by subst hq; exact al_n u _ hel) hE hB (fun u vd Lc ht15 hE => ?_)
  have h0 := h0.trans ht15
  refine at_cd ?_
  refine ap_range (Tl := fun i => ((els (y.at_ 3)).drop i).flatMap (valueB 10 F_sListTransactionsResponseTransactionState false v q)) Try.underlying102 rfl (by omega) rfl hE (fun i18 u vd Lc N' X' hi19 hu17 hE kb => ?_) (fun u vd Lc ht16 hE => ?_)
  · skip
    have h0 := h0.trans hu17
    have hE := ls_step hi19 hE
    rcases Hg1_3 with hm0 | ⟨gg, oo, lc, rfl, hgc, hgl, hge⟩
    · omega
    have hy := hge i18 hi19
    have hyr := seg_rc hgc hgl hi19
    have hkk := hle i18 hi19
    refine cd_sq ?_
    refine ap_copy rfl rfl ?_
    refine at_cd ?_
    refine cd_sq ?_
    refine ap_idx (ez := 4) rfl Try.underlying102 tipub_kmsg_ListTransactionsResponseTransactionState.size hi19 rfl rfl ?_
    refine at_cd ?_
    have hy := RE_part hy
    have hyr : RC t gg (oo + i18 * 4) _ := hyr
    generalize hyy : (els (y.at_ 3))[i18] = ye20 at *
    obtain ⟨fc21, mv21, hce21, hfl21, hTg21⟩ := hy
    simp only [F_sListTransactionsResponseTransactionState, RMl] at hfl21
    obtain ⟨x21_0, z21_0, e21_0, g21_0, x21_1, z21_1, e21_1, g21_1, x21_2, z21_2, e21_2, g21_2, hend21⟩ := hfl21
    obtain rfl := (RMf_str (by decide)).1 g21_0
    obtain ⟨rfl, hI21_1⟩ := RMf_i64.1 g21_1
    obtain rfl := (RMf_str (by decide)).1 g21_2
    subst hend21
    subst e21_2
    subst e21_1
    subst e21_0
    rw [hce21] at hyr
    simp only [List.cons_append, List.nil_append] at hyr
    obtain ⟨hfl, hfu22⟩ := (show okP F_sListTransactionsResponseTransactionState v q ye20 from hkk)
    obtain ⟨k23, hfl⟩ := okFl_cons hfl
    obtain ⟨k24, hfl⟩ := okFl_cons hfl
    obtain ⟨k25, hfl⟩ := okFl_cons hfl
    have hE := vt_open (by decide) hfu22 hE
    have hyr26 := hyr
    refine cd_sq ?_
    have hE := pl_all (by decide) (hasB_all hv0) hE
    have hkk := okV_get k23 (by decide) (hasB_all hv0)
    refine cd_sq ?_
    refine ap_load (off := 0) rfl Try.underlying190 rfl tistring.size rfl Try.underlying9 rfl (hyr26.mv h0 (by simp)) rfl rfl ?_
    refine at_cd ?_
    refine ap_flex rfl en_162 en_163 rfl rfl rfl rfl (fun hq u hu => by subst hq; rw [fieldB_s0 (by decide) (by decide) (by decide)]; exact as_cstr u _ (okV_s (by decide) (by decide) hkk (.inl rfl)).1) (fun hq u hu => by subst hq; rw [fieldB_s0 (by decide) (by decide) (by decide)]; exact as_str u _ (okV_s (by decide) (by decide) hkk (.inl rfl)).1) hE hB (fun u vd Lc ht27 hE => ?_)
    have h0 := h0.trans ht27
    refine at_sub (.cons (.skip rfl (.cons (.cons (.cons (.cons (.cons (.cons (.cons (.cons .rfl')))))))))) ?_
    refine at_cd ?_
    refine cd_sq ?_
    have hE := pl_all (by decide) (hasB_all hv0) hE
    have hkk := okV_get k24 (by decide) (hasB_all hv0)
    refine cd_sq ?_
    refine ap_load (off := 1) rfl Try.underlying190 rfl tiint64.size rfl Try.underlying2 rfl (hyr26.mv h0 (by simp)) rfl rfl ?_
    refine at_cd ?_
    refine ap_call en_155 rfl rfl (fun u hu => by rw [fieldB_s0 (by decide) (by decide) (by decide)]; exact as_i64 u _ _ _) hE hB (fun u vd Lc ht28 hE => ?_)
    have h0 := h0.trans ht28
    refine at_sub (.cons (.skip rfl (.cons (.cons (.cons (.cons (.cons (.cons (.cons (.cons .rfl')))))))))) ?_
    refine at_cd ?_
    refine cd_sq ?_
    have hE := pl_all (by decide) (hasB_all hv0) hE
    have hkk := okV_get k25 (by decide) (hasB_all hv0)
    refine cd_sq ?_
    refine ap_load (off := 2) rfl Try.underlying190 rfl tistring.size rfl Try.underlying9 rfl (hyr26.mv h0 (by simp)) rfl rfl ?_
    refine at_cd ?_
    refine ap_flex rfl en_162 en_163 rfl rfl rfl rfl (fun hq u hu => by subst hq; rw [fieldB_s0 (by decide) (by decide) (by decide)]; exact as_cstr u _ (okV_s (by decide) (by decide) hkk (.inl rfl)).1) (fun hq u hu => by subst hq; rw [fieldB_s0 (by decide) (by decide) (by decide)]; exact as_str u _ (okV_s (by decide) (by decide) hkk (.inl rfl)).1) hE hB (fun u vd Lc ht29 hE => ?_)
    have h0 := h0.trans ht29
    refine at_sub (.cons (.skip rfl (.cons (.cons (.cons (.cons (.cons (.cons (.cons (.cons .rfl')))))))))) ?_
    refine at_cd ?_
    have hE := pl_nil hE
    refine ap_tags (off := 3) rfl rfl Try.underlying190 rfl tipub_kmsg_Tags.size rfl (hyr26.mv h0 (by simp)) rfl (hTg21.mv h0) (fun h => (hfu22 h).2) rfl rfl rfl hE hB (fun u vd Lc ht30 hE => ?_)
    have h0 := h0.trans ht30
    exact at_sub (.cons (.skip rfl (.skip rfl (.cons (.cons (.cons (.cons (.cons (.cons .rfl'))))))))) (kb _ _ _ (((ht27.trans ht28).trans ht29).trans ht30) hE)
  have hE := ls_end hE
  have h0 := h0.trans ht16
  refine at_sub (.cons (.skip rfl (.cons (.cons (.cons .rfl'))))) ?_
  refine at_cd ?_
  have hE := pl_nil hE
  refine cd_sq ?_
  refine ap_tags (off := 5) rfl rfl Try.underlying104 rfl tipub_kmsg_Tags.size rfl (hrc.mv h0 (by simp)) rfl (hTg1.mv h0) (fun h => (hfu h).2) rfl rfl rfl hE hB (fun u vd Lc ht31 hE => ?_)
  have h0 := h0.trans ht31
  refine at_cd ?_
  have hE : Lc = Full := by simpa using hE
  subst hE
  refine cd_rowone (i := 0) rfl (fun hone => ?_)
  refine cd_sr ?_
  refine ln_pv (pv_move rfl) rfl ?_
  refine ln_pv (pv_assign rfl) rfl ?_
  refine ln_cd ?_
  refine cd_ret ?_
  exact at_retT (i := 0) rfl rfl rfl (fun w hS => ⟨rfl, hone⟩)
end K
end Go.Proofs.Ytmknncmdbmnmgaa
