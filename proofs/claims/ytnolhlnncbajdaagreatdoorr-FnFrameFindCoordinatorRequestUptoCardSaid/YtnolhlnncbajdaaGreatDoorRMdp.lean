import Derived.Test.YtnolhlnncbajdaaGreatDoorRA8
import Derived.Test.YtnolhlnncbajdaaGreatDoorRMds
set_option linter.unusedVariables false
set_option linter.unusedSimpArgs false
namespace Go.Proofs.YtnolhlnncbajdaaGreatDoorR
namespace K
open Go Go.Lib
theorem append_FindCoordinatorRequest (t : Vw) (b : Nat) (v : Int) (y : Tre) (cells : List Value) (vd : Value) (L0 : List UInt8) (hrc : RC t b 0 (.int .i16 v :: cells)) (hM : RMp t F_FindCoordinatorRequest y cells) (hfit : okP F_FindCoordinatorRequest v (flexB 3 v) y) (h0 : 0 ≤ v) (h1 : v ≤ 6) (hB : (L0 ++ partB F_FindCoordinatorRequest v (flexB 3 v) y).length ≤ 4398046511104) (hok : (OctRow vd L0).ok t.w) (hav : ∀ q ∈ (OctRow vd L0).blk, t.av q) : CT Tryz.prog 180 [.pointer (some ⟨b, 0, none⟩), vd] t (OctRow vd L0) fun _ r e' => e' = OctRow r (L0 ++ partB F_FindCoordinatorRequest v (flexB 3 v) y) ∧ r.oneCell' = true := by
  have hv0 := h0
  clear h0
  obtain ⟨fc1, mv1, hce1, hfl1, hTg1⟩ := hM
  simp only [F_FindCoordinatorRequest, RMl] at hfl1
  obtain ⟨x1_0, z1_0, e1_0, g1_0, x1_1, z1_1, e1_1, g1_1, x1_2, z1_2, e1_2, g1_2, hend1⟩ := hfl1
  obtain rfl := (RMf_str (by decide)).1 g1_0
  obtain rfl := RMf_i8.1 g1_1
  obtain ⟨_, rfl, Gg1_2⟩ := RMf_list.1 g1_2
  obtain ⟨ad1_2, cap1_2, rfl, hnil1_2, Hg1_2⟩ := Gg1_2.els
  subst hend1
  subst e1_2
  subst e1_1
  subst e1_0
  rw [hce1] at hrc
  simp only [List.cons_append, List.nil_append, List.append_assoc] at hrc
  obtain ⟨hfl, hfu⟩ := hfit
  obtain ⟨k2, hfl⟩ := okFl_cons hfl
  obtain ⟨k3, hfl⟩ := okFl_cons hfl
  obtain ⟨k4, hfl⟩ := okFl_cons hfl
  have hq0 : decide (v ≥ 3) = flexB 3 v := by simp [flexB]
  obtain ⟨Full, hFull⟩ : ∃ F : List UInt8, L0 ++ partB F_FindCoordinatorRequest v (flexB 3 v) y = F := ⟨_, rfl⟩
  rw [hFull] at hB ⊢
  have hE : L0 ++ (partB F_FindCoordinatorRequest v (flexB 3 v) y ++ []) = Full := by rw [List.append_nil]; exact hFull
  clear hFull
  generalize flexB 3 v = q at *
  have hE := pt_open (by decide) hfu hE
  refine ct_enter Tryz.func180 rfl Tryz.ntmps180 rfl hok hav (by simp only [Ent.blk]; cases vd.ownBlock <;> simp) ?_
  generalize L0 = Lc at *
  have h0 : Tr t t := Tr.refl t
  refine cd_sub_ (L' := [(1, vd), (0, .pointer (some ⟨b, 0, none⟩))]) (.put rfl (.put rfl .nil)) ?_
  refine cd_sq ?_
  refine ap_const rfl ?_
  refine at_sub (.skip rfl .rfl') ?_
  refine at_cd ?_
  refine cd_sq ?_
  refine ap_load0 rfl Tryz.underlying100 rfl tiint16.size rfl Tryz.underlying45 rfl (hrc.mv h0 (by simp)) rfl rfl ?_
  refine at_sub (.swap rfl) ?_
  refine at_cd ?_
  refine cd_sq ?_
  refine ap_blank rfl rfl ?_
  refine at_cd ?_
  refine cd_sq ?_
  refine ap_geqF rfl hq0 rfl ?_
  refine at_sub (.swap rfl) ?_
  refine at_cd ?_
  refine cd_sq ?_
  refine ap_blank rfl rfl ?_
  refine at_cd ?_
  refine cd_sq ?_
  have hE := pl_if (by decide) (hasB_to (by decide)) hE
  refine ap_if2 rfl rfl hE (fun u vd Lc ht5 hE => ?_) (fun hva hvb hE kk => ?_)
  rotate_left
  · skip
    have hkk := okV_get k2 (by decide) (by rw [hasB_to (by decide)]; exact decide_eq_true ⟨hva, hvb⟩)
    refine cd_sq ?_
    refine ap_load (off := 1) rfl Tryz.underlying100 rfl tistring.size rfl Tryz.underlying9 rfl (hrc.mv h0 (by simp)) rfl rfl ?_
    refine at_cd ?_
    refine ap_flex rfl en_127 en_104 rfl rfl rfl rfl (fun hq u hu => by subst hq; rw [fieldB_s0 (by decide) (by decide) (by decide)]; exact as_cstr u _ (okV_s (by decide) (by decide) hkk (.inl rfl)).1) (fun hq u hu => by subst hq; rw [fieldB_s0 (by decide) (by decide) (by decide)]; exact as_str u _ (okV_s (by decide) (by decide) hkk (.inl rfl)).1) hE hB (fun u vd Lc ht6 hE => ?_)
    have h0 := h0.trans ht6
    refine at_sub (.cons (.skip rfl (.cons (.cons (.cons .rfl'))))) ?_
    exact at_sub (.cons (.cons (.cons (.cons .rfl')))) (kk _ _ _ ht6 hE)
  have h0 := h0.trans ht5
  refine at_cd ?_
  refine cd_sq ?_
  have hE := pl_if (by decide) (hasB_from) hE
  refine ap_if rfl rfl hE (fun u vd Lc ht7 hE => ?_) (fun hva hE kk => ?_)
  rotate_left
  · skip
    have hkk := okV_get k3 (by decide) (by rw [hasB_from]; exact decide_eq_true hva)
    refine cd_sq ?_
    refine ap_load (off := 2) rfl Tryz.underlying100 rfl tiint8.size rfl Tryz.underlying98 rfl (hrc.mv h0 (by simp)) rfl rfl ?_
    refine at_cd ?_
    refine ap_call en_184 rfl rfl (fun u hu => by rw [fieldB_s0 (by decide) (by decide) (by decide)]; exact as_i8 u _ _ _) hE hB (fun u vd Lc ht8 hE => ?_)
    have h0 := h0.trans ht8
    refine at_sub (.cons (.skip rfl (.cons (.cons (.cons .rfl'))))) ?_
    exact at_sub (.cons (.cons (.cons (.cons .rfl')))) (kk _ _ _ ht8 hE)
  have h0 := h0.trans ht7
  refine at_cd ?_
  refine cd_sq ?_
  have hE := pl_if (by decide) (hasB_from) hE
  refine ap_if rfl rfl hE (fun u vd Lc ht9 hE => ?_) (fun hva hE kk => ?_)
  rotate_left
  · skip
    have hkk := okV_get k4 (by decide) (by rw [hasB_from]; exact decide_eq_true hva)
    refine cd_sq ?_
    refine ap_load (off := 3) rfl Tryz.underlying100 rfl tiSl_string.size rfl Tryz.underlying95 rfl (hrc.mv h0 (by simp)) rfl rfl ?_
    refine at_cd ?_
    obtain ⟨hll, hlz, hle⟩ := okV_l hkk
    have hE := ls_open (by decide) hll hlz hE
    have hel := els_len hll
    refine cd_sq ?_
    refine ap_flexL (T' := 0) rfl en_128 en_129 Tryz.underlying95 rfl rfl rfl rfl (fun hq u hu => by subst hq; exact al_c u _ hel) (fun hq u hu => by subst hq; exact al_n u _ hel) hE hB (fun u vd Lc ht10 hE => ?_)
    have h0 := h0.trans ht10
    refine at_cd ?_
    refine ap_range (Tl := fun i => ((els (y.at_ 2)).drop i).flatMap (valueB 8 [] false v q)) Tryz.underlying95 rfl (by omega) rfl hE (fun i13 u vd Lc N' X' hi14 hu12 hE kb => ?_) (fun u vd Lc ht11 hE => ?_)
    · skip
      have h0 := h0.trans hu12
      have hE := ls_step hi14 hE
      rcases Hg1_2 with hm0 | ⟨gg, oo, lc, rfl, hgc, hgl, hge⟩
      · omega
      have hy := hge i13 hi14
      have hyr := seg_rc hgc hgl hi14
      have hkk := hle i13 hi14
      refine cd_sq ?_
      refine ap_copy rfl rfl ?_
      refine at_cd ?_
      have hy := RE_str hy
      have hyr : RC t gg (oo + i13 * 1) _ := hyr
      rw [show seg lc i13 _ = _ from hy] at hyr
      refine cd_sq ?_
      refine ap_idxS rfl Tryz.underlying95 tistring.size hi14 rfl Tryz.underlying9 rfl (hyr.mv h0 (by simp)) rfl ?_
      refine at_cd ?_
      refine ap_flex rfl en_127 en_104 rfl rfl rfl rfl (fun hq u hu => by subst hq; rw [val_sc (by decide)]; exact as_cstr u _ (hkk (.inl rfl)).1) (fun hq u hu => by subst hq; rw [val_sc (by decide)]; exact as_str u _ (hkk (.inl rfl)).1) hE hB (fun u vd Lc ht16 hE => ?_)
      have h0 := h0.trans ht16
      exact at_sub (.cons (.skip rfl (.skip rfl (.cons (.cons (.cons (.cons (.cons (.cons .rfl'))))))))) (kb _ _ _ ht16 hE)
    have hE := ls_end hE
    have h0 := h0.trans ht11
    refine at_sub (.cons (.skip rfl (.cons (.cons (.cons .rfl'))))) ?_
    exact at_sub (.cons (.cons (.cons (.cons .rfl')))) (kk _ _ _ (ht10.trans ht11) hE)
  have h0 := h0.trans ht9
  refine at_cd ?_
  have hE := pl_nil hE
  refine cd_sq ?_
  refine ap_tags (off := 4) rfl rfl Tryz.underlying100 rfl tipub_kmsg_Tags.size rfl (hrc.mv h0 (by simp)) rfl (hTg1.mv h0) (fun h => (hfu h).2) rfl rfl rfl hE hB (fun u vd Lc ht17 hE => ?_)
  have h0 := h0.trans ht17
  refine at_cd ?_
  have hE : Lc = Full := by simpa using hE
  subst hE
  refine cd_rowone (i := 0) rfl (fun hone => ?_)
  refine cd_sr ?_
  refine ln_pv (pv_move rfl) rfl ?_
  refine ln_pv (pv_assign rfl) rfl ?_
  refine ln_cd ?_
  refine cd_ret ?_
  exact at_retT (i := 0) rfl rfl rfl (fun w hS => ⟨rfl, hone⟩)
end K
end Go.Proofs.YtnolhlnncbajdaaGreatDoorR
