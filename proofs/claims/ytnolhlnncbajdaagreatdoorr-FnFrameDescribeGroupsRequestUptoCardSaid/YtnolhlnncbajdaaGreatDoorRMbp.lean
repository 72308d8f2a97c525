import Derived.Test.YtnolhlnncbajdaaGreatDoorRA8
import Derived.Test.YtnolhlnncbajdaaGreatDoorRMbs
set_option linter.unusedVariables false
set_option linter.unusedSimpArgs false
namespace Go.Proofs.YtnolhlnncbajdaaGreatDoorR
namespace K
open Go Go.Lib
theorem append_DescribeGroupsRequest (t : Vw) (b : Nat) (v : Int) (y : Tre) (cells : List Value) (vd : Value) (L0 : List UInt8) (hrc : RC t b 0 (.int .i16 v :: cells)) (hM : RMp t F_DescribeGroupsRequest y cells) (hfit : okP F_DescribeGroupsRequest v (flexB 5 v) y) (h0 : 0 ≤ v) (h1 : v ≤ 6) (hB : (L0 ++ partB F_DescribeGroupsRequest v (flexB 5 v) y).length ≤ 4398046511104) (hok : (OctRow vd L0).ok t.w) (hav : ∀ q ∈ (OctRow vd L0).blk, t.av q) : CT Tryz.prog 176 [.pointer (some ⟨b, 0, none⟩), vd] t (OctRow vd L0) fun _ r e' => e' = OctRow r (L0 ++ partB F_DescribeGroupsRequest v (flexB 5 v) y) ∧ r.oneCell' = true := by
  have hv0 := h0
  clear h0
  obtain ⟨fc1, mv1, hce1, hfl1, hTg1⟩ := hM
  simp only [F_DescribeGroupsRequest, RMl] at hfl1
  obtain ⟨x1_0, z1_0, e1_0, g1_0, x1_1, z1_1, e1_1, g1_1, hend1⟩ := hfl1
  obtain ⟨_, rfl, Gg1_0⟩ := RMf_list.1 g1_0
  obtain ⟨ad1_0, cap1_0, rfl, hnil1_0, Hg1_0⟩ := Gg1_0.els
  obtain rfl := RMf_b.1 g1_1
  subst hend1
  subst e1_1
  subst e1_0
  rw [hce1] at hrc
  simp only [List.cons_append, List.nil_append, List.append_assoc] at hrc
  obtain ⟨hfl, hfu⟩ := hfit
  obtain ⟨k2, hfl⟩ := okFl_cons hfl
  obtain ⟨k3, hfl⟩ := okFl_cons hfl
  have hq0 : decide (v ≥ 5) = flexB 5 v := by simp [flexB]
  obtain ⟨Full, hFull⟩ : ∃ F : List UInt8, L0 ++ partB F_DescribeGroupsRequest v (flexB 5 v) y = F := ⟨_, rfl⟩
  rw [hFull] at hB ⊢
  have hE : L0 ++ (partB F_DescribeGroupsRequest v (flexB 5 v) y ++ []) = Full := by rw [List.append_nil]; exact hFull
  clear hFull
  generalize flexB 5 v = q at *
  have hE := pt_open (by decide) hfu hE
  refine ct_enter Tryz.func176 rfl Tryz.ntmps176 rfl hok hav (by simp only [Ent.blk]; cases vd.ownBlock <;> simp) ?_
  generalize L0 = Lc at *
  have h0 : Tr t t := Tr.refl t
  refine cd_sub_ (L' := [(1, vd), (0, .pointer (some ⟨b, 0, none⟩))]) (.put rfl (.put rfl .nil)) ?_
  refine cd_sq ?_
  refine ap_const rfl ?_
  refine at_sub (.skip rfl .rfl') ?_
  refine at_cd ?_
  refine cd_sq ?_
  refine ap_load0 rfl Tryz.underlying97 rfl tiint16.size rfl Tryz.underlying45 rfl (hrc.mv h0 (by simp)) rfl rfl ?_
  refine at_sub (.swap rfl) ?_
  refine at_cd ?_
  refine cd_sq ?_
  refine ap_blank rfl rfl ?_
  refine at_cd ?_
  refine cd_sq ?_
  refine ap_geqF rfl hq0 rfl ?_
  refine at_sub (.swap rfl) ?_
  refine at_cd ?_
  refine cd_sq ?_
  refine ap_blank rfl rfl ?_
  refine at_cd ?_
  refine cd_sq ?_
  have hE := pl_all (by decide) (hasB_all hv0) hE
  have hkk := okV_get k2 (by decide) (hasB_all hv0)
  refine cd_sq ?_
  refine ap_load (off := 1) rfl Tryz.underlying97 rfl tiSl_string.size rfl Tryz.underlying95 rfl (hrc.mv h0 (by simp)) rfl rfl ?_
  refine at_cd ?_
  obtain ⟨hll, hlz, hle⟩ := okV_l hkk
  have hE := ls_open (by decide) hll hlz hE
  have hel := els_len hll
  refine cd_sq ?_
  refine ap_flexL (T' := 0) rfl en_128 en_129 Tryz.underlying95 rfl rfl rfl rfl (fun hq u hu => by subst hq; exact al_c u _ hel) (fun hq u hu => by subst hq; exact al_n u _ hel) hE hB (fun u vd Lc ht4 hE => ?_)
  have h0 := h0.trans ht4
  refine at_cd ?_
  refine ap_range (Tl := fun i => ((els (y.at_ 0)).drop i).flatMap (valueB 8 [] false v q)) Tryz.underlying95 rfl (by omega) rfl hE (fun i7 u vd Lc N' X' hi8 hu6 hE kb => ?_) (fun u vd Lc ht5 hE => ?_)
  · skip
    have h0 := h0.trans hu6
    have hE := ls_step hi8 hE
    rcases Hg1_0 with hm0 | ⟨gg, oo, lc, rfl, hgc, hgl, hge⟩
    · omega
    have hy := hge i7 hi8
    have hyr := seg_rc hgc hgl hi8
    have hkk := hle i7 hi8
    refine cd_sq ?_
    refine ap_copy rfl rfl ?_
    refine at_cd ?_
    have hy := RE_str hy
    have hyr : RC t gg (oo + i7 * 1) _ := hyr
    rw [show seg lc i7 _ = _ from hy] at hyr
    refine cd_sq ?_
    refine ap_idxS rfl Tryz.underlying95 tistring.size hi8 rfl Tryz.underlying9 rfl (hyr.mv h0 (by simp)) rfl ?_
    refine at_cd ?_
    refine ap_flex rfl en_127 en_104 rfl rfl rfl rfl (fun hq u hu => by subst hq; rw [val_sc (by decide)]; exact as_cstr u _ (hkk (.inl rfl)).1) (fun hq u hu => by subst hq; rw [val_sc (by decide)]; exact as_str u _ (hkk (.inl rfl)).1) hE hB (fun u vd Lc ht10 hE => ?_)
    have h0 := h0.trans ht10
    exact at_sub (.cons (.skip rfl (.skip rfl (.cons (.cons (.cons (.cons (.cons (.cons .rfl'))))))))) (kb _ _ _ ht10 hE)
  have hE := ls_end hE
  have h0 := h0.trans ht5
  refine at_sub (.cons (.skip rfl (.cons (.cons (.cons .rfl'))))) ?_
  refine at_cd ?_
  refine cd_sq ?_
  have hE := pl_if (by decide) (hasB_from) hE
  refine ap_if rfl rfl hE (fun u vd Lc ht11 hE => ?_) (fun hva hE kk => ?_)
  rotate_left
  · skip
    have hkk := okV_get k3 (by decide) (by rw [hasB_from]; exact decide_eq_true hva)
    refine cd_sq ?_
    refine ap_load (off := 2) rfl Tryz.underlying97 rfl tibool.size rfl Tryz.underlying4 rfl (hrc.mv h0 (by simp)) rfl rfl ?_
    refine at_cd ?_
    refine ap_call en_173 rfl rfl (fun u hu => by rw [fieldB_s0 (by decide) (by decide) (by decide)]; exact as_b u _ _ _) hE hB (fun u vd Lc ht12 hE => ?_)
    have h0 := h0.trans ht12
    refine at_sub (.cons (.skip rfl (.cons (.cons (.cons .rfl'))))) ?_
    exact at_sub (.cons (.cons (.cons (.cons .rfl')))) (kk _ _ _ ht12 hE)
  have h0 := h0.trans ht11
  refine at_cd ?_
  have hE := pl_nil hE
  refine cd_sq ?_
  refine ap_tags (off := 3) rfl rfl Tryz.underlying97 rfl tipub_kmsg_Tags.size rfl (hrc.mv h0 (by simp)) rfl (hTg1.mv h0) (fun h => (hfu h).2) rfl rfl rfl hE hB (fun u vd Lc ht13 hE => ?_)
  have h0 := h0.trans ht13
  refine at_cd ?_
  have hE : Lc = Full := by simpa using hE
  subst hE
  refine cd_rowone (i := 0) rfl (fun hone => ?_)
  refine cd_sr ?_
  refine ln_pv (pv_move rfl) rfl ?_
  refine ln_pv (pv_assign rfl) rfl ?_
  refine ln_cd ?_
  refine cd_ret ?_
  exact at_retT (i := 0) rfl rfl rfl (fun w hS => ⟨rfl, hone⟩)
end K
end Go.Proofs.YtnolhlnncbajdaaGreatDoorR
