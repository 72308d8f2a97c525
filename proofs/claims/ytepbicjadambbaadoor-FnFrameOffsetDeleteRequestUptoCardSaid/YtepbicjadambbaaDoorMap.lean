import Derived.Test.YtepbicjadambbaaDoorA8
import Derived.Test.YtepbicjadambbaaDoorMas
set_option linter.unusedVariables false
set_option linter.unusedSimpArgs false
namespace Go.Proofs.YtepbicjadambbaaDoor
namespace K
open Go Go.Lib
theorem append_OffsetDeleteRequest (t : Vw) (b : Nat) (v : Int) (y : Tre) (cells : List Value) (vd : Value) (L0 : List UInt8) (hrc : RC t b 0 (.int .i16 v :: cells)) (hM : RMp t F_OffsetDeleteRequest y cells) (hfit : okP F_OffsetDeleteRequest v (flexB (-1) v) y) (h0 : 0 ≤ v) (h1 : v ≤ 0) (hB : (L0 ++ partB F_OffsetDeleteRequest v (flexB (-1) v) y).length ≤ 4398046511104) (hok : (OctRow vd L0).ok t.w) (hav : ∀ q ∈ (OctRow vd L0).blk, t.av q) : CT Tryd.prog 79 [.pointer (some ⟨b, 0, none⟩), vd] t (OctRow vd L0) fun _ r e' => e' = OctRow r (L0 ++ partB F_OffsetDeleteRequest v (flexB (-1) v) y) ∧ r.oneCell' = true := by
  have hv0 := h0
  clear h0
  obtain ⟨fc1, hce1, hfl1⟩ := RMp.op (hM)
  simp only [F_OffsetDeleteRequest, RMl] at hfl1
  obtain ⟨x1_0, z1_0, e1_0, g1_0, x1_1, z1_1, e1_1, g1_1, hend1⟩ := hfl1
  obtain rfl := (RMf_str (by decide)).1 g1_0
  obtain ⟨_, rfl, Gg1_1⟩ := RMf_list.1 g1_1
  obtain ⟨ad1_1, cap1_1, rfl, hnil1_1, Hg1_1⟩ := Gg1_1.els
  subst hend1
  subst e1_1
  subst e1_0
  rw [hce1] at hrc
  simp only [List.cons_append, List.nil_append, List.append_assoc, List.append_nil] at hrc
  obtain ⟨hfl, hfu⟩ := hfit
  obtain ⟨k2, hfl⟩ := okFl_cons hfl
  obtain ⟨k3, hfl⟩ := okFl_cons hfl
  have hq : flexB (-1) v = false := by simp [flexB]
  obtain ⟨Full, hFull⟩ : ∃ F : List UInt8, L0 ++ partB F_OffsetDeleteRequest v (flexB (-1) v) y = F := ⟨_, rfl⟩
  rw [hFull] at hB ⊢
  have hE : L0 ++ (partB F_OffsetDeleteRequest v (flexB (-1) v) y ++ []) = Full := by rw [List.append_nil]; exact hFull
  clear hFull
  rw [hq] at *
  have hE := pt_open (by decide) hfu hE
  refine ct_enter Tryd.func79 rfl Tryd.ntmps79 rfl hok hav (by simp only [Ent.blk]; cases vd.ownBlock <;> simp) ?_
  generalize L0 = Lc at *
  have h0 : Tr t t := Tr.refl t
  refine cd_sub_ (L' := [(1, vd), (0, .pointer (some ⟨b, 0, none⟩))]) (.put rfl (.put rfl .nil)) ?_
  refine cd_sq ?_
  refine ap_const rfl ?_
  refine at_sub (.skip rfl .rfl') ?_
  refine at_cd ?_
  refine cd_sq ?_
  refine ap_load0 rfl Tryd.underlying65 rfl tiint16.size rfl Tryd.underlying45 rfl (hrc.mv h0 (by simp)) rfl rfl ?_
  refine at_sub (.swap rfl) ?_
  refine at_cd ?_
  refine cd_sq ?_
  refine ap_blank rfl rfl ?_
  refine at_cd ?_
  refine cd_sq ?_
  have hE := pl_all (by decide) (hasB_all hv0) hE
  have hkk := okV_get k2 (by decide) (hasB_all hv0)
  refine cd_sq ?_
  refine ap_load (off := 1) rfl Tryd.underlying65 rfl tistring.size rfl Tryd.underlying9 rfl (hrc.mv h0 (by simp)) rfl rfl ?_
  refine at_cd ?_
  refine ap_call en_61 rfl rfl (fun u hu => by rw [fieldB_s0 (by decide) (by decide) (by decide)]; exact as_str u _ (okV_s (by decide) (by decide) hkk (.inl rfl)).1) hE hB (fun u vd Lc ht4 hE => ?_)
  have h0 := h0.trans ht4
  refine at_sub (.cons (.skip rfl (.cons (.cons .rfl')))) ?_
  refine at_cd ?_
  refine cd_sq ?_
  have hE := pl_all (by decide) (hasB_all hv0) hE
  have hkk := okV_get k3 (by decide) (hasB_all hv0)
  refine cd_sq ?_
  refine ap_load (off := 2) rfl Tryd.underlying65 rfl tiSl_kmsg_OffsetDeleteRequestTopic.size rfl Tryd.underlying63 rfl (hrc.mv h0 (by simp)) rfl rfl ?_
  refine at_cd ?_
  obtain ⟨hll, hlz, hle⟩ := okV_l hkk
  have hE := ls_open (by decide) hll hlz hE
  have hel := els_len hll
  refine cd_sq ?_
  refine ap_callL en_83 Tryd.underlying63 rfl rfl (fun u hu => by exact al_n u _ hel) hE hB (fun u vd Lc ht5 hE => ?_)
  have h0 := h0.trans ht5
  refine at_cd ?_
  refine ap_range (Tl := fun i => ((els (y.at_ 1)).drop i).flatMap (valueB 10 F_sOffsetDeleteRequestTopic false v false)) Tryd.underlying63 rfl (by omega) rfl hE (fun i8 u vd Lc N' X' hi9 hu7 hE kb => ?_) (fun u vd Lc ht6 hE => ?_)
  · skip
    have h0 := h0.trans hu7
    have hE := ls_step hi9 hE
    rcases Hg1_1 with hm0 | ⟨gg, oo, lc, rfl, hgc, hgl, hge⟩
    · omega
    have hy := hge i8 hi9
    have hyr := seg_rc hgc hgl hi9
    have hkk := hle i8 hi9
    refine cd_sq ?_
    refine ap_copy rfl rfl ?_
    refine at_cd ?_
    refine cd_sq ?_
    refine ap_idx (ez := 2) rfl Tryd.underlying63 tipub_kmsg_OffsetDeleteRequestTopic.size hi9 rfl rfl ?_
    refine at_cd ?_
    have hy := RE_part hy
    have hyr : RC t gg (oo + i8 * 2) _ := hyr
    generalize hyy : (els (y.at_ 1))[i8] = ye10 at *
    obtain ⟨fc11, hce11, hfl11⟩ := RMp.op (hy)
    simp only [F_sOffsetDeleteRequestTopic, RMl] at hfl11
    obtain ⟨x11_0, z11_0, e11_0, g11_0, x11_1, z11_1, e11_1, g11_1, hend11⟩ := hfl11
    obtain rfl := (RMf_str (by decide)).1 g11_0
    obtain ⟨_, rfl, Gg11_1⟩ := RMf_list.1 g11_1
    obtain ⟨ad11_1, cap11_1, rfl, hnil11_1, Hg11_1⟩ := Gg11_1.els
    subst hend11
    subst e11_1
    subst e11_0
    rw [hce11] at hyr
    simp only [List.cons_append, List.nil_append, List.append_assoc, List.append_nil] at hyr
    obtain ⟨hfl, hfu12⟩ := (show okP F_sOffsetDeleteRequestTopic v false ye10 from hkk)
    obtain ⟨k13, hfl⟩ := okFl_cons hfl
    obtain ⟨k14, hfl⟩ := okFl_cons hfl
    have hE := vt_open (by decide) hfu12 hE
    have hyr15 := hyr
    refine cd_sq ?_
    have hE := pl_all (by decide) (hasB_all hv0) hE
    have hkk := okV_get k13 (by decide) (hasB_all hv0)
    refine cd_sq ?_
    refine ap_load (off := 0) rfl Tryd.underlying98 rfl tistring.size rfl Tryd.underlying9 rfl (hyr15.mv h0 (by simp)) rfl rfl ?_
    refine at_cd ?_
    refine ap_call en_61 rfl rfl (fun u hu => by rw [fieldB_s0 (by decide) (by decide) (by decide)]; exact as_str u _ (okV_s (by decide) (by decide) hkk (.inl rfl)).1) hE hB (fun u vd Lc ht16 hE => ?_)
    have h0 := h0.trans ht16
    refine at_sub (.cons (.skip rfl (.cons (.cons (.cons (.cons (.cons (.cons (.cons .rfl'))))))))) ?_
    refine at_cd ?_
    have hE := pl_all (by decide) (hasB_all hv0) hE
    have hkk := okV_get k14 (by decide) (hasB_all hv0)
    refine cd_sq ?_
    refine ap_load (off := 1) rfl Tryd.underlying98 rfl tiSl_kmsg_OffsetDeleteRequestTopicPartition.size rfl Tryd.underlying96 rfl (hyr15.mv h0 (by simp)) rfl rfl ?_
    refine at_cd ?_
    obtain ⟨hll, hlz, hle⟩ := okV_l hkk
    have hE := ls_open (by decide) hll hlz hE
    have hel := els_len hll
    refine cd_sq ?_
    refine ap_callL en_83 Tryd.underlying96 rfl rfl (fun u hu => by exact al_n u _ hel) hE hB (fun u vd Lc ht17 hE => ?_)
    have h0 := h0.trans ht17
    refine at_cd ?_
    refine ap_range (Tl := fun i => ((els (ye10.at_ 1)).drop i).flatMap (valueB 10 F_sOffsetDeleteRequestTopicPartition false v false)) Tryd.underlying96 rfl (by omega) rfl hE (fun i20 u vd Lc N' X' hi21 hu19 hE kb => ?_) (fun u vd Lc ht18 hE => ?_)
    · skip
      have h0 := h0.trans hu19
      have hE := ls_step hi21 hE
      rcases Hg11_1 with hm0 | ⟨gg, oo, lc, rfl, hgc, hgl, hge⟩
      · omega
      have hy := hge i20 hi21
      have hyr := seg_rc hgc hgl hi21
      have hkk := hle i20 hi21
      refine cd_sq ?_
      refine ap_copy rfl rfl ?_
      refine at_cd ?_
      refine cd_sq ?_
      refine ap_idx (ez := 1) rfl Tryd.underlying96 tipub_kmsg_OffsetDeleteRequestTopicPartition.size hi21 rfl rfl ?_
      refine at_cd ?_
      have hy := RE_part hy
      have hyr : RC t gg (oo + i20 * 1) _ := hyr
      generalize hyy : (els (ye10.at_ 1))[i20] = ye22 at *
      obtain ⟨fc23, hce23, hfl23⟩ := RMp.op (hy)
      simp only [F_sOffsetDeleteRequestTopicPartition, RMl] at hfl23
      obtain ⟨x23_0, z23_0, e23_0, g23_0, hend23⟩ := hfl23
      obtain rfl := RMf_i32.1 g23_0
      subst hend23
      subst e23_0
      rw [hce23] at hyr
      simp only [List.cons_append, List.nil_append, List.append_assoc, List.append_nil] at hyr
      obtain ⟨hfl, hfu24⟩ := (show okP F_sOffsetDeleteRequestTopicPartition v false ye22 from hkk)
      obtain ⟨k25, hfl⟩ := okFl_cons hfl
      have hE := vt_open (by decide) hfu24 hE
      have hyr26 := hyr
      have hE := pl_all (by decide) (hasB_all hv0) hE
      have hkk := okV_get k25 (by decide) (hasB_all hv0)
      refine cd_sq ?_
      refine ap_load (off := 0) rfl Tryd.underlying101 rfl tiint32.size rfl Tryd.underlying21 rfl (hyr26.mv h0 (by simp)) rfl rfl ?_
      refine at_cd ?_
      refine ap_call en_53 rfl rfl (fun u hu => by rw [fieldB_s0 (by decide) (by decide) (by decide)]; exact as_i32 u _ _ _) hE hB (fun u vd Lc ht27 hE => ?_)
      have h0 := h0.trans ht27
      refine at_sub (.cons (.skip rfl (.cons (.cons (.cons (.cons (.cons (.cons (.cons (.cons (.cons (.cons (.cons (.cons .rfl')))))))))))))) ?_
      have hE := pl_nil hE
      simp only [Bool.false_eq_true, if_false, List.nil_append] at hE
      exact at_sub (.cons (.skip rfl (.skip rfl (.cons (.cons (.cons (.cons (.cons (.cons (.cons (.cons (.cons (.cons .rfl'))))))))))))) (kb _ _ _ ht27 hE)
    have hE := ls_end hE
    have h0 := h0.trans ht18
    refine at_sub (.cons (.skip rfl (.cons (.cons (.cons (.cons (.cons (.cons (.cons .rfl'))))))))) ?_
    have hE := pl_nil hE
    simp only [Bool.false_eq_true, if_false, List.nil_append] at hE
    exact at_sub (.cons (.skip rfl (.skip rfl (.cons (.cons (.cons (.cons (.cons .rfl')))))))) (kb _ _ _ ((ht16.trans ht17).trans ht18) hE)
  have hE := ls_end hE
  have h0 := h0.trans ht6
  refine at_sub (.cons (.skip rfl (.cons (.cons .rfl')))) ?_
  refine at_cd ?_
  have hE := pl_nil hE
  try simp only [show flexB (-1) v = false by simp [flexB], Bool.false_eq_true, if_false, List.nil_append] at hE
  have hE : Lc = Full := by simpa using hE
  subst hE
  refine cd_rowone (i := 0) rfl (fun hone => ?_)
  refine cd_sr ?_
  refine ln_pv (pv_move rfl) rfl ?_
  refine ln_pv (pv_assign rfl) rfl ?_
  refine ln_cd ?_
  refine cd_ret ?_
  exact at_retT (i := 0) rfl rfl rfl (fun w hS => ⟨rfl, hone⟩)
end K
end Go.Proofs.YtepbicjadambbaaDoor
