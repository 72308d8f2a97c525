import Derived.Test.YtocldgajllapfaaGreatDoorA8
import Derived.Test.YtocldgajllapfaaGreatDoorMcs
set_option linter.unusedVariables false
set_option linter.unusedSimpArgs false
namespace Go.Proofs.YtocldgajllapfaaGreatDoor
namespace K
open Go Go.Lib
theorem append_AllocateProducerIDsRequest (t : Vw) (b : Nat) (v : Int) (y : Tre) (cells : List Value) (vd : Value) (L0 : List UInt8) (hrc : RC t b 0 (.int .i16 v :: cells)) (hM : RMp t F_AllocateProducerIDsRequest y cells) (hfit : okP F_AllocateProducerIDsRequest v (flexB 0 v) y) (h0 : 0 ≤ v) (h1 : v ≤ 0) (hB : (L0 ++ partB F_AllocateProducerIDsRequest v (flexB 0 v) y).length ≤ 4398046511104) (hok : (OctRow vd L0).ok t.w) (hav : ∀ q ∈ (OctRow vd L0).blk, t.av q) : CT Tryz.prog 145 [.pointer (some ⟨b, 0, none⟩), vd] t (OctRow vd L0) fun _ r e' => e' = OctRow r (L0 ++ partB F_AllocateProducerIDsRequest v (flexB 0 v) y) ∧ r.oneCell' = true := by
  have hv0 := h0
  clear h0
  obtain ⟨fc1, mv1, hce1, hfl1, hTg1⟩ := hM
  simp only [F_AllocateProducerIDsRequest, RMl] at hfl1
  obtain ⟨x1_0, z1_0, e1_0, g1_0, x1_1, z1_1, e1_1, g1_1, hend1⟩ := hfl1
  obtain rfl := RMf_i32.1 g1_0
  obtain ⟨rfl, hI1_1⟩ := RMf_i64.1 g1_1
  subst hend1
  subst e1_1
  subst e1_0
  rw [hce1] at hrc
  simp only [List.cons_append, List.nil_append, List.append_assoc] at hrc
  obtain ⟨hfl, hfu⟩ := hfit
  obtain ⟨k2, hfl⟩ := okFl_cons hfl
  obtain ⟨k3, hfl⟩ := okFl_cons hfl
  have hq0 : decide (v ≥ 0) = flexB 0 v := by simp [flexB]
  obtain ⟨Full, hFull⟩ : ∃ F : List UInt8, L0 ++ partB F_AllocateProducerIDsRequest v (flexB 0 v) y = F := ⟨_, rfl⟩
  rw [hFull] at hB ⊢
  have hE : L0 ++ (partB F_AllocateProducerIDsRequest v (flexB 0 v) y ++ []) = Full := by rw [List.append_nil]; exact hFull
  clear hFull
  generalize flexB 0 v = q at *
  have hE := pt_open (by decide) hfu hE
  refine ct_enter Tryz.func145 rfl Tryz.ntmps145 rfl hok hav (by simp only [Ent.blk]; cases vd.ownBlock <;> simp) ?_
  generalize L0 = Lc at *
  have h0 : Tr t t := Tr.refl t
  refine cd_sub_ (L' := [(1, vd), (0, .pointer (some ⟨b, 0, none⟩))]) (.put rfl (.put rfl .nil)) ?_
  refine cd_sq ?_
  refine ap_const rfl ?_
  refine at_sub (.skip rfl .rfl') ?_
  refine at_cd ?_
  refine cd_sq ?_
  refine ap_load0 rfl Tryz.underlying92 rfl tiint16.size rfl Tryz.underlying45 rfl (hrc.mv h0 (by simp)) rfl rfl ?_
  refine at_sub (.swap rfl) ?_
  refine at_cd ?_
  refine cd_sq ?_
  refine ap_blank rfl rfl ?_
  refine at_cd ?_
  refine cd_sq ?_
  refine ap_geqF rfl hq0 rfl ?_
  refine at_sub (.swap rfl) ?_
  refine at_cd ?_
  refine cd_sq ?_
  refine ap_blank rfl rfl ?_
  refine at_cd ?_
  refine cd_sq ?_
  have hE := pl_all (by decide) (hasB_all hv0) hE
  have hkk := okV_get k2 (by decide) (hasB_all hv0)
  refine cd_sq ?_
  refine ap_load (off := 1) rfl Tryz.underlying92 rfl tiint32.size rfl Tryz.underlying21 rfl (hrc.mv h0 (by simp)) rfl rfl ?_
  refine at_cd ?_
  refine ap_call en_66 rfl rfl (fun u hu => by rw [fieldB_s0 (by decide) (by decide) (by decide)]; exact as_i32 u _ _ _) hE hB (fun u vd Lc ht4 hE => ?_)
  have h0 := h0.trans ht4
  refine at_sub (.cons (.skip rfl (.cons (.cons (.cons .rfl'))))) ?_
  refine at_cd ?_
  refine cd_sq ?_
  have hE := pl_all (by decide) (hasB_all hv0) hE
  have hkk := okV_get k3 (by decide) (hasB_all hv0)
  refine cd_sq ?_
  refine ap_load (off := 2) rfl Tryz.underlying92 rfl tiint64.size rfl Tryz.underlying2 rfl (hrc.mv h0 (by simp)) rfl rfl ?_
  refine at_cd ?_
  refine ap_call en_149 rfl rfl (fun u hu => by rw [fieldB_s0 (by decide) (by decide) (by decide)]; exact as_i64 u _ _ _) hE hB (fun u vd Lc ht5 hE => ?_)
  have h0 := h0.trans ht5
  refine at_sub (.cons (.skip rfl (.cons (.cons (.cons .rfl'))))) ?_
  refine at_cd ?_
  have hE := pl_nil hE
  refine cd_sq ?_
  refine ap_tags (off := 3) rfl rfl Tryz.underlying92 rfl tipub_kmsg_Tags.size rfl (hrc.mv h0 (by simp)) rfl (hTg1.mv h0) (fun h => (hfu h).2) rfl rfl rfl hE hB (fun u vd Lc ht6 hE => ?_)
  have h0 := h0.trans ht6
  refine at_cd ?_
  have hE : Lc = Full := by simpa using hE
  subst hE
  refine cd_rowone (i := 0) rfl (fun hone => ?_)
  refine cd_sr ?_
  refine ln_pv (pv_move rfl) rfl ?_
  refine ln_pv (pv_assign rfl) rfl ?_
  refine ln_cd ?_
  refine cd_ret ?_
  exact at_retT (i := 0) rfl rfl rfl (fun w hS => ⟨rfl, hone⟩)
end K
end Go.Proofs.YtocldgajllapfaaGreatDoor
