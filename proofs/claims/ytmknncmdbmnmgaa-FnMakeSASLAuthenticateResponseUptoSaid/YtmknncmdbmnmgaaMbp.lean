import Derived.Test.YtmknncmdbmnmgaaA5
import Derived.Test.YtmknncmdbmnmgaaMbs
set_option linter.unusedVariables false
set_option linter.unusedSimpArgs false
namespace Go.Proofs.Ytmknncmdbmnmgaa
namespace K
open Go Go.Lib
theorem append_SASLAuthenticateResponse (t : Vw) (b : Nat) (v : Int) (y : Tre) (cells : List Value) (vd : Value) (L0 : List UInt8) (hrc : RC t b 0 (.int .i16 v :: cells)) (hM : RMp t F_SASLAuthenticateResponse y cells) (hfit : okP F_SASLAuthenticateResponse v (flexB 2 v) y) (h0 : 0 ≤ v) (h1 : v ≤ 2) (hB : (L0 ++ partB F_SASLAuthenticateResponse v (flexB 2 v) y).length ≤ 4398046511104) (hok : (OctRow vd L0).ok t.w) (hav : ∀ q ∈ (OctRow vd L0).blk, t.av q) : CT Try.prog 70 [.pointer (some ⟨b, 0, none⟩), vd] t (OctRow vd L0) fun _ r e' => e' = OctRow r (L0 ++ partB F_SASLAuthenticateResponse v (flexB 2 v) y) ∧ r.oneCell' = true := by
  have hv0 := h0
  clear h0
  obtain ⟨fc1, mv1, hce1, hfl1, hTg1⟩ := hM
  simp only [F_SASLAuthenticateResponse, RMl] at hfl1
  obtain ⟨x1_0, z1_0, e1_0, g1_0, x1_1, z1_1, e1_1, g1_1, x1_2, z1_2, e1_2, g1_2, x1_3, z1_3, e1_3, g1_3, hend1⟩ := hfl1
  obtain rfl := RMf_i16.1 g1_0
  obtain ⟨d1_1, rfl, Gg1_1⟩ := (RMf_txt (by decide)).1 g1_1
  obtain ⟨d1_2, rfl, Gg1_2⟩ := RMf_oct.1 g1_2
  obtain ⟨rfl, hI1_3⟩ := RMf_i64.1 g1_3
  subst hend1
  subst e1_3
  subst e1_2
  subst e1_1
  subst e1_0
  rw [hce1] at hrc
  simp only [List.cons_append, List.nil_append, List.append_assoc] at hrc
  obtain ⟨hfl, hfu⟩ := hfit
  obtain ⟨k2, hfl⟩ := okFl_cons hfl
  obtain ⟨k3, hfl⟩ := okFl_cons hfl
  obtain ⟨k4, hfl⟩ := okFl_cons hfl
  obtain ⟨k5, hfl⟩ := okFl_cons hfl
  have hq0 : decide (v ≥ 2) = flexB 2 v := by simp [flexB]
  obtain ⟨Full, hFull⟩ : ∃ F : List UInt8, L0 ++ partB F_SASLAuthenticateResponse v (flexB 2 v) y = F := ⟨_, rfl⟩
  rw [hFull] at hB ⊢
  have hE : L0 ++ (partB F_SASLAuthenticateResponse v (flexB 2 v) y ++ []) = Full := by rw [List.append_nil]; exact hFull
  clear hFull
  generalize flexB 2 v = q at *
  have hE := pt_open (by decide) hfu hE
  refine ct_enter Try.func70 rfl Try.ntmps70 rfl hok hav (by simp only [Ent.blk]; cases vd.ownBlock <;> simp) ?_
  generalize L0 = Lc at *
  have h0 : Tr t t := Tr.refl t
  refine cd_sub_ (L' := [(1, vd), (0, .pointer (some ⟨b, 0, none⟩))]) (.put rfl (.put rfl .nil)) ?_
  refine cd_sq ?_
  refine ap_const rfl ?_
  refine at_sub (.skip rfl .rfl') ?_
  refine at_cd ?_
  refine cd_sq ?_
  refine ap_load0 rfl Try.underlying71 rfl tiint16.size rfl Try.underlying49 rfl (hrc.mv h0 (by simp)) rfl rfl ?_
  refine at_sub (.swap rfl) ?_
  refine at_cd ?_
  refine cd_sq ?_
  refine ap_blank rfl rfl ?_
  refine at_cd ?_
  refine cd_sq ?_
  refine ap_geqF rfl hq0 rfl ?_
  refine at_sub (.swap rfl) ?_
  refine at_cd ?_
  refine cd_sq ?_
  refine ap_blank rfl rfl ?_
  refine at_cd ?_
  refine cd_sq ?_
  have hE := pl_all (by decide) (hasB_all hv0) hE
  have hkk := okV_get k2 (by decide) (hasB_all hv0)
  refine cd_sq ?_
  refine ap_load (off := 1) rfl Try.underlying71 rfl tiint16.size rfl Try.underlying49 rfl (hrc.mv h0 (by simp)) rfl rfl ?_
  refine at_cd ?_
  refine ap_call en_137 rfl rfl (fun u hu => by rw [fieldB_s0 (by decide) (by decide) (by decide)]; exact as_i16 u _ _ _) hE hB (fun u vd Lc ht6 hE => ?_)
  have h0 := h0.trans ht6
  refine at_sub (.cons (.skip rfl (.cons (.cons (.cons .rfl'))))) ?_
  refine at_cd ?_
  refine cd_sq ?_
  have hE := pl_all (by decide) (hasB_all hv0) hE
  have hkk := okV_get k3 (by decide) (hasB_all hv0)
  refine cd_sq ?_
  refine ap_load (off := 2) rfl Try.underlying71 rfl tiPt_string.size rfl Try.underlying69 rfl (hrc.mv h0 (by simp)) rfl rfl ?_
  refine at_cd ?_
  refine ap_flex rfl en_151 en_152 rfl rfl rfl rfl (fun hq u hu => by subst hq; rw [fieldB_sz (by decide) (by decide) (by decide) (by omega)]; exact as_ctxt u _ _ (Gg1_1.mv (h0.trans hu)) (okV_s (by decide) (by decide) hkk (.inl rfl)).1) (fun hq u hu => by subst hq; rw [fieldB_sz (by decide) (by decide) (by decide) (by omega)]; exact as_txt u _ _ (Gg1_1.mv (h0.trans hu)) (okV_s (by decide) (by decide) hkk (.inl rfl)).1) hE hB (fun u vd Lc ht7 hE => ?_)
  have h0 := h0.trans ht7
  refine at_sub (.cons (.skip rfl (.cons (.cons (.cons .rfl'))))) ?_
  refine at_cd ?_
  refine cd_sq ?_
  have hE := pl_all (by decide) (hasB_all hv0) hE
  have hkk := okV_get k4 (by decide) (hasB_all hv0)
  refine cd_sq ?_
  refine ap_load (off := 3) rfl Try.underlying71 rfl tiSl_uint8.size rfl Try.underlying22 rfl (hrc.mv h0 (by simp)) rfl rfl ?_
  refine at_cd ?_
  refine ap_flex rfl en_153 en_154 rfl rfl rfl rfl (fun hq u hu => by subst hq; rw [fieldB_s0 (by decide) (by decide) (by decide)]; exact as_coct u _ _ (Gg1_2.mv (h0.trans hu)) (Bool.eq_false_iff.2 fun hz => absurd ((okV_s (by decide) (by decide) hkk (.inr rfl)).2 hz).1 (by decide)) (okV_s (by decide) (by decide) hkk (.inr rfl)).1) (fun hq u hu => by subst hq; rw [fieldB_s0 (by decide) (by decide) (by decide)]; exact as_oct u _ _ (Gg1_2.mv (h0.trans hu)) (Bool.eq_false_iff.2 fun hz => absurd ((okV_s (by decide) (by decide) hkk (.inr rfl)).2 hz).1 (by decide)) (okV_s (by decide) (by decide) hkk (.inr rfl)).1) hE hB (fun u vd Lc ht8 hE => ?_)
  have h0 := h0.trans ht8
  refine at_sub (.cons (.skip rfl (.cons (.cons (.cons .rfl'))))) ?_
  refine at_cd ?_
  refine cd_sq ?_
  have hE := pl_if (by decide) (hasB_from) hE
  refine ap_if rfl rfl hE (fun u vd Lc ht9 hE => ?_) (fun hva hE kk => ?_)
  rotate_left
  · skip
    have hkk := okV_get k5 (by decide) (by rw [hasB_from]; exact decide_eq_true hva)
    refine cd_sq ?_
    refine ap_load (off := 4) rfl Try.underlying71 rfl tiint64.size rfl Try.underlying2 rfl (hrc.mv h0 (by simp)) rfl rfl ?_
    refine at_cd ?_
    refine ap_call en_155 rfl rfl (fun u hu => by rw [fieldB_s0 (by decide) (by decide) (by decide)]; exact as_i64 u _ _ _) hE hB (fun u vd Lc ht10 hE => ?_)
    have h0 := h0.trans ht10
    refine at_sub (.cons (.skip rfl (.cons (.cons (.cons .rfl'))))) ?_
    exact at_sub (.cons (.cons (.cons (.cons .rfl')))) (kk _ _ _ ht10 hE)
  have h0 := h0.trans ht9
  refine at_cd ?_
  have hE := pl_nil hE
  refine cd_sq ?_
  refine ap_tags (off := 5) rfl rfl Try.underlying71 rfl tipub_kmsg_Tags.size rfl (hrc.mv h0 (by simp)) rfl (hTg1.mv h0) (fun h => (hfu h).2) rfl rfl rfl hE hB (fun u vd Lc ht11 hE => ?_)
  have h0 := h0.trans ht11
  refine at_cd ?_
  have hE : Lc = Full := by simpa using hE
  subst hE
  refine cd_rowone (i := 0) rfl (fun hone => ?_)
  refine cd_sr ?_
  refine ln_pv (pv_move rfl) rfl ?_
  refine ln_pv (pv_assign rfl) rfl ?_
  refine ln_cd ?_
  refine cd_ret ?_
  exact at_retT (i := 0) rfl rfl rfl (fun w hS => ⟨rfl, hone⟩)
end K
end Go.Proofs.Ytmknncmdbmnmgaa
