import Derived.Test.YtekafeogilbjmaaGreatDoorTm
import Derived.Test.YtekafeogilbjmaaGreatDoorS10
set_option linter.unusedVariables false
set_option linter.unusedSimpArgs false
namespace Go.Proofs.YtekafeogilbjmaaGreatDoor
namespace K
open Go Go.Lib
section
variable {P : Program} {S : World → Prop} {n : Nat} {L : Env} {d : Option Nat} {g : Option (Nat × Bool)} {ty : TypeId} {pos : String} {af : Array Edge} {t u : TypeId} {x y : Operand}
theorem in_eqB {a b : Bool} (q : Nat) (w : World) (hu : P.underlying t = some .bool) : (Op.equalIn (q + 1) t (.bool a) (.bool b)).run P w = .ok (a == b) w := by simp [Op.equalIn, run_underlying hu]
theorem run_eqB {a b : Bool} (w : World) (hu : P.underlying t = some .bool) : (Op.equal t (.bool a) (.bool b)).run P w = .ok (a == b) w := in_eqB 9999 w hu
theorem pv_neqB {a b : Bool} (hu : P.underlying t = some .bool) (hx : ev L x = some (.bool a)) (hy : ev L y = some (.bool b)) (h : a = b) :
    PV P S ⟨d, .binOp .neq t x y u, ty, pos, af, g⟩ n L (.bool false) := fun a w hF _ => by
  subst h
  simp [execOp, hF.ev hx, hF.ev hy, eqGuard, binOp, run_eqB w hu]
theorem pv_notB {a b : Bool} (hx : ev L x = some (.bool a)) (h : (!a) = b) : PV P S ⟨d, .unOp .not t x, ty, pos, af, g⟩ n L (.bool b) := by
  subst h
  exact pv_not hx
end
theorem ob_rs {s : Vw} {b m sz : Nat} {l : List Value} {e : TypeId} (h : OB s b (.cells l.toArray e)) (hl : l.length = m * sz) (h1 : ∀ u ∈ l, u.oneCell' = true) : RS s sz (.slice (some ⟨b, 0, none⟩) m m) m l :=
  ⟨hl, h1, .inr ⟨⟨b, 0, none⟩, m, rfl, Nat.le_refl _, fun _ => ⟨rfl, h.rc⟩⟩⟩
theorem ob_u16 {s : Vw} {b : Nat} {l : List UInt8} {e : TypeId} (h : OB s b (.cells (u8s l).toArray e)) (hl : l.length = 16) : RSv s (.slice (some ⟨b, 0, none⟩) 16 16) l := by
  have h1 := ob_rs (m := 16) (sz := 1) h (by simp [hl]) (u8s_one _)
  unfold RSv
  rw [hl]
  exact h1
theorem uuid_over (l : List UInt8) : (u8s l).take 16 ++ (List.replicate 16 (Value.int .u8 0)).drop l.length = u8s (uuid l) := by
  have e : ∀ k, (List.replicate 16 (Value.int .u8 0)).drop k = u8s (List.replicate (16 - k) 0) := fun k => by
    rw [List.drop_replicate]
    simp only [u8s, List.map_replicate]
    rfl
  rw [e, uuid]
  simp only [u8s, List.map_append, List.map_take]
theorem kcase (k : Int) : k = 8 ∨ (¬ k = 8 ∧ k = 7) ∨ (¬ k = 8 ∧ ¬ k = 7 ∧ k = 9) ∨ (¬ k = 8 ∧ ¬ k = 7 ∧ ¬ k = 9 ∧ k = 11) ∨ (¬ k = 8 ∧ ¬ k = 7 ∧ ¬ k = 9 ∧ ¬ k = 11 ∧ k = 10) ∨ (¬ k = 8 ∧ ¬ k = 7 ∧ ¬ k = 9 ∧ ¬ k = 11 ∧ ¬ k = 10) := by omega
theorem usP_eq (f : Fld) (x : Tre) : usP f x = (if f.kind = 8 then x.z = decide (f.nul ≥ 0) ∧ x.s = [] else if f.kind = 7 then x.s = List.replicate 16 0 else if f.kind = 9 ∨ f.kind = 11 then x.s = [] ∧ x.l = []
    else if f.kind = 10 then (f.nul ≥ 0 → x.z = true) ∧ (f.nul < 0 → x.u = [] ∧ usL f.sub x 0) else x.n = numK f.kind f.dflt) := by
  cases f
  simp only [usP]
  rfl
theorem usL_get : ∀ {fs : List Fld} {x : Tre} {i : Nat}, usL fs x i → ∀ j, (hj : j < fs.length) → usP fs[j] (x.at_ (i + j))
  | f :: r, x, i, h, 0, hj => by simp only [usL] at h; exact h.1
  | f :: r, x, i, h, j + 1, hj => by
    simp only [usL] at h
    have := usL_get h.2 j (by simpa using hj)
    rw [show i + 1 + j = i + (j + 1) by omega] at this
    exact this
theorem nkF.open {f : Fld} (h : nkF f = true) : f.kind ≤ 11 ∧ I64 f.dflt ∧ ¬ f.of_ = 11 ∧ nkFs f.sub = true := by
  cases f
  simp only [nkF, Bool.and_eq_true, decide_eq_true_eq] at h
  exact ⟨h.1.1.1.1.2, ⟨h.1.1.1.2, h.1.1.2⟩, h.1.2, h.2⟩
theorem nkFs.mem : ∀ {l : List Fld}, nkFs l = true → ∀ f ∈ l, nkF f = true
  | [], _, f, h => by simp at h
  | g :: r, h, f, hf => by
    simp only [nkFs, Bool.and_eq_true] at h
    rcases List.mem_cons.1 hf with rfl | hf
    · exact h.1
    · exact nkFs.mem h.2 f hf
def UsualTC (fs : List Fld) : Prop := ∀ (t : Vw) (vf : Value) (lc cs : List Value) (x : Tre), RS t 8 vf fs.length lc → RFs t fs lc → RT t x cs → smT x → x.u = [] → usL fs x 0 → CS Tryz.prog 61 [vf, .agg cs.toArray] t (.bool true)
set_option maxHeartbeats 2000000 in
theorem spec_Usual1 (fs : List Fld) (hnk : nkFs fs = true) (hlen : fs.length < 1000000) (ih : ∀ g ∈ fs, UsualTC g.sub) : UsualTC fs := by
  intro t vf lcf cs x hVf hFf hx hsm hu0 hus
  obtain ⟨adf, cf, rfl, hlef⟩ := hVf.shape
  obtain ⟨sS, sL, sU, rfl, hn, hS, ⟨lc, hL, hLs⟩, hU⟩ := hx.open
  obtain ⟨adS, cS, rfl, hleS⟩ := hS.shape
  obtain ⟨adL, cL, rfl, hleL⟩ := hL.shape
  have hU0 := hU
  obtain ⟨uc, hU1, hUs⟩ := hU0
  obtain ⟨hz1, hz2, hz3, hz4⟩ := hsm.open
  obtain ⟨adU, cU, rfl, hleU⟩ := hU1.shape
  refine CA.cs ?_
  refine ca_enter Tryz.func61 rfl Tryz.ntmps61 rfl ?_
  refine cd_sr ?_
  refine ln_box rfl rfl rfl (fun b1 => ?_)
  refine ln_pv (pv_assign rfl) rfl ?_
  refine ln_cd ?_
  refine cd_seq ?_
  refine cd_sr ?_
  refine ln_pv (pv_fieldAddr (off := 4) (r := 4) Tryz.underlying26 rfl (tiSl_spec_Tag).size rfl rfl rfl) rfl ?_
  refine ln_pv (pv_ldo (i := 0) rfl Tryz.underlying24 rfl rfl rfl) rfl ?_
  refine ln_pv (pv_len_slice Tryz.underlying24 rfl) rfl ?_
  refine ln_pv (pv_ff (pv_gtr rfl rfl) (by rw [hu0]; decide)) rfl ?_
  refine ln_cd ?_
  refine cd_ff rfl ?_
  refine cd_skip ?_
  refine at_cd ?_
  refine cd_seq ?_
  refine cd_sr ?_
  refine ln_pv (pv_move rfl) rfl ?_
  refine ln_pv (pv_len_slice Tryz.underlying29 rfl) rfl ?_
  refine ln_pv (pv_move rfl) rfl ?_
  refine ln_cd ?_
  refine cd_block ?_
  refine cd_loop (⟨fun (z : Nat) => [(3, .pointer (some ⟨b1, 0, none⟩)), (12, .slice adf fs.length cf), (13, .int .i64 (fs.length : Int)), (14, .int .i64 ((z : Nat) : Int))], fun (z : Nat) => [.obj b1 (.cells [.int .i64 x.n, .slice adS x.s.length cS, .bool x.z, .slice adL x.l.length cL, .slice adU x.u.length cU].toArray 26)], fun (z : Nat) s => z ≤ fs.length, fun (z : Nat) => fs.length - z⟩ : Lp (Nat)) 0 ?_ ?_ ?_ ?_
  · intro s0 hs0
    exact Nat.zero_le _
  · exact ⟨rfl, rfl, rfl, rfl,  trivial⟩
  · exact (.cons_cons _ .slnil)
  intro i s1 hl1 hI
  dsimp only at hI ⊢
  have hx := hx.mv hl1
  have hVf := hVf.mv hl1
  have hFf := hFf.mv hl1
  refine cd_sr ?_
  refine ln_pv (pv_lss rfl rfl) rfl ?_
  refine ln_cd ?_
  refine cd_seq ?_
  refine cd_if rfl (fun hc2 => ?_) (fun hc2 => ?_)
  · -- yes
    refine cd_skip ?_
    refine at_cd ?_
    refine cd_seq ?_
    refine cd_block ?_
    have hi : i < fs.length := by omega
    obtain ⟨b0, o0, rfl, hrc⟩ := hVf.pos (by omega) (by decide)
    obtain ⟨c1, c2, c3, he, hk, hr⟩ := RFs.at_ hi hFf
    have hsub := hrc.sub (i * 8) he hk
    obtain ⟨svf, rfl, lf2, hVf2, hFf2⟩ := hr.open
    refine cd_sr ?_
    refine ln_pv (pv_move rfl) rfl ?_
    refine ln_pv (pv_ixN Tryz.underlying29 tispec_Field.size rfl rfl hi) rfl ?_
    refine ln_pv (pv_ldR hsub Tryz.underlying51 rfl tispec_Field.size rfl rfl) rfl ?_
    refine ln_alloc tispec_Field rfl rfl (fun b2 => ?_)
    refine ln_pv (pv_assign rfl) rfl ?_
    refine ln_storeW (i := 0) rfl rfl rfl rfl (tispec_Field).size rfl (by simp [(RS.one hVf2)]) ?_
    refine ln_cd ?_
    refine cd_sr ?_
    refine ln_pv (pv_ldO (i := 1) rfl Tryz.underlying26 rfl (tispec_Tree).size rfl rfl) rfl ?_
    refine ln_pv (pv_move rfl) rfl ?_
    refine ln_callA en_57 rfl (fun u hu => spec_at u x _ i (RT.mv hx hu)) rfl (fun u1 v1 ht1 hR1 => ?_)
    have hx := hx.mv ht1
    have hVf := hVf.mv ht1
    have hFf := hFf.mv ht1
    have hVf2 := hVf2.mv ht1
    have hFf2 := hFf2.mv ht1
    obtain ⟨ds, rfl, hds⟩ := hR1
    obtain ⟨qS, qL, qU, rfl, hqn, hqS, ⟨lcq, hqL, hqLs⟩, ⟨ucq, hqU, hqUs⟩⟩ := hds.open
    obtain ⟨aqS, cqS, rfl, hqle⟩ := hqS.shape
    obtain ⟨aqL, cqL, rfl, hqle2⟩ := hqL.shape
    refine ln_alloc tispec_Tree rfl rfl (fun b3 => ?_)
    refine ln_storeW (i := 0) rfl rfl rfl rfl (tispec_Tree).size rfl (by simp [(RS.one hqL), (RS.one hqS), (RS.one hqU)]) ?_
    refine ln_cd ?_
    refine cd_sr ?_
    refine ln_pv (pv_fieldAddr (off := 0) (r := 0) Tryz.underlying51 rfl (tiint).size rfl rfl rfl) rfl ?_
    refine ln_pv (pv_ldo (i := 1) rfl Tryz.underlying3 rfl rfl rfl) rfl ?_
    refine ln_cd ?_
    refine cd_block ?_
    rcases kcase fs[i].kind with h8 | ⟨h8, h7⟩ | ⟨h8, h7, h9⟩ | ⟨h8, h7, h9, h11⟩ | ⟨h8, h7, h9, h11, h10⟩ | ⟨h8, h7, h9, h11, h10⟩
    rotate_left 4
    by_cases hnn : fs[i].nul ≥ 0
    · skip
      have husp := usL_get hus i hi
      rw [Nat.zero_add, usP_eq] at husp
      rw [if_neg h8, if_neg h7, if_neg (not_or.2 ⟨h9, h11⟩), if_pos h10] at husp
      refine cd_sr ?_
      refine ln_pv (pv_ff (pv_eql rfl rfl) h8) rfl ?_
      refine ln_pv (pv_assign rfl) rfl ?_
      refine ln_cd ?_
      refine cd_ff rfl ?_
      refine cd_sr ?_
      refine ln_pv (pv_ff (pv_eql rfl rfl) h7) rfl ?_
      refine ln_pv (pv_assign rfl) rfl ?_
      refine ln_cd ?_
      refine cd_ff rfl ?_
      refine cd_seq ?_
      refine cd_sr ?_
      refine ln_pv (pv_ff (pv_eql rfl rfl) h9) rfl ?_
      refine ln_pv (pv_assign rfl) rfl ?_
      refine ln_cd ?_
      refine cd_ff rfl ?_
      refine cd_region ?_
      refine ln_pv (pv_ff (pv_eql rfl rfl) h11) rfl ?_
      refine ln_pv (pv_assign rfl) rfl ?_
      refine ln_nil ?_
      refine at_cd ?_
      refine cd_ff rfl ?_
      refine cd_sr ?_
      refine ln_pv (pv_tt (pv_eql rfl rfl) h10) rfl ?_
      refine ln_pv (pv_assign rfl) rfl ?_
      refine ln_cd ?_
      refine cd_tt rfl ?_
      refine cd_sr ?_
      refine ln_pv (pv_fieldAddr (off := 3) (r := 3) Tryz.underlying51 rfl (tiint).size rfl rfl rfl) rfl ?_
      refine ln_pv (pv_ldo (i := 1) rfl Tryz.underlying3 rfl rfl rfl) rfl ?_
      refine ln_pv (pv_tt (pv_geq rfl rfl) hnn) rfl ?_
      refine ln_pv (pv_move rfl) rfl ?_
      refine ln_gt rfl rfl rfl (pv_fieldAddr (off := 2) (r := 2) Tryz.underlying26 rfl (tibool).size rfl rfl rfl) rfl ?_
      refine ln_gt rfl rfl rfl (pv_ldo (i := 0) rfl Tryz.underlying4 rfl rfl rfl) rfl ?_
      refine ln_gt rfl rfl rfl (pv_notB rfl (by rw [husp.1 hnn])) rfl ?_
      refine ln_pv (pv_pick rfl (fun _ => rfl) (fun _ => rfl)) rfl ?_
      refine ln_pv (pv_move rfl) rfl ?_
      refine ln_gt rfl rfl rfl (pv_fieldAddr (off := 3) (r := 3) Tryz.underlying51 rfl (tiint).size rfl rfl rfl) rfl ?_
      refine ln_gt rfl rfl rfl (pv_ldo (i := 1) rfl Tryz.underlying3 rfl rfl rfl) rfl ?_
      refine ln_gt rfl rfl rfl (pv_ff (pv_lss rfl rfl) (by omega)) rfl ?_
      refine ln_gt rfl rfl rfl (pv_move rfl) rfl ?_
      refine ln_gf rfl rfl rfl rfl rfl ?_
      refine ln_gf rfl rfl rfl rfl rfl ?_
      refine ln_gf rfl rfl rfl rfl rfl ?_
      refine ln_gf rfl rfl rfl rfl rfl ?_
      refine ln_gf rfl rfl rfl rfl rfl ?_
      refine ln_gt rfl rfl rfl (pv_pick rfl (fun _ => rfl) (fun _ => rfl)) rfl ?_
      refine ln_pv (pv_pick rfl (fun _ => rfl) (fun _ => rfl)) rfl ?_
      refine ln_cd ?_
      refine cd_ff rfl ?_
      refine cd_skip ?_
      refine at_cd ?_
      refine cd_region ?_
      refine ln_pv (pv_add' rfl rfl (wrap_succ (by omega))) rfl ?_
      refine ln_pv (pv_move rfl) rfl ?_
      refine ln_nil ?_
      refine at_rnd (i + 1) (hl1.trans ht1) ?_ ?_ ⟨rfl, rfl, rfl, rfl,  trivial⟩ (.cons _ (.cons _ (.cons_cons _ .slnil)))
      · intro s9 hs9
        show i + 1 ≤ _
        omega
      · dsimp only; omega
    · skip
      have husp := usL_get hus i hi
      rw [Nat.zero_add, usP_eq] at husp
      rw [if_neg h8, if_neg h7, if_neg (not_or.2 ⟨h9, h11⟩), if_pos h10] at husp
      have husp2 := husp.2 (by omega)
      refine cd_sr ?_
      refine ln_pv (pv_ff (pv_eql rfl rfl) h8) rfl ?_
      refine ln_pv (pv_assign rfl) rfl ?_
      refine ln_cd ?_
      refine cd_ff rfl ?_
      refine cd_sr ?_
      refine ln_pv (pv_ff (pv_eql rfl rfl) h7) rfl ?_
      refine ln_pv (pv_assign rfl) rfl ?_
      refine ln_cd ?_
      refine cd_ff rfl ?_
      refine cd_seq ?_
      refine cd_sr ?_
      refine ln_pv (pv_ff (pv_eql rfl rfl) h9) rfl ?_
      refine ln_pv (pv_assign rfl) rfl ?_
      refine ln_cd ?_
      refine cd_ff rfl ?_
      refine cd_region ?_
      refine ln_pv (pv_ff (pv_eql rfl rfl) h11) rfl ?_
      refine ln_pv (pv_assign rfl) rfl ?_
      refine ln_nil ?_
      refine at_cd ?_
      refine cd_ff rfl ?_
      refine cd_sr ?_
      refine ln_pv (pv_tt (pv_eql rfl rfl) h10) rfl ?_
      refine ln_pv (pv_assign rfl) rfl ?_
      refine ln_cd ?_
      refine cd_tt rfl ?_
      refine cd_sr ?_
      refine ln_pv (pv_fieldAddr (off := 3) (r := 3) Tryz.underlying51 rfl (tiint).size rfl rfl rfl) rfl ?_
      refine ln_pv (pv_ldo (i := 1) rfl Tryz.underlying3 rfl rfl rfl) rfl ?_
      refine ln_pv (pv_ff (pv_geq rfl rfl) hnn) rfl ?_
      refine ln_pv (pv_move rfl) rfl ?_
      refine ln_gf rfl rfl rfl rfl rfl ?_
      refine ln_gf rfl rfl rfl rfl rfl ?_
      refine ln_gf rfl rfl rfl rfl rfl ?_
      refine ln_pv (pv_pick rfl (fun _ => rfl) (fun _ => rfl)) rfl ?_
      refine ln_pv (pv_move rfl) rfl ?_
      refine ln_gt rfl rfl rfl (pv_fieldAddr (off := 3) (r := 3) Tryz.underlying51 rfl (tiint).size rfl rfl rfl) rfl ?_
      refine ln_gt rfl rfl rfl (pv_ldo (i := 1) rfl Tryz.underlying3 rfl rfl rfl) rfl ?_
      refine ln_gt rfl rfl rfl (pv_tt (pv_lss rfl rfl) (by omega)) rfl ?_
      refine ln_gt rfl rfl rfl (pv_move rfl) rfl ?_
      refine ln_gt rfl rfl rfl (pv_fieldAddr (off := 7) (r := 7) Tryz.underlying51 rfl (tiSl_spec_Field).size rfl rfl rfl) rfl ?_
      refine ln_gt rfl rfl rfl (pv_ldo (i := 1) rfl Tryz.underlying29 rfl rfl rfl) rfl ?_
      refine ln_gt rfl rfl rfl (pv_ldO (i := 0) rfl Tryz.underlying26 rfl (tispec_Tree).size rfl rfl) rfl ?_
      refine ln_gE rfl rfl rfl ?_
      refine ln_callS en_61 rfl (fun u hu => ih _ (List.getElem_mem hi) u _ _ _ _ (RS.mv hVf2 hu) (RFs.mv hFf2 hu) (RT.mv hds hu) (hsm.at_ i) husp2.1 husp2.2) rfl ?_
      refine ln_gt rfl rfl rfl (pv_not rfl) rfl ?_
      refine ln_gt rfl rfl rfl (pv_pick rfl (fun _ => rfl) (fun _ => rfl)) rfl ?_
      refine ln_pv (pv_pick rfl (fun _ => rfl) (fun _ => rfl)) rfl ?_
      refine ln_cd ?_
      refine cd_ff rfl ?_
      refine cd_skip ?_
      refine at_cd ?_
      refine cd_region ?_
      refine ln_pv (pv_add' rfl rfl (wrap_succ (by omega))) rfl ?_
      refine ln_pv (pv_move rfl) rfl ?_
      refine ln_nil ?_
      refine at_rnd (i + 1) (hl1.trans ht1) ?_ ?_ ⟨rfl, rfl, rfl, rfl,  trivial⟩ (.cons _ (.cons _ (.cons_cons _ .slnil)))
      · intro s9 hs9
        show i + 1 ≤ _
        omega
      · dsimp only; omega
    · skip
      have husp := usL_get hus i hi
      rw [Nat.zero_add, usP_eq] at husp
      rw [if_neg h8, if_neg h7, if_neg (not_or.2 ⟨h9, h11⟩), if_neg h10] at husp
      refine cd_sr ?_
      refine ln_pv (pv_ff (pv_eql rfl rfl) h8) rfl ?_
      refine ln_pv (pv_assign rfl) rfl ?_
      refine ln_cd ?_
      refine cd_ff rfl ?_
      refine cd_sr ?_
      refine ln_pv (pv_ff (pv_eql rfl rfl) h7) rfl ?_
      refine ln_pv (pv_assign rfl) rfl ?_
      refine ln_cd ?_
      refine cd_ff rfl ?_
      refine cd_seq ?_
      refine cd_sr ?_
      refine ln_pv (pv_ff (pv_eql rfl rfl) h9) rfl ?_
      refine ln_pv (pv_assign rfl) rfl ?_
      refine ln_cd ?_
      refine cd_ff rfl ?_
      refine cd_region ?_
      refine ln_pv (pv_ff (pv_eql rfl rfl) h11) rfl ?_
      refine ln_pv (pv_assign rfl) rfl ?_
      refine ln_nil ?_
      refine at_cd ?_
      refine cd_ff rfl ?_
      refine cd_sr ?_
      refine ln_pv (pv_ff (pv_eql rfl rfl) h10) rfl ?_
      refine ln_pv (pv_assign rfl) rfl ?_
      refine ln_cd ?_
      refine cd_ff rfl ?_
      refine cd_dr' [0, 1, 2] [0, 1, 2, 3, 4, 5, 7] [0, 1, 2, 3, 4, 5, 6, 7] mixed (by kernel_rfl) ?_
      refine lo_pv rfl rfl (sk_js (Tr.refl _) [0, 1, 2] rfl) (pv_fieldAddr (off := 0) (r := 0) Tryz.underlying26 rfl (tiint64).size rfl rfl rfl) rfl ?_
      refine lo_pv rfl rfl (sk_js (Tr.refl _) [0, 1, 2] rfl) (pv_ldo (i := 0) rfl Tryz.underlying2 rfl rfl rfl) rfl ?_
      refine lo_pv rfl rfl (sk_js (Tr.refl _) [0, 1, 2] rfl) (pv_fieldAddr (off := 0) (r := 0) Tryz.underlying51 rfl (tiint).size rfl rfl rfl) rfl ?_
      refine lo_pv rfl rfl (sk_js (Tr.refl _) [0, 1, 2] rfl) (pv_ldo (i := 1) rfl Tryz.underlying3 rfl rfl rfl) rfl ?_
      refine lo_pv rfl rfl (sk_js (Tr.refl _) [0, 1, 2] rfl) (pv_fieldAddr (off := 5) (r := 5) Tryz.underlying51 rfl (tiint64).size rfl rfl rfl) rfl ?_
      refine lo_pv rfl rfl (sk_js (Tr.refl _) [0, 1, 2] rfl) (pv_ldo (i := 1) rfl Tryz.underlying2 rfl rfl rfl) rfl ?_
      refine lo_eff rfl rfl ?_
      refine ln_callS en_135 rfl (fun u hu => spec_number u _ _ (nkF.open (nkFs.mem hnk _ (List.getElem_mem hi))).2.1) rfl ?_
      refine lo_back (sk_js (Tr.refl _) [0, 1, 2] rfl) ?_
      refine lo_pv rfl rfl (sk_js (Tr.refl _) [0, 1, 2] rfl) (pv_ff (pv_neq rfl rfl) (fun q => q husp)) rfl ?_
      refine lo_cd ?_
      refine cd_ff rfl ?_
      refine cd_skip ?_
      refine at_cd ?_
      refine cd_region ?_
      refine ln_pv (pv_add' rfl rfl (wrap_succ (by omega))) rfl ?_
      refine ln_pv (pv_move rfl) rfl ?_
      refine ln_nil ?_
      refine at_rnd (i + 1) (hl1.trans ht1) ?_ ?_ ⟨rfl, rfl, rfl, rfl,  trivial⟩ (.cons _ (.cons _ (.cons_cons _ .slnil)))
      · intro s9 hs9
        show i + 1 ≤ _
        omega
      · dsimp only; omega
    · skip
      have husp := usL_get hus i hi
      rw [Nat.zero_add, usP_eq] at husp
      rw [if_pos h8] at husp
      refine cd_sr ?_
      refine ln_pv (pv_tt (pv_eql rfl rfl) h8) rfl ?_
      refine ln_pv (pv_assign rfl) rfl ?_
      refine ln_cd ?_
      refine cd_tt rfl ?_
      refine cd_sr ?_
      refine ln_pv (pv_fieldAddr (off := 2) (r := 2) Tryz.underlying26 rfl (tibool).size rfl rfl rfl) rfl ?_
      refine ln_pv (pv_ldo (i := 0) rfl Tryz.underlying4 rfl rfl rfl) rfl ?_
      refine ln_pv (pv_fieldAddr (off := 3) (r := 3) Tryz.underlying51 rfl (tiint).size rfl rfl rfl) rfl ?_
      refine ln_pv (pv_ldo (i := 1) rfl Tryz.underlying3 rfl rfl rfl) rfl ?_
      refine ln_pv (pv_geq rfl rfl) rfl ?_
      refine ln_pv (pv_neqB Tryz.underlying4 rfl rfl husp.1) rfl ?_
      refine ln_pv (pv_move rfl) rfl ?_
      refine ln_gt rfl rfl rfl (pv_fieldAddr (off := 1) (r := 1) Tryz.underlying26 rfl (tiSl_uint8).size rfl rfl rfl) rfl ?_
      refine ln_gt rfl rfl rfl (pv_ldo (i := 0) rfl Tryz.underlying22 rfl rfl rfl) rfl ?_
      refine ln_gt rfl rfl rfl (pv_len_slice Tryz.underlying22 rfl) rfl ?_
      refine ln_gt rfl rfl rfl (pv_ff (pv_gtr rfl rfl) (by rw [husp.2]; decide)) rfl ?_
      refine ln_pv (pv_pick rfl (fun _ => rfl) (fun _ => rfl)) rfl ?_
      refine ln_cd ?_
      refine cd_ff rfl ?_
      refine cd_skip ?_
      refine at_cd ?_
      refine cd_region ?_
      refine ln_pv (pv_add' rfl rfl (wrap_succ (by omega))) rfl ?_
      refine ln_pv (pv_move rfl) rfl ?_
      refine ln_nil ?_
      refine at_rnd (i + 1) (hl1.trans ht1) ?_ ?_ ⟨rfl, rfl, rfl, rfl,  trivial⟩ (.cons _ (.cons _ (.cons_cons _ .slnil)))
      · intro s9 hs9
        show i + 1 ≤ _
        omega
      · dsimp only; omega
    · skip
      have husp := usL_get hus i hi
      rw [Nat.zero_add, usP_eq] at husp
      rw [if_neg h8, if_pos h7] at husp
      refine cd_sr ?_
      refine ln_pv (pv_ff (pv_eql rfl rfl) h8) rfl ?_
      refine ln_pv (pv_assign rfl) rfl ?_
      refine ln_cd ?_
      refine cd_ff rfl ?_
      refine cd_sr ?_
      refine ln_pv (pv_tt (pv_eql rfl rfl) h7) rfl ?_
      refine ln_pv (pv_assign rfl) rfl ?_
      refine ln_cd ?_
      refine cd_tt rfl ?_
      refine cd_dr' [0, 1, 2] [0, 1, 4] [0, 1, 2, 3, 4] mixed (by kernel_rfl) ?_
      refine lo_pv rfl rfl (sk_js (Tr.refl _) [0, 1, 2] rfl) (pv_fieldAddr (off := 1) (r := 1) Tryz.underlying26 rfl (tiSl_uint8).size rfl rfl rfl) rfl ?_
      refine lo_pv rfl rfl (sk_js (Tr.refl _) [0, 1, 2] rfl) (pv_ldo (i := 0) rfl Tryz.underlying22 rfl rfl rfl) rfl ?_
      refine lo_eff rfl rfl ?_
      refine ln_makeSlice (m := 16) Tryz.underlying22 tiuint8 rfl rfl rfl (by decide) (by decide) rfl (fun bM => ?_)
      refine ln_free1 (fun q h => h.elim) (fun sM htM hKM => ?_)
      have hM16 : RSv sM (.slice (some ⟨bM, 0, none⟩) 16 16) (List.replicate 16 0) := ob_u16 hKM (by simp)
      have hx := hx.mv htM
      have hVf := hVf.mv htM
      have hFf := hFf.mv htM
      have hVf2 := hVf2.mv htM
      have hFf2 := hFf2.mv htM
      have hds := hds.mv htM
      have hqS := hqS.mv htM
      refine lo_back (sk_js htM [0, 1, 2] rfl) ?_
      refine lo_eff rfl rfl ?_
      refine ln_callS en_63 rfl (fun u hu => by have h := spec_Same u _ _ _ _ (RSv.mv hqS hu) (RSv.mv hM16 hu) (by rw [husp]; decide); rwa [decide_eq_true husp] at h) rfl ?_
      refine lo_back (sk_js htM [0, 1, 2] rfl) ?_
      refine lo_pv rfl rfl (sk_js htM [0, 1, 2] rfl) (pv_not rfl) rfl ?_
      refine lo_cd ?_
      refine cd_ff rfl ?_
      refine cd_skip ?_
      refine at_cd ?_
      refine cd_region ?_
      refine ln_pv (pv_add' rfl rfl (wrap_succ (by omega))) rfl ?_
      refine ln_pv (pv_move rfl) rfl ?_
      refine ln_nil ?_
      refine at_rnd (i + 1) ((hl1.trans ht1).trans htM) ?_ ?_ ⟨rfl, rfl, rfl, rfl,  trivial⟩ (.cons _ (.cons _ (.cons_cons _ .slnil)))
      · intro s9 hs9
        show i + 1 ≤ _
        omega
      · dsimp only; omega
    · skip
      have husp := usL_get hus i hi
      rw [Nat.zero_add, usP_eq] at husp
      rw [if_neg h8, if_neg h7, if_pos (.inl h9)] at husp
      refine cd_sr ?_
      refine ln_pv (pv_ff (pv_eql rfl rfl) h8) rfl ?_
      refine ln_pv (pv_assign rfl) rfl ?_
      refine ln_cd ?_
      refine cd_ff rfl ?_
      refine cd_sr ?_
      refine ln_pv (pv_ff (pv_eql rfl rfl) h7) rfl ?_
      refine ln_pv (pv_assign rfl) rfl ?_
      refine ln_cd ?_
      refine cd_ff rfl ?_
      refine cd_seq ?_
      refine cd_sr ?_
      refine ln_pv (pv_tt (pv_eql rfl rfl) h9) rfl ?_
      refine ln_pv (pv_assign rfl) rfl ?_
      refine ln_cd ?_
      refine cd_tt rfl ?_
      refine cd_skip ?_
      refine at_cd ?_
      refine cd_tt rfl ?_
      refine cd_sr ?_
      refine ln_pv (pv_fieldAddr (off := 1) (r := 1) Tryz.underlying26 rfl (tiSl_uint8).size rfl rfl rfl) rfl ?_
      refine ln_pv (pv_ldo (i := 0) rfl Tryz.underlying22 rfl rfl rfl) rfl ?_
      refine ln_pv (pv_len_slice Tryz.underlying22 rfl) rfl ?_
      refine ln_pv (pv_ff (pv_gtr rfl rfl) (by rw [husp.1]; decide)) rfl ?_
      refine ln_pv (pv_move rfl) rfl ?_
      refine ln_gt rfl rfl rfl (pv_fieldAddr (off := 3) (r := 3) Tryz.underlying26 rfl (tiSl_spec_Tree).size rfl rfl rfl) rfl ?_
      refine ln_gt rfl rfl rfl (pv_ldo (i := 0) rfl Tryz.underlying23 rfl rfl rfl) rfl ?_
      refine ln_gt rfl rfl rfl (pv_len_slice Tryz.underlying23 rfl) rfl ?_
      refine ln_gt rfl rfl rfl (pv_ff (pv_gtr rfl rfl) (by rw [husp.2]; decide)) rfl ?_
      refine ln_pv (pv_pick rfl (fun _ => rfl) (fun _ => rfl)) rfl ?_
      refine ln_cd ?_
      refine cd_ff rfl ?_
      refine cd_skip ?_
      refine at_cd ?_
      refine cd_region ?_
      refine ln_pv (pv_add' rfl rfl (wrap_succ (by omega))) rfl ?_
      refine ln_pv (pv_move rfl) rfl ?_
      refine ln_nil ?_
      refine at_rnd (i + 1) (hl1.trans ht1) ?_ ?_ ⟨rfl, rfl, rfl, rfl,  trivial⟩ (.cons _ (.cons _ (.cons_cons _ .slnil)))
      · intro s9 hs9
        show i + 1 ≤ _
        omega
      · dsimp only; omega
    · skip
      have husp := usL_get hus i hi
      rw [Nat.zero_add, usP_eq] at husp
      rw [if_neg h8, if_neg h7, if_pos (.inr h11)] at husp
      refine cd_sr ?_
      refine ln_pv (pv_ff (pv_eql rfl rfl) h8) rfl ?_
      refine ln_pv (pv_assign rfl) rfl ?_
      refine ln_cd ?_
      refine cd_ff rfl ?_
      refine cd_sr ?_
      refine ln_pv (pv_ff (pv_eql rfl rfl) h7) rfl ?_
      refine ln_pv (pv_assign rfl) rfl ?_
      refine ln_cd ?_
      refine cd_ff rfl ?_
      refine cd_seq ?_
      refine cd_sr ?_
      refine ln_pv (pv_ff (pv_eql rfl rfl) h9) rfl ?_
      refine ln_pv (pv_assign rfl) rfl ?_
      refine ln_cd ?_
      refine cd_ff rfl ?_
      refine cd_region ?_
      refine ln_pv (pv_tt (pv_eql rfl rfl) h11) rfl ?_
      refine ln_pv (pv_assign rfl) rfl ?_
      refine ln_nil ?_
      refine at_cd ?_
      refine cd_tt rfl ?_
      refine cd_sr ?_
      refine ln_pv (pv_fieldAddr (off := 1) (r := 1) Tryz.underlying26 rfl (tiSl_uint8).size rfl rfl rfl) rfl ?_
      refine ln_pv (pv_ldo (i := 0) rfl Tryz.underlying22 rfl rfl rfl) rfl ?_
      refine ln_pv (pv_len_slice Tryz.underlying22 rfl) rfl ?_
      refine ln_pv (pv_ff (pv_gtr rfl rfl) (by rw [husp.1]; decide)) rfl ?_
      refine ln_pv (pv_move rfl) rfl ?_
      refine ln_gt rfl rfl rfl (pv_fieldAddr (off := 3) (r := 3) Tryz.underlying26 rfl (tiSl_spec_Tree).size rfl rfl rfl) rfl ?_
      refine ln_gt rfl rfl rfl (pv_ldo (i := 0) rfl Tryz.underlying23 rfl rfl rfl) rfl ?_
      refine ln_gt rfl rfl rfl (pv_len_slice Tryz.underlying23 rfl) rfl ?_
      refine ln_gt rfl rfl rfl (pv_ff (pv_gtr rfl rfl) (by rw [husp.2]; decide)) rfl ?_
      refine ln_pv (pv_pick rfl (fun _ => rfl) (fun _ => rfl)) rfl ?_
      refine ln_cd ?_
      refine cd_ff rfl ?_
      refine cd_skip ?_
      refine at_cd ?_
      refine cd_region ?_
      refine ln_pv (pv_add' rfl rfl (wrap_succ (by omega))) rfl ?_
      refine ln_pv (pv_move rfl) rfl ?_
      refine ln_nil ?_
      refine at_rnd (i + 1) (hl1.trans ht1) ?_ ?_ ⟨rfl, rfl, rfl, rfl,  trivial⟩ (.cons _ (.cons _ (.cons_cons _ .slnil)))
      · intro s9 hs9
        show i + 1 ≤ _
        omega
      · dsimp only; omega
  · -- no
    refine cd_exit rfl ?_
    refine at_cd ?_
    refine cd_sr ?_
    refine ln_pv (pv_assign rfl) rfl ?_
    refine ln_cd ?_
    refine cd_ret ?_
    refine at_retA rfl rfl (fun w hS => ?_)
    rfl
theorem spec_Usual_n : ∀ (n : Nat) (fs : List Fld), SizeOf.sizeOf fs < n → nkFs fs = true → okFs fs = true → fs.length < 1000000 → UsualTC fs
  | 0, _, h, _, _, _ => absurd h (by omega)
  | n + 1, fs, h, hnk, hok, hl => spec_Usual1 fs hnk hl fun g hg => spec_Usual_n n g.sub (by
      have h1 := List.sizeOf_lt_of_mem hg
      cases g
      simp only [Fld.sub]
      simp only [Fld.mk.sizeOf_spec] at h1
      omega) (nkF.open (nkFs.mem hnk g hg)).2.2.2 (okF.sub (okFs.mem hok g hg)) (okF.len (okFs.mem hok g hg))
theorem spec_Usual (fs : List Fld) (hnk : nkFs fs = true) (hok : okFs fs = true) (hl : fs.length < 1000000) : UsualTC fs := spec_Usual_n _ fs (Nat.lt_succ_self _) hnk hok hl
def ToldC (fs : List Fld) : Prop := ∀ (t : Vw) (vf : Value) (lc cs gs : List Value) (v : Int) (q : Bool) (x y : Tre), RS t 8 vf fs.length lc → RFs t fs lc → RT t x cs → smT x → RT t y gs → smT y → toT fs v q x y → CS Tryz.prog 19 [vf, .int .i64 v, .bool q, .agg cs.toArray, .agg gs.toArray] t (.bool true)
def ToldF (f : Fld) : Prop := ∀ (t : Vw) (fc cs gs : List Value) (v : Int) (q : Bool) (x y : Tre), RF t f fc → RT t x cs → smT x → RT t y gs → smT y → toP f v q x y → CS Tryz.prog 60 [.agg fc.toArray, .int .i64 v, .bool q, .agg cs.toArray, .agg gs.toArray] t (.bool true)
theorem toP_eq (f : Fld) (v : Int) (q : Bool) (t g : Tre) : toP f v q t g = (((f.kind = 8 ∨ f.kind = 10 ∨ (f.nul ≥ 0 ∧ v ≥ f.nul)) → g.z = nulB f.nul v t) ∧
    (nulB f.nul v t = false →
      if f.kind = 11 then g.l.length = (t.l.take 32767).length ∧ ∀ i, i < g.l.length → if f.of_ = 10 then (g.at_ i).z = false ∧ (g.at_ i).l.length = f.sub.length ∧ toL f.sub v q (t.at_ i) (g.at_ i) 0 ∧ (g.at_ i).u = imU f.sub q (t.at_ i).u else (f.of_ = 8 → (g.at_ i).z = false) ∧ scP f.of_ (t.at_ i) (g.at_ i)
      else if f.kind = 10 then g.l.length = f.sub.length ∧ toL f.sub v q t g 0 ∧ g.u = imU f.sub q t.u
      else scP f.kind t g)) := by
  cases f
  simp only [toP]
  rfl
theorem nulB_neg {nul v : Int} {t : Tre} (h : ¬ (nul ≥ 0 ∧ v ≥ nul)) : nulB nul v t = false := by
  unfold nulB
  by_cases h1 : nul ≥ 0
  · have h2 : ¬ v ≥ nul := fun h2 => h ⟨h1, h2⟩
    simp [h2]
  · simp [h1]
/-- a thing of a list -/
theorem toP_one {o a b d : Int} {sub : List Fld} {v : Int} {q : Bool} {t g : Tre} (ho : ¬ o = 11) (h : if o = 10 then g.z = false ∧ g.l.length = sub.length ∧ toL sub v q t g 0 ∧ g.u = imU sub q t.u else (o = 8 → g.z = false) ∧ scP o t g) : toP (.mk o a b (-1) (-1) d o sub) v q t g := by
  have hn : nulB (-1) v t = false := nulB_neg (fun h => by omega)
  rw [toP_eq]
  show (_ → g.z = nulB (-1) v t) ∧ (nulB (-1) v t = false → if o = 11 then _ else if o = 10 then _ else _)
  rw [hn, if_neg ho]
  by_cases h10 : o = 10
  · rw [if_pos h10] at h
    rw [if_pos h10]
    exact ⟨fun _ => h.1, fun _ => h.2⟩
  · rw [if_neg h10] at h
    rw [if_neg h10]
    refine ⟨fun hh => ?_, fun _ => h.2⟩
    rcases hh with hh | hh | hh
    · exact h.1 hh
    · exact absurd hh h10
    · exact absurd (show (-1 : Int) ≥ 0 from hh.1) (by decide)
theorem RF_mk {s : Vw} {k a b c d e o : Int} {sub : List Fld} {v : Value} {lc : List Value} (h : RS s 8 v sub.length lc) (h2 : RFs s sub lc) : RF s (.mk k a b c d e o sub) [.int .i64 k, .int .i64 a, .int .i64 b, .int .i64 c, .int .i64 d, .int .i64 e, .int .i64 o, v] := by
  simp only [RF]
  exact ⟨v, rfl, lc, h, h2⟩
set_option maxHeartbeats 4000000 in
theorem spec_told1 (f : Fld) (hk11 : ¬ f.kind = 11) (hP : ToldC f.sub) : ToldF f := by
  intro t fc cs gs v q x y hf hx hsm hy hsy hto
  have hf0 := hf
  obtain ⟨sv, rfl, lf, hVf, hFf⟩ := hf.open
  obtain ⟨adf, cf, rfl, hlef⟩ := hVf.shape
  obtain ⟨sS, sL, sU, rfl, hn, hS, ⟨lc, hL, hLs⟩, hU⟩ := hx.open
  obtain ⟨adS, cS, rfl, hleS⟩ := hS.shape
  obtain ⟨adL, cL, rfl, hleL⟩ := hL.shape
  have hU0 := hU
  obtain ⟨uc, hU1, hUs⟩ := hU0
  obtain ⟨hz1, hz2, hz3, hz4⟩ := hsm.open
  obtain ⟨adU, cU, rfl, hleU⟩ := hU1.shape
  obtain ⟨gS, gL, gU, rfl, hgn, hgS, ⟨glc, hgL, hgLs⟩, hgU⟩ := hy.open
  obtain ⟨agS, cgS, rfl, hgleS⟩ := hgS.shape
  obtain ⟨agL, cgL, rfl, hgleL⟩ := hgL.shape
  obtain ⟨guc, hgU1, hgUs⟩ := hgU
  obtain ⟨agU, cgU, rfl, hgleU⟩ := hgU1.shape
  obtain ⟨hw1, hw2, hw3, hw4⟩ := hsy.open
  rw [toP_eq] at hto
  obtain ⟨hz0, hval0⟩ := hto
  refine CA.cs ?_
  refine ca_enter Tryz.func60 rfl Tryz.ntmps60 rfl ?_
  rcases kcase f.kind with h8 | ⟨h8, h7⟩ | ⟨h8, h7, h9⟩ | ⟨h8, h7, h9, h11⟩ | ⟨h8, h7, h9, h11, h10⟩ | ⟨h8, h7, h9, h11, h10⟩
  · skip
    have h10 : ¬ f.kind = 10 := by omega
    have h11 : ¬ f.kind = 11 := by omega
    by_cases hnn : f.nul ≥ 0
    · by_cases hvn : v ≥ f.nul
      · cases hnb : nulB f.nul v x with
        | true =>
          have hz := hz0 (.inl h8)
          rw [hnb] at hz
          refine cd_sr ?_
          refine ln_box rfl rfl rfl (fun b1 => ?_)
          refine ln_box rfl rfl rfl (fun b2 => ?_)
          refine ln_box rfl rfl rfl (fun b3 => ?_)
          refine ln_pv (pv_assign rfl) rfl ?_
          refine ln_cd ?_
          refine cd_sr ?_
          refine ln_pv (pv_ldO (i := 2) rfl Tryz.underlying51 rfl (tispec_Field).size rfl rfl) rfl ?_
          refine ln_pv (pv_move rfl) rfl ?_
          refine ln_pv (pv_ldO (i := 1) rfl Tryz.underlying26 rfl (tispec_Tree).size rfl rfl) rfl ?_
          refine ln_callS en_133 rfl (fun u hu => by have h := spec_null u f _ v x _ (RF.mv hf0 hu) (RT.mv hx hu); rwa [show nullB f v x = true from hnb] at h) rfl ?_
          refine ln_pv (pv_assign rfl) rfl ?_
          refine ln_cd ?_
          refine cd_sr ?_
          refine ln_pv (pv_fieldAddr (off := 3) (r := 3) Tryz.underlying51 rfl (tiint).size rfl rfl rfl) rfl ?_
          refine ln_pv (pv_ldo (i := 2) rfl Tryz.underlying3 rfl rfl rfl) rfl ?_
          refine ln_pv (pv_tt (pv_geq rfl rfl) hnn) rfl ?_
          refine ln_pv (pv_move rfl) rfl ?_
          refine ln_gt rfl rfl rfl (pv_move rfl) rfl ?_
          refine ln_gt rfl rfl rfl (pv_fieldAddr (off := 3) (r := 3) Tryz.underlying51 rfl (tiint).size rfl rfl rfl) rfl ?_
          refine ln_gt rfl rfl rfl (pv_ldo (i := 2) rfl Tryz.underlying3 rfl rfl rfl) rfl ?_
          refine ln_gt rfl rfl rfl (pv_tt (pv_geq rfl rfl) hvn) rfl ?_
          refine ln_pv (pv_pick rfl (fun _ => rfl) (fun _ => rfl)) rfl ?_
          refine ln_pv (pv_assign rfl) rfl ?_
          refine ln_cd ?_
          refine cd_seq ?_
          refine cd_sr ?_
          refine ln_pv (pv_fieldAddr (off := 0) (r := 0) Tryz.underlying51 rfl (tiint).size rfl rfl rfl) rfl ?_
          refine ln_pv (pv_ldo (i := 2) rfl Tryz.underlying3 rfl rfl rfl) rfl ?_
          refine ln_pv (pv_tt (pv_eql rfl rfl) h8) rfl ?_
          refine ln_pv (pv_move rfl) rfl ?_
          refine ln_gf rfl rfl rfl rfl rfl ?_
          refine ln_gf rfl rfl rfl rfl rfl ?_
          refine ln_gf rfl rfl rfl rfl rfl ?_
          refine ln_pv (pv_pick rfl (fun _ => rfl) (fun _ => rfl)) rfl ?_
          refine ln_pv (pv_move rfl) rfl ?_
          refine ln_gf rfl rfl rfl rfl rfl ?_
          refine ln_pv (pv_pick rfl (fun _ => rfl) (fun _ => rfl)) rfl ?_
          refine ln_pv (pv_move rfl) rfl ?_
          refine ln_gt rfl rfl rfl (pv_fieldAddr (off := 2) (r := 2) Tryz.underlying26 rfl (tibool).size rfl rfl rfl) rfl ?_
          refine ln_gt rfl rfl rfl (pv_ldo (i := 0) rfl Tryz.underlying4 rfl rfl rfl) rfl ?_
          refine ln_gt rfl rfl rfl (pv_move rfl) rfl ?_
          refine ln_gt rfl rfl rfl (pv_neqB Tryz.underlying4 rfl rfl hz) rfl ?_
          refine ln_pv (pv_pick rfl (fun _ => rfl) (fun _ => rfl)) rfl ?_
          refine ln_cd ?_
          refine cd_ff rfl ?_
          refine cd_skip ?_
          refine at_cd ?_
          refine cd_seq ?_
          refine cd_sr ?_
          refine ln_pv (pv_move rfl) rfl ?_
          refine ln_cd ?_
          refine cd_tt rfl ?_
          refine cd_sr ?_
          refine ln_pv (pv_assign rfl) rfl ?_
          refine ln_cd ?_
          refine cd_ret ?_
          refine at_retA rfl rfl (fun w hS => ?_)
          rfl
        | false =>
          have hz := hz0 (.inl h8)
          rw [hnb] at hz
          have hval := hval0 hnb
          rw [if_neg h11, if_neg h10] at hval
          have hval : y.s = x.s.take 32767 := by unfold scP at hval; rwa [if_neg (by omega), if_pos (.inl h8)] at hval
          refine cd_sr ?_
          refine ln_box rfl rfl rfl (fun b1 => ?_)
          refine ln_box rfl rfl rfl (fun b2 => ?_)
          refine ln_box rfl rfl rfl (fun b3 => ?_)
          refine ln_pv (pv_assign rfl) rfl ?_
          refine ln_cd ?_
          refine cd_sr ?_
          refine ln_pv (pv_ldO (i := 2) rfl Tryz.underlying51 rfl (tispec_Field).size rfl rfl) rfl ?_
          refine ln_pv (pv_move rfl) rfl ?_
          refine ln_pv (pv_ldO (i := 1) rfl Tryz.underlying26 rfl (tispec_Tree).size rfl rfl) rfl ?_
          refine ln_callS en_133 rfl (fun u hu => by have h := spec_null u f _ v x _ (RF.mv hf0 hu) (RT.mv hx hu); rwa [show nullB f v x = false from hnb] at h) rfl ?_
          refine ln_pv (pv_assign rfl) rfl ?_
          refine ln_cd ?_
          refine cd_sr ?_
          refine ln_pv (pv_fieldAddr (off := 3) (r := 3) Tryz.underlying51 rfl (tiint).size rfl rfl rfl) rfl ?_
          refine ln_pv (pv_ldo (i := 2) rfl Tryz.underlying3 rfl rfl rfl) rfl ?_
          refine ln_pv (pv_tt (pv_geq rfl rfl) hnn) rfl ?_
          refine ln_pv (pv_move rfl) rfl ?_
          refine ln_gt rfl rfl rfl (pv_move rfl) rfl ?_
          refine ln_gt rfl rfl rfl (pv_fieldAddr (off := 3) (r := 3) Tryz.underlying51 rfl (tiint).size rfl rfl rfl) rfl ?_
          refine ln_gt rfl rfl rfl (pv_ldo (i := 2) rfl Tryz.underlying3 rfl rfl rfl) rfl ?_
          refine ln_gt rfl rfl rfl (pv_tt (pv_geq rfl rfl) hvn) rfl ?_
          refine ln_pv (pv_pick rfl (fun _ => rfl) (fun _ => rfl)) rfl ?_
          refine ln_pv (pv_assign rfl) rfl ?_
          refine ln_cd ?_
          refine cd_seq ?_
          refine cd_sr ?_
          refine ln_pv (pv_fieldAddr (off := 0) (r := 0) Tryz.underlying51 rfl (tiint).size rfl rfl rfl) rfl ?_
          refine ln_pv (pv_ldo (i := 2) rfl Tryz.underlying3 rfl rfl rfl) rfl ?_
          refine ln_pv (pv_tt (pv_eql rfl rfl) h8) rfl ?_
          refine ln_pv (pv_move rfl) rfl ?_
          refine ln_gf rfl rfl rfl rfl rfl ?_
          refine ln_gf rfl rfl rfl rfl rfl ?_
          refine ln_gf rfl rfl rfl rfl rfl ?_
          refine ln_pv (pv_pick rfl (fun _ => rfl) (fun _ => rfl)) rfl ?_
          refine ln_pv (pv_move rfl) rfl ?_
          refine ln_gf rfl rfl rfl rfl rfl ?_
          refine ln_pv (pv_pick rfl (fun _ => rfl) (fun _ => rfl)) rfl ?_
          refine ln_pv (pv_move rfl) rfl ?_
          refine ln_gt rfl rfl rfl (pv_fieldAddr (off := 2) (r := 2) Tryz.underlying26 rfl (tibool).size rfl rfl rfl) rfl ?_
          refine ln_gt rfl rfl rfl (pv_ldo (i := 0) rfl Tryz.underlying4 rfl rfl rfl) rfl ?_
          refine ln_gt rfl rfl rfl (pv_move rfl) rfl ?_
          refine ln_gt rfl rfl rfl (pv_neqB Tryz.underlying4 rfl rfl hz) rfl ?_
          refine ln_pv (pv_pick rfl (fun _ => rfl) (fun _ => rfl)) rfl ?_
          refine ln_cd ?_
          refine cd_ff rfl ?_
          refine cd_skip ?_
          refine at_cd ?_
          refine cd_seq ?_
          refine cd_sr ?_
          refine ln_pv (pv_move rfl) rfl ?_
          refine ln_cd ?_
          refine cd_ff rfl ?_
          refine cd_skip ?_
          refine at_cd ?_
          refine cd_seq ?_
          refine cd_sr ?_
          refine ln_pv (pv_fieldAddr (off := 0) (r := 0) Tryz.underlying51 rfl (tiint).size rfl rfl rfl) rfl ?_
          refine ln_pv (pv_ldo (i := 2) rfl Tryz.underlying3 rfl rfl rfl) rfl ?_
          refine ln_cd ?_
          refine cd_block ?_
          refine cd_seq ?_
          refine cd_sr ?_
          refine ln_pv (pv_tt (pv_eql rfl rfl) h8) rfl ?_
          refine ln_pv (pv_assign rfl) rfl ?_
          refine ln_cd ?_
          refine cd_tt rfl ?_
          refine cd_skip ?_
          refine at_cd ?_
          refine cd_tt rfl ?_
          refine cd_dr' [0, 1, 2] [0, 1, 2, 3, 6] [0, 1, 2, 3, 4, 5, 6] mixed (by kernel_rfl) ?_
          refine lo_pv rfl rfl (sk_js (Tr.refl _) [0, 1, 2] rfl) (pv_fieldAddr (off := 1) (r := 1) Tryz.underlying26 rfl (tiSl_uint8).size rfl rfl rfl) rfl ?_
          refine lo_pv rfl rfl (sk_js (Tr.refl _) [0, 1, 2] rfl) (pv_ldo (i := 0) rfl Tryz.underlying22 rfl rfl rfl) rfl ?_
          refine lo_pv rfl rfl (sk_js (Tr.refl _) [0, 1, 2] rfl) (pv_fieldAddr (off := 1) (r := 1) Tryz.underlying26 rfl (tiSl_uint8).size rfl rfl rfl) rfl ?_
          refine lo_pv rfl rfl (sk_js (Tr.refl _) [0, 1, 2] rfl) (pv_ldo (i := 1) rfl Tryz.underlying22 rfl rfl rfl) rfl ?_
          refine lo_eff rfl rfl ?_
          refine ln_callA en_64 rfl (fun u hu => spec_whole u _ _ (RSv.mv hS hu)) rfl (fun u1 v1 ht1 hR1 => ?_)
          have hf0 := hf0.mv ht1
          have hVf := hVf.mv ht1
          have hFf := hFf.mv ht1
          have hx := hx.mv ht1
          have hS := hS.mv ht1
          have hL := hL.mv ht1
          have hLs := hLs.mv ht1
          have hy := hy.mv ht1
          have hgS := hgS.mv ht1
          have hgL := hgL.mv ht1
          have hgLs := hgLs.mv ht1
          refine lo_back (sk_js ht1 [0, 1, 2] rfl) ?_
          refine lo_eff rfl rfl ?_
          refine ln_callS en_63 rfl (fun u hu => by have h := spec_Same u _ _ _ _ (RSv.mv hgS hu) (RSv.mv hR1 hu) (by rw [hval]; simp only [List.length_take]; omega); rwa [decide_eq_true hval] at h) rfl ?_
          refine lo_back (sk_js ht1 [0, 1, 2] rfl) ?_
          refine lo_pv rfl rfl (sk_js ht1 [0, 1, 2] rfl) (pv_assign rfl) rfl ?_
          refine lo_cd ?_
          refine cd_ret ?_
          refine at_retA rfl rfl (fun w hS => ?_)
          rfl
      · have hnb : nulB f.nul v x = false := nulB_neg (fun h => hvn h.2)
        have hz := hz0 (.inl h8)
        rw [hnb] at hz
        have hval := hval0 hnb
        rw [if_neg h11, if_neg h10] at hval
        have hval : y.s = x.s.take 32767 := by unfold scP at hval; rwa [if_neg (by omega), if_pos (.inl h8)] at hval
        refine cd_sr ?_
        refine ln_box rfl rfl rfl (fun b1 => ?_)
        refine ln_box rfl rfl rfl (fun b2 => ?_)
        refine ln_box rfl rfl rfl (fun b3 => ?_)
        refine ln_pv (pv_assign rfl) rfl ?_
        refine ln_cd ?_
        refine cd_sr ?_
        refine ln_pv (pv_ldO (i := 2) rfl Tryz.underlying51 rfl (tispec_Field).size rfl rfl) rfl ?_
        refine ln_pv (pv_move rfl) rfl ?_
        refine ln_pv (pv_ldO (i := 1) rfl Tryz.underlying26 rfl (tispec_Tree).size rfl rfl) rfl ?_
        refine ln_callS en_133 rfl (fun u hu => by have h := spec_null u f _ v x _ (RF.mv hf0 hu) (RT.mv hx hu); rwa [show nullB f v x = false from hnb] at h) rfl ?_
        refine ln_pv (pv_assign rfl) rfl ?_
        refine ln_cd ?_
        refine cd_sr ?_
        refine ln_pv (pv_fieldAddr (off := 3) (r := 3) Tryz.underlying51 rfl (tiint).size rfl rfl rfl) rfl ?_
        refine ln_pv (pv_ldo (i := 2) rfl Tryz.underlying3 rfl rfl rfl) rfl ?_
        refine ln_pv (pv_tt (pv_geq rfl rfl) hnn) rfl ?_
        refine ln_pv (pv_move rfl) rfl ?_
        refine ln_gt rfl rfl rfl (pv_move rfl) rfl ?_
        refine ln_gt rfl rfl rfl (pv_fieldAddr (off := 3) (r := 3) Tryz.underlying51 rfl (tiint).size rfl rfl rfl) rfl ?_
        refine ln_gt rfl rfl rfl (pv_ldo (i := 2) rfl Tryz.underlying3 rfl rfl rfl) rfl ?_
        refine ln_gt rfl rfl rfl (pv_ff (pv_geq rfl rfl) hvn) rfl ?_
        refine ln_pv (pv_pick rfl (fun _ => rfl) (fun _ => rfl)) rfl ?_
        refine ln_pv (pv_assign rfl) rfl ?_
        refine ln_cd ?_
        refine cd_seq ?_
        refine cd_sr ?_
        refine ln_pv (pv_fieldAddr (off := 0) (r := 0) Tryz.underlying51 rfl (tiint).size rfl rfl rfl) rfl ?_
        refine ln_pv (pv_ldo (i := 2) rfl Tryz.underlying3 rfl rfl rfl) rfl ?_
        refine ln_pv (pv_tt (pv_eql rfl rfl) h8) rfl ?_
        refine ln_pv (pv_move rfl) rfl ?_
        refine ln_gf rfl rfl rfl rfl rfl ?_
        refine ln_gf rfl rfl rfl rfl rfl ?_
        refine ln_gf rfl rfl rfl rfl rfl ?_
        refine ln_pv (pv_pick rfl (fun _ => rfl) (fun _ => rfl)) rfl ?_
        refine ln_pv (pv_move rfl) rfl ?_
        refine ln_gf rfl rfl rfl rfl rfl ?_
        refine ln_pv (pv_pick rfl (fun _ => rfl) (fun _ => rfl)) rfl ?_
        refine ln_pv (pv_move rfl) rfl ?_
        refine ln_gt rfl rfl rfl (pv_fieldAddr (off := 2) (r := 2) Tryz.underlying26 rfl (tibool).size rfl rfl rfl) rfl ?_
        refine ln_gt rfl rfl rfl (pv_ldo (i := 0) rfl Tryz.underlying4 rfl rfl rfl) rfl ?_
        refine ln_gt rfl rfl rfl (pv_move rfl) rfl ?_
        refine ln_gt rfl rfl rfl (pv_neqB Tryz.underlying4 rfl rfl hz) rfl ?_
        refine ln_pv (pv_pick rfl (fun _ => rfl) (fun _ => rfl)) rfl ?_
        refine ln_cd ?_
        refine cd_ff rfl ?_
        refine cd_skip ?_
        refine at_cd ?_
        refine cd_seq ?_
        refine cd_sr ?_
        refine ln_pv (pv_move rfl) rfl ?_
        refine ln_cd ?_
        refine cd_ff rfl ?_
        refine cd_skip ?_
        refine at_cd ?_
        refine cd_seq ?_
        refine cd_sr ?_
        refine ln_pv (pv_fieldAddr (off := 0) (r := 0) Tryz.underlying51 rfl (tiint).size rfl rfl rfl) rfl ?_
        refine ln_pv (pv_ldo (i := 2) rfl Tryz.underlying3 rfl rfl rfl) rfl ?_
        refine ln_cd ?_
        refine cd_block ?_
        refine cd_seq ?_
        refine cd_sr ?_
        refine ln_pv (pv_tt (pv_eql rfl rfl) h8) rfl ?_
        refine ln_pv (pv_assign rfl) rfl ?_
        refine ln_cd ?_
        refine cd_tt rfl ?_
        refine cd_skip ?_
        refine at_cd ?_
        refine cd_tt rfl ?_
        refine cd_dr' [0, 1, 2] [0, 1, 2, 3, 6] [0, 1, 2, 3, 4, 5, 6] mixed (by kernel_rfl) ?_
        refine lo_pv rfl rfl (sk_js (Tr.refl _) [0, 1, 2] rfl) (pv_fieldAddr (off := 1) (r := 1) Tryz.underlying26 rfl (tiSl_uint8).size rfl rfl rfl) rfl ?_
        refine lo_pv rfl rfl (sk_js (Tr.refl _) [0, 1, 2] rfl) (pv_ldo (i := 0) rfl Tryz.underlying22 rfl rfl rfl) rfl ?_
        refine lo_pv rfl rfl (sk_js (Tr.refl _) [0, 1, 2] rfl) (pv_fieldAddr (off := 1) (r := 1) Tryz.underlying26 rfl (tiSl_uint8).size rfl rfl rfl) rfl ?_
        refine lo_pv rfl rfl (sk_js (Tr.refl _) [0, 1, 2] rfl) (pv_ldo (i := 1) rfl Tryz.underlying22 rfl rfl rfl) rfl ?_
        refine lo_eff rfl rfl ?_
        refine ln_callA en_64 rfl (fun u hu => spec_whole u _ _ (RSv.mv hS hu)) rfl (fun u1 v1 ht1 hR1 => ?_)
        have hf0 := hf0.mv ht1
        have hVf := hVf.mv ht1
        have hFf := hFf.mv ht1
        have hx := hx.mv ht1
        have hS := hS.mv ht1
        have hL := hL.mv ht1
        have hLs := hLs.mv ht1
        have hy := hy.mv ht1
        have hgS := hgS.mv ht1
        have hgL := hgL.mv ht1
        have hgLs := hgLs.mv ht1
        refine lo_back (sk_js ht1 [0, 1, 2] rfl) ?_
        refine lo_eff rfl rfl ?_
        refine ln_callS en_63 rfl (fun u hu => by have h := spec_Same u _ _ _ _ (RSv.mv hgS hu) (RSv.mv hR1 hu) (by rw [hval]; simp only [List.length_take]; omega); rwa [decide_eq_true hval] at h) rfl ?_
        refine lo_back (sk_js ht1 [0, 1, 2] rfl) ?_
        refine lo_pv rfl rfl (sk_js ht1 [0, 1, 2] rfl) (pv_assign rfl) rfl ?_
        refine lo_cd ?_
        refine cd_ret ?_
        refine at_retA rfl rfl (fun w hS => ?_)
        rfl
    · have hnb : nulB f.nul v x = false := nulB_neg (fun h => hnn h.1)
      have hz := hz0 (.inl h8)
      rw [hnb] at hz
      have hval := hval0 hnb
      rw [if_neg h11, if_neg h10] at hval
      have hval : y.s = x.s.take 32767 := by unfold scP at hval; rwa [if_neg (by omega), if_pos (.inl h8)] at hval
      refine cd_sr ?_
      refine ln_box rfl rfl rfl (fun b1 => ?_)
      refine ln_box rfl rfl rfl (fun b2 => ?_)
      refine ln_box rfl rfl rfl (fun b3 => ?_)
      refine ln_pv (pv_assign rfl) rfl ?_
      refine ln_cd ?_
      refine cd_sr ?_
      refine ln_pv (pv_ldO (i := 2) rfl Tryz.underlying51 rfl (tispec_Field).size rfl rfl) rfl ?_
      refine ln_pv (pv_move rfl) rfl ?_
      refine ln_pv (pv_ldO (i := 1) rfl Tryz.underlying26 rfl (tispec_Tree).size rfl rfl) rfl ?_
      refine ln_callS en_133 rfl (fun u hu => by have h := spec_null u f _ v x _ (RF.mv hf0 hu) (RT.mv hx hu); rwa [show nullB f v x = false from hnb] at h) rfl ?_
      refine ln_pv (pv_assign rfl) rfl ?_
      refine ln_cd ?_
      refine cd_sr ?_
      refine ln_pv (pv_fieldAddr (off := 3) (r := 3) Tryz.underlying51 rfl (tiint).size rfl rfl rfl) rfl ?_
      refine ln_pv (pv_ldo (i := 2) rfl Tryz.underlying3 rfl rfl rfl) rfl ?_
      refine ln_pv (pv_ff (pv_geq rfl rfl) hnn) rfl ?_
      refine ln_pv (pv_move rfl) rfl ?_
      refine ln_gf rfl rfl rfl rfl rfl ?_
      refine ln_gf rfl rfl rfl rfl rfl ?_
      refine ln_gf rfl rfl rfl rfl rfl ?_
      refine ln_gf rfl rfl rfl rfl rfl ?_
      refine ln_pv (pv_pick rfl (fun _ => rfl) (fun _ => rfl)) rfl ?_
      refine ln_pv (pv_assign rfl) rfl ?_
      refine ln_cd ?_
      refine cd_seq ?_
      refine cd_sr ?_
      refine ln_pv (pv_fieldAddr (off := 0) (r := 0) Tryz.underlying51 rfl (tiint).size rfl rfl rfl) rfl ?_
      refine ln_pv (pv_ldo (i := 2) rfl Tryz.underlying3 rfl rfl rfl) rfl ?_
      refine ln_pv (pv_tt (pv_eql rfl rfl) h8) rfl ?_
      refine ln_pv (pv_move rfl) rfl ?_
      refine ln_gf rfl rfl rfl rfl rfl ?_
      refine ln_gf rfl rfl rfl rfl rfl ?_
      refine ln_gf rfl rfl rfl rfl rfl ?_
      refine ln_pv (pv_pick rfl (fun _ => rfl) (fun _ => rfl)) rfl ?_
      refine ln_pv (pv_move rfl) rfl ?_
      refine ln_gf rfl rfl rfl rfl rfl ?_
      refine ln_pv (pv_pick rfl (fun _ => rfl) (fun _ => rfl)) rfl ?_
      refine ln_pv (pv_move rfl) rfl ?_
      refine ln_gt rfl rfl rfl (pv_fieldAddr (off := 2) (r := 2) Tryz.underlying26 rfl (tibool).size rfl rfl rfl) rfl ?_
      refine ln_gt rfl rfl rfl (pv_ldo (i := 0) rfl Tryz.underlying4 rfl rfl rfl) rfl ?_
      refine ln_gt rfl rfl rfl (pv_move rfl) rfl ?_
      refine ln_gt rfl rfl rfl (pv_neqB Tryz.underlying4 rfl rfl hz) rfl ?_
      refine ln_pv (pv_pick rfl (fun _ => rfl) (fun _ => rfl)) rfl ?_
      refine ln_cd ?_
      refine cd_ff rfl ?_
      refine cd_skip ?_
      refine at_cd ?_
      refine cd_seq ?_
      refine cd_sr ?_
      refine ln_pv (pv_move rfl) rfl ?_
      refine ln_cd ?_
      refine cd_ff rfl ?_
      refine cd_skip ?_
      refine at_cd ?_
      refine cd_seq ?_
      refine cd_sr ?_
      refine ln_pv (pv_fieldAddr (off := 0) (r := 0) Tryz.underlying51 rfl (tiint).size rfl rfl rfl) rfl ?_
      refine ln_pv (pv_ldo (i := 2) rfl Tryz.underlying3 rfl rfl rfl) rfl ?_
      refine ln_cd ?_
      refine cd_block ?_
      refine cd_seq ?_
      refine cd_sr ?_
      refine ln_pv (pv_tt (pv_eql rfl rfl) h8) rfl ?_
      refine ln_pv (pv_assign rfl) rfl ?_
      refine ln_cd ?_
      refine cd_tt rfl ?_
      refine cd_skip ?_
      refine at_cd ?_
      refine cd_tt rfl ?_
      refine cd_dr' [0, 1, 2] [0, 1, 2, 3, 6] [0, 1, 2, 3, 4, 5, 6] mixed (by kernel_rfl) ?_
      refine lo_pv rfl rfl (sk_js (Tr.refl _) [0, 1, 2] rfl) (pv_fieldAddr (off := 1) (r := 1) Tryz.underlying26 rfl (tiSl_uint8).size rfl rfl rfl) rfl ?_
      refine lo_pv rfl rfl (sk_js (Tr.refl _) [0, 1, 2] rfl) (pv_ldo (i := 0) rfl Tryz.underlying22 rfl rfl rfl) rfl ?_
      refine lo_pv rfl rfl (sk_js (Tr.refl _) [0, 1, 2] rfl) (pv_fieldAddr (off := 1) (r := 1) Tryz.underlying26 rfl (tiSl_uint8).size rfl rfl rfl) rfl ?_
      refine lo_pv rfl rfl (sk_js (Tr.refl _) [0, 1, 2] rfl) (pv_ldo (i := 1) rfl Tryz.underlying22 rfl rfl rfl) rfl ?_
      refine lo_eff rfl rfl ?_
      refine ln_callA en_64 rfl (fun u hu => spec_whole u _ _ (RSv.mv hS hu)) rfl (fun u1 v1 ht1 hR1 => ?_)
      have hf0 := hf0.mv ht1
      have hVf := hVf.mv ht1
      have hFf := hFf.mv ht1
      have hx := hx.mv ht1
      have hS := hS.mv ht1
      have hL := hL.mv ht1
      have hLs := hLs.mv ht1
      have hy := hy.mv ht1
      have hgS := hgS.mv ht1
      have hgL := hgL.mv ht1
      have hgLs := hgLs.mv ht1
      refine lo_back (sk_js ht1 [0, 1, 2] rfl) ?_
      refine lo_eff rfl rfl ?_
      refine ln_callS en_63 rfl (fun u hu => by have h := spec_Same u _ _ _ _ (RSv.mv hgS hu) (RSv.mv hR1 hu) (by rw [hval]; simp only [List.length_take]; omega); rwa [decide_eq_true hval] at h) rfl ?_
      refine lo_back (sk_js ht1 [0, 1, 2] rfl) ?_
      refine lo_pv rfl rfl (sk_js ht1 [0, 1, 2] rfl) (pv_assign rfl) rfl ?_
      refine lo_cd ?_
      refine cd_ret ?_
      refine at_retA rfl rfl (fun w hS => ?_)
      rfl
  · skip
    have h10 : ¬ f.kind = 10 := by omega
    have h9 : ¬ f.kind = 9 := by omega
    have h11 : ¬ f.kind = 11 := by omega
    by_cases hnn : f.nul ≥ 0
    · by_cases hvn : v ≥ f.nul
      · cases hnb : nulB f.nul v x with
        | true =>
          have hz := hz0 (.inr (.inr ⟨hnn, hvn⟩))
          rw [hnb] at hz
          refine cd_sr ?_
          refine ln_box rfl rfl rfl (fun b1 => ?_)
          refine ln_box rfl rfl rfl (fun b2 => ?_)
          refine ln_box rfl rfl rfl (fun b3 => ?_)
          refine ln_pv (pv_assign rfl) rfl ?_
          refine ln_cd ?_
          refine cd_sr ?_
          refine ln_pv (pv_ldO (i := 2) rfl Tryz.underlying51 rfl (tispec_Field).size rfl rfl) rfl ?_
          refine ln_pv (pv_move rfl) rfl ?_
          refine ln_pv (pv_ldO (i := 1) rfl Tryz.underlying26 rfl (tispec_Tree).size rfl rfl) rfl ?_
          refine ln_callS en_133 rfl (fun u hu => by have h := spec_null u f _ v x _ (RF.mv hf0 hu) (RT.mv hx hu); rwa [show nullB f v x = true from hnb] at h) rfl ?_
          refine ln_pv (pv_assign rfl) rfl ?_
          refine ln_cd ?_
          refine cd_sr ?_
          refine ln_pv (pv_fieldAddr (off := 3) (r := 3) Tryz.underlying51 rfl (tiint).size rfl rfl rfl) rfl ?_
          refine ln_pv (pv_ldo (i := 2) rfl Tryz.underlying3 rfl rfl rfl) rfl ?_
          refine ln_pv (pv_tt (pv_geq rfl rfl) hnn) rfl ?_
          refine ln_pv (pv_move rfl) rfl ?_
          refine ln_gt rfl rfl rfl (pv_move rfl) rfl ?_
          refine ln_gt rfl rfl rfl (pv_fieldAddr (off := 3) (r := 3) Tryz.underlying51 rfl (tiint).size rfl rfl rfl) rfl ?_
          refine ln_gt rfl rfl rfl (pv_ldo (i := 2) rfl Tryz.underlying3 rfl rfl rfl) rfl ?_
          refine ln_gt rfl rfl rfl (pv_tt (pv_geq rfl rfl) hvn) rfl ?_
          refine ln_pv (pv_pick rfl (fun _ => rfl) (fun _ => rfl)) rfl ?_
          refine ln_pv (pv_assign rfl) rfl ?_
          refine ln_cd ?_
          refine cd_seq ?_
          refine cd_sr ?_
          refine ln_pv (pv_fieldAddr (off := 0) (r := 0) Tryz.underlying51 rfl (tiint).size rfl rfl rfl) rfl ?_
          refine ln_pv (pv_ldo (i := 2) rfl Tryz.underlying3 rfl rfl rfl) rfl ?_
          refine ln_pv (pv_ff (pv_eql rfl rfl) h8) rfl ?_
          refine ln_pv (pv_move rfl) rfl ?_
          refine ln_gt rfl rfl rfl (pv_fieldAddr (off := 0) (r := 0) Tryz.underlying51 rfl (tiint).size rfl rfl rfl) rfl ?_
          refine ln_gt rfl rfl rfl (pv_ldo (i := 2) rfl Tryz.underlying3 rfl rfl rfl) rfl ?_
          refine ln_gt rfl rfl rfl (pv_ff (pv_eql rfl rfl) h10) rfl ?_
          refine ln_pv (pv_pick rfl (fun _ => rfl) (fun _ => rfl)) rfl ?_
          refine ln_pv (pv_move rfl) rfl ?_
          refine ln_gt rfl rfl rfl (pv_move rfl) rfl ?_
          refine ln_pv (pv_pick rfl (fun _ => rfl) (fun _ => rfl)) rfl ?_
          refine ln_pv (pv_move rfl) rfl ?_
          refine ln_gt rfl rfl rfl (pv_fieldAddr (off := 2) (r := 2) Tryz.underlying26 rfl (tibool).size rfl rfl rfl) rfl ?_
          refine ln_gt rfl rfl rfl (pv_ldo (i := 0) rfl Tryz.underlying4 rfl rfl rfl) rfl ?_
          refine ln_gt rfl rfl rfl (pv_move rfl) rfl ?_
          refine ln_gt rfl rfl rfl (pv_neqB Tryz.underlying4 rfl rfl hz) rfl ?_
          refine ln_pv (pv_pick rfl (fun _ => rfl) (fun _ => rfl)) rfl ?_
          refine ln_cd ?_
          refine cd_ff rfl ?_
          refine cd_skip ?_
          refine at_cd ?_
          refine cd_seq ?_
          refine cd_sr ?_
          refine ln_pv (pv_move rfl) rfl ?_
          refine ln_cd ?_
          refine cd_tt rfl ?_
          refine cd_sr ?_
          refine ln_pv (pv_assign rfl) rfl ?_
          refine ln_cd ?_
          refine cd_ret ?_
          refine at_retA rfl rfl (fun w hS => ?_)
          rfl
        | false =>
          have hz := hz0 (.inr (.inr ⟨hnn, hvn⟩))
          rw [hnb] at hz
          have hval := hval0 hnb
          rw [if_neg h11, if_neg h10] at hval
          have hval : y.s = uuid x.s := by unfold scP at hval; rwa [if_pos h7] at hval
          refine cd_sr ?_
          refine ln_box rfl rfl rfl (fun b1 => ?_)
          refine ln_box rfl rfl rfl (fun b2 => ?_)
          refine ln_box rfl rfl rfl (fun b3 => ?_)
          refine ln_pv (pv_assign rfl) rfl ?_
          refine ln_cd ?_
          refine cd_sr ?_
          refine ln_pv (pv_ldO (i := 2) rfl Tryz.underlying51 rfl (tispec_Field).size rfl rfl) rfl ?_
          refine ln_pv (pv_move rfl) rfl ?_
          refine ln_pv (pv_ldO (i := 1) rfl Tryz.underlying26 rfl (tispec_Tree).size rfl rfl) rfl ?_
          refine ln_callS en_133 rfl (fun u hu => by have h := spec_null u f _ v x _ (RF.mv hf0 hu) (RT.mv hx hu); rwa [show nullB f v x = false from hnb] at h) rfl ?_
          refine ln_pv (pv_assign rfl) rfl ?_
          refine ln_cd ?_
          refine cd_sr ?_
          refine ln_pv (pv_fieldAddr (off := 3) (r := 3) Tryz.underlying51 rfl (tiint).size rfl rfl rfl) rfl ?_
          refine ln_pv (pv_ldo (i := 2) rfl Tryz.underlying3 rfl rfl rfl) rfl ?_
          refine ln_pv (pv_tt (pv_geq rfl rfl) hnn) rfl ?_
          refine ln_pv (pv_move rfl) rfl ?_
          refine ln_gt rfl rfl rfl (pv_move rfl) rfl ?_
          refine ln_gt rfl rfl rfl (pv_fieldAddr (off := 3) (r := 3) Tryz.underlying51 rfl (tiint).size rfl rfl rfl) rfl ?_
          refine ln_gt rfl rfl rfl (pv_ldo (i := 2) rfl Tryz.underlying3 rfl rfl rfl) rfl ?_
          refine ln_gt rfl rfl rfl (pv_tt (pv_geq rfl rfl) hvn) rfl ?_
          refine ln_pv (pv_pick rfl (fun _ => rfl) (fun _ => rfl)) rfl ?_
          refine ln_pv (pv_assign rfl) rfl ?_
          refine ln_cd ?_
          refine cd_seq ?_
          refine cd_sr ?_
          refine ln_pv (pv_fieldAddr (off := 0) (r := 0) Tryz.underlying51 rfl (tiint).size rfl rfl rfl) rfl ?_
          refine ln_pv (pv_ldo (i := 2) rfl Tryz.underlying3 rfl rfl rfl) rfl ?_
          refine ln_pv (pv_ff (pv_eql rfl rfl) h8) rfl ?_
          refine ln_pv (pv_move rfl) rfl ?_
          refine ln_gt rfl rfl rfl (pv_fieldAddr (off := 0) (r := 0) Tryz.underlying51 rfl (tiint).size rfl rfl rfl) rfl ?_
          refine ln_gt rfl rfl rfl (pv_ldo (i := 2) rfl Tryz.underlying3 rfl rfl rfl) rfl ?_
          refine ln_gt rfl rfl rfl (pv_ff (pv_eql rfl rfl) h10) rfl ?_
          refine ln_pv (pv_pick rfl (fun _ => rfl) (fun _ => rfl)) rfl ?_
          refine ln_pv (pv_move rfl) rfl ?_
          refine ln_gt rfl rfl rfl (pv_move rfl) rfl ?_
          refine ln_pv (pv_pick rfl (fun _ => rfl) (fun _ => rfl)) rfl ?_
          refine ln_pv (pv_move rfl) rfl ?_
          refine ln_gt rfl rfl rfl (pv_fieldAddr (off := 2) (r := 2) Tryz.underlying26 rfl (tibool).size rfl rfl rfl) rfl ?_
          refine ln_gt rfl rfl rfl (pv_ldo (i := 0) rfl Tryz.underlying4 rfl rfl rfl) rfl ?_
          refine ln_gt rfl rfl rfl (pv_move rfl) rfl ?_
          refine ln_gt rfl rfl rfl (pv_neqB Tryz.underlying4 rfl rfl hz) rfl ?_
          refine ln_pv (pv_pick rfl (fun _ => rfl) (fun _ => rfl)) rfl ?_
          refine ln_cd ?_
          refine cd_ff rfl ?_
          refine cd_skip ?_
          refine at_cd ?_
          refine cd_seq ?_
          refine cd_sr ?_
          refine ln_pv (pv_move rfl) rfl ?_
          refine ln_cd ?_
          refine cd_ff rfl ?_
          refine cd_skip ?_
          refine at_cd ?_
          refine cd_seq ?_
          refine cd_sr ?_
          refine ln_pv (pv_fieldAddr (off := 0) (r := 0) Tryz.underlying51 rfl (tiint).size rfl rfl rfl) rfl ?_
          refine ln_pv (pv_ldo (i := 2) rfl Tryz.underlying3 rfl rfl rfl) rfl ?_
          refine ln_cd ?_
          refine cd_block ?_
          refine cd_seq ?_
          refine cd_sr ?_
          refine ln_pv (pv_ff (pv_eql rfl rfl) h8) rfl ?_
          refine ln_pv (pv_assign rfl) rfl ?_
          refine ln_cd ?_
          refine cd_ff rfl ?_
          refine cd_region ?_
          refine ln_pv (pv_ff (pv_eql rfl rfl) h9) rfl ?_
          refine ln_pv (pv_assign rfl) rfl ?_
          refine ln_nil ?_
          refine at_cd ?_
          refine cd_ff rfl ?_
          refine cd_sr ?_
          refine ln_pv (pv_tt (pv_eql rfl rfl) h7) rfl ?_
          refine ln_pv (pv_assign rfl) rfl ?_
          refine ln_cd ?_
          refine cd_tt rfl ?_
          refine cd_sr ?_
          refine ln_makeSlice (m := 16) Tryz.underlying22 tiuint8 rfl rfl rfl (by decide) (by decide) rfl (fun b4 => ?_)
          refine ln_pv (pv_assign rfl) rfl ?_
          refine ln_cd ?_
          refine cd_sr ?_
          refine ln_pv (pv_move rfl) rfl ?_
          refine ln_pv (pv_fieldAddr (off := 1) (r := 1) Tryz.underlying26 rfl (tiSl_uint8).size rfl rfl rfl) rfl ?_
          refine ln_pv (pv_ldo (i := 2) rfl Tryz.underlying22 rfl rfl rfl) rfl ?_
          refine ln_copyO (i := 0) (l' := u8s (uuid x.s)) (m2 := x.s.length) (news := u8s x.s) rfl Tryz.underlying22 tiuint8.size rfl rfl (RS.src hS) (by simp) rfl (by exact uuid_over x.s) ?_
          refine ln_cd ?_
          refine cd_free1 (fun q h => h.elim) (fun sM htM hKM => ?_)
          have hM16 : RSv sM (.slice (some ⟨b4, 0, none⟩) 16 16) (uuid x.s) := ob_u16 hKM (uuid_length _)
          have hf0 := hf0.mv htM
          have hVf := hVf.mv htM
          have hFf := hFf.mv htM
          have hx := hx.mv htM
          have hS := hS.mv htM
          have hL := hL.mv htM
          have hLs := hLs.mv htM
          have hy := hy.mv htM
          have hgS := hgS.mv htM
          have hgL := hgL.mv htM
          have hgLs := hgLs.mv htM
          refine cd_sr ?_
          refine ln_pv (pv_fieldAddr (off := 1) (r := 1) Tryz.underlying26 rfl (tiSl_uint8).size rfl rfl rfl) rfl ?_
          refine ln_pv (pv_ldo (i := 0) rfl Tryz.underlying22 rfl rfl rfl) rfl ?_
          refine ln_pv (pv_move rfl) rfl ?_
          refine ln_callS en_63 rfl (fun u hu => by have h := spec_Same u _ _ _ _ (RSv.mv hgS hu) (RSv.mv hM16 hu) (by rw [hval, uuid_length]; decide); rwa [decide_eq_true hval] at h) rfl ?_
          refine ln_pv (pv_assign rfl) rfl ?_
          refine ln_cd ?_
          refine cd_ret ?_
          refine at_retA rfl rfl (fun w hS => ?_)
          rfl
      · have hnb : nulB f.nul v x = false := nulB_neg (fun h => hvn h.2)
        have hval := hval0 hnb
        rw [if_neg h11, if_neg h10] at hval
        have hval : y.s = uuid x.s := by unfold scP at hval; rwa [if_pos h7] at hval
        refine cd_sr ?_
        refine ln_box rfl rfl rfl (fun b1 => ?_)
        refine ln_box rfl rfl rfl (fun b2 => ?_)
        refine ln_box rfl rfl rfl (fun b3 => ?_)
        refine ln_pv (pv_assign rfl) rfl ?_
        refine ln_cd ?_
        refine cd_sr ?_
        refine ln_pv (pv_ldO (i := 2) rfl Tryz.underlying51 rfl (tispec_Field).size rfl rfl) rfl ?_
        refine ln_pv (pv_move rfl) rfl ?_
        refine ln_pv (pv_ldO (i := 1) rfl Tryz.underlying26 rfl (tispec_Tree).size rfl rfl) rfl ?_
        refine ln_callS en_133 rfl (fun u hu => by have h := spec_null u f _ v x _ (RF.mv hf0 hu) (RT.mv hx hu); rwa [show nullB f v x = false from hnb] at h) rfl ?_
        refine ln_pv (pv_assign rfl) rfl ?_
        refine ln_cd ?_
        refine cd_sr ?_
        refine ln_pv (pv_fieldAddr (off := 3) (r := 3) Tryz.underlying51 rfl (tiint).size rfl rfl rfl) rfl ?_
        refine ln_pv (pv_ldo (i := 2) rfl Tryz.underlying3 rfl rfl rfl) rfl ?_
        refine ln_pv (pv_tt (pv_geq rfl rfl) hnn) rfl ?_
        refine ln_pv (pv_move rfl) rfl ?_
        refine ln_gt rfl rfl rfl (pv_move rfl) rfl ?_
        refine ln_gt rfl rfl rfl (pv_fieldAddr (off := 3) (r := 3) Tryz.underlying51 rfl (tiint).size rfl rfl rfl) rfl ?_
        refine ln_gt rfl rfl rfl (pv_ldo (i := 2) rfl Tryz.underlying3 rfl rfl rfl) rfl ?_
        refine ln_gt rfl rfl rfl (pv_ff (pv_geq rfl rfl) hvn) rfl ?_
        refine ln_pv (pv_pick rfl (fun _ => rfl) (fun _ => rfl)) rfl ?_
        refine ln_pv (pv_assign rfl) rfl ?_
        refine ln_cd ?_
        refine cd_seq ?_
        refine cd_sr ?_
        refine ln_pv (pv_fieldAddr (off := 0) (r := 0) Tryz.underlying51 rfl (tiint).size rfl rfl rfl) rfl ?_
        refine ln_pv (pv_ldo (i := 2) rfl Tryz.underlying3 rfl rfl rfl) rfl ?_
        refine ln_pv (pv_ff (pv_eql rfl rfl) h8) rfl ?_
        refine ln_pv (pv_move rfl) rfl ?_
        refine ln_gt rfl rfl rfl (pv_fieldAddr (off := 0) (r := 0) Tryz.underlying51 rfl (tiint).size rfl rfl rfl) rfl ?_
        refine ln_gt rfl rfl rfl (pv_ldo (i := 2) rfl Tryz.underlying3 rfl rfl rfl) rfl ?_
        refine ln_gt rfl rfl rfl (pv_ff (pv_eql rfl rfl) h10) rfl ?_
        refine ln_pv (pv_pick rfl (fun _ => rfl) (fun _ => rfl)) rfl ?_
        refine ln_pv (pv_move rfl) rfl ?_
        refine ln_gt rfl rfl rfl (pv_move rfl) rfl ?_
        refine ln_pv (pv_pick rfl (fun _ => rfl) (fun _ => rfl)) rfl ?_
        refine ln_pv (pv_move rfl) rfl ?_
        refine ln_gf rfl rfl rfl rfl rfl ?_
        refine ln_gf rfl rfl rfl rfl rfl ?_
        refine ln_gf rfl rfl rfl rfl rfl ?_
        refine ln_gf rfl rfl rfl rfl rfl ?_
        refine ln_pv (pv_pick rfl (fun _ => rfl) (fun _ => rfl)) rfl ?_
        refine ln_cd ?_
        refine cd_ff rfl ?_
        refine cd_skip ?_
        refine at_cd ?_
        refine cd_seq ?_
        refine cd_sr ?_
        refine ln_pv (pv_move rfl) rfl ?_
        refine ln_cd ?_
        refine cd_ff rfl ?_
        refine cd_skip ?_
        refine at_cd ?_
        refine cd_seq ?_
        refine cd_sr ?_
        refine ln_pv (pv_fieldAddr (off := 0) (r := 0) Tryz.underlying51 rfl (tiint).size rfl rfl rfl) rfl ?_
        refine ln_pv (pv_ldo (i := 2) rfl Tryz.underlying3 rfl rfl rfl) rfl ?_
        refine ln_cd ?_
        refine cd_block ?_
        refine cd_seq ?_
        refine cd_sr ?_
        refine ln_pv (pv_ff (pv_eql rfl rfl) h8) rfl ?_
        refine ln_pv (pv_assign rfl) rfl ?_
        refine ln_cd ?_
        refine cd_ff rfl ?_
        refine cd_region ?_
        refine ln_pv (pv_ff (pv_eql rfl rfl) h9) rfl ?_
        refine ln_pv (pv_assign rfl) rfl ?_
        refine ln_nil ?_
        refine at_cd ?_
        refine cd_ff rfl ?_
        refine cd_sr ?_
        refine ln_pv (pv_tt (pv_eql rfl rfl) h7) rfl ?_
        refine ln_pv (pv_assign rfl) rfl ?_
        refine ln_cd ?_
        refine cd_tt rfl ?_
        refine cd_sr ?_
        refine ln_makeSlice (m := 16) Tryz.underlying22 tiuint8 rfl rfl rfl (by decide) (by decide) rfl (fun b4 => ?_)
        refine ln_pv (pv_assign rfl) rfl ?_
        refine ln_cd ?_
        refine cd_sr ?_
        refine ln_pv (pv_move rfl) rfl ?_
        refine ln_pv (pv_fieldAddr (off := 1) (r := 1) Tryz.underlying26 rfl (tiSl_uint8).size rfl rfl rfl) rfl ?_
        refine ln_pv (pv_ldo (i := 2) rfl Tryz.underlying22 rfl rfl rfl) rfl ?_
        refine ln_copyO (i := 0) (l' := u8s (uuid x.s)) (m2 := x.s.length) (news := u8s x.s) rfl Tryz.underlying22 tiuint8.size rfl rfl (RS.src hS) (by simp) rfl (by exact uuid_over x.s) ?_
        refine ln_cd ?_
        refine cd_free1 (fun q h => h.elim) (fun sM htM hKM => ?_)
        have hM16 : RSv sM (.slice (some ⟨b4, 0, none⟩) 16 16) (uuid x.s) := ob_u16 hKM (uuid_length _)
        have hf0 := hf0.mv htM
        have hVf := hVf.mv htM
        have hFf := hFf.mv htM
        have hx := hx.mv htM
        have hS := hS.mv htM
        have hL := hL.mv htM
        have hLs := hLs.mv htM
        have hy := hy.mv htM
        have hgS := hgS.mv htM
        have hgL := hgL.mv htM
        have hgLs := hgLs.mv htM
        refine cd_sr ?_
        refine ln_pv (pv_fieldAddr (off := 1) (r := 1) Tryz.underlying26 rfl (tiSl_uint8).size rfl rfl rfl) rfl ?_
        refine ln_pv (pv_ldo (i := 0) rfl Tryz.underlying22 rfl rfl rfl) rfl ?_
        refine ln_pv (pv_move rfl) rfl ?_
        refine ln_callS en_63 rfl (fun u hu => by have h := spec_Same u _ _ _ _ (RSv.mv hgS hu) (RSv.mv hM16 hu) (by rw [hval, uuid_length]; decide); rwa [decide_eq_true hval] at h) rfl ?_
        refine ln_pv (pv_assign rfl) rfl ?_
        refine ln_cd ?_
        refine cd_ret ?_
        refine at_retA rfl rfl (fun w hS => ?_)
        rfl
    · have hnb : nulB f.nul v x = false := nulB_neg (fun h => hnn h.1)
      have hval := hval0 hnb
      rw [if_neg h11, if_neg h10] at hval
      have hval : y.s = uuid x.s := by unfold scP at hval; rwa [if_pos h7] at hval
      refine cd_sr ?_
      refine ln_box rfl rfl rfl (fun b1 => ?_)
      refine ln_box rfl rfl rfl (fun b2 => ?_)
      refine ln_box rfl rfl rfl (fun b3 => ?_)
      refine ln_pv (pv_assign rfl) rfl ?_
      refine ln_cd ?_
      refine cd_sr ?_
      refine ln_pv (pv_ldO (i := 2) rfl Tryz.underlying51 rfl (tispec_Field).size rfl rfl) rfl ?_
      refine ln_pv (pv_move rfl) rfl ?_
      refine ln_pv (pv_ldO (i := 1) rfl Tryz.underlying26 rfl (tispec_Tree).size rfl rfl) rfl ?_
      refine ln_callS en_133 rfl (fun u hu => by have h := spec_null u f _ v x _ (RF.mv hf0 hu) (RT.mv hx hu); rwa [show nullB f v x = false from hnb] at h) rfl ?_
      refine ln_pv (pv_assign rfl) rfl ?_
      refine ln_cd ?_
      refine cd_sr ?_
      refine ln_pv (pv_fieldAddr (off := 3) (r := 3) Tryz.underlying51 rfl (tiint).size rfl rfl rfl) rfl ?_
      refine ln_pv (pv_ldo (i := 2) rfl Tryz.underlying3 rfl rfl rfl) rfl ?_
      refine ln_pv (pv_ff (pv_geq rfl rfl) hnn) rfl ?_
      refine ln_pv (pv_move rfl) rfl ?_
      refine ln_gf rfl rfl rfl rfl rfl ?_
      refine ln_gf rfl rfl rfl rfl rfl ?_
      refine ln_gf rfl rfl rfl rfl rfl ?_
      refine ln_gf rfl rfl rfl rfl rfl ?_
      refine ln_pv (pv_pick rfl (fun _ => rfl) (fun _ => rfl)) rfl ?_
      refine ln_pv (pv_assign rfl) rfl ?_
      refine ln_cd ?_
      refine cd_seq ?_
      refine cd_sr ?_
      refine ln_pv (pv_fieldAddr (off := 0) (r := 0) Tryz.underlying51 rfl (tiint).size rfl rfl rfl) rfl ?_
      refine ln_pv (pv_ldo (i := 2) rfl Tryz.underlying3 rfl rfl rfl) rfl ?_
      refine ln_pv (pv_ff (pv_eql rfl rfl) h8) rfl ?_
      refine ln_pv (pv_move rfl) rfl ?_
      refine ln_gt rfl rfl rfl (pv_fieldAddr (off := 0) (r := 0) Tryz.underlying51 rfl (tiint).size rfl rfl rfl) rfl ?_
      refine ln_gt rfl rfl rfl (pv_ldo (i := 2) rfl Tryz.underlying3 rfl rfl rfl) rfl ?_
      refine ln_gt rfl rfl rfl (pv_ff (pv_eql rfl rfl) h10) rfl ?_
      refine ln_pv (pv_pick rfl (fun _ => rfl) (fun _ => rfl)) rfl ?_
      refine ln_pv (pv_move rfl) rfl ?_
      refine ln_gt rfl rfl rfl (pv_move rfl) rfl ?_
      refine ln_pv (pv_pick rfl (fun _ => rfl) (fun _ => rfl)) rfl ?_
      refine ln_pv (pv_move rfl) rfl ?_
      refine ln_gf rfl rfl rfl rfl rfl ?_
      refine ln_gf rfl rfl rfl rfl rfl ?_
      refine ln_gf rfl rfl rfl rfl rfl ?_
      refine ln_gf rfl rfl rfl rfl rfl ?_
      refine ln_pv (pv_pick rfl (fun _ => rfl) (fun _ => rfl)) rfl ?_
      refine ln_cd ?_
      refine cd_ff rfl ?_
      refine cd_skip ?_
      refine at_cd ?_
      refine cd_seq ?_
      refine cd_sr ?_
      refine ln_pv (pv_move rfl) rfl ?_
      refine ln_cd ?_
      refine cd_ff rfl ?_
      refine cd_skip ?_
      refine at_cd ?_
      refine cd_seq ?_
      refine cd_sr ?_
      refine ln_pv (pv_fieldAddr (off := 0) (r := 0) Tryz.underlying51 rfl (tiint).size rfl rfl rfl) rfl ?_
      refine ln_pv (pv_ldo (i := 2) rfl Tryz.underlying3 rfl rfl rfl) rfl ?_
      refine ln_cd ?_
      refine cd_block ?_
      refine cd_seq ?_
      refine cd_sr ?_
      refine ln_pv (pv_ff (pv_eql rfl rfl) h8) rfl ?_
      refine ln_pv (pv_assign rfl) rfl ?_
      refine ln_cd ?_
      refine cd_ff rfl ?_
      refine cd_region ?_
      refine ln_pv (pv_ff (pv_eql rfl rfl) h9) rfl ?_
      refine ln_pv (pv_assign rfl) rfl ?_
      refine ln_nil ?_
      refine at_cd ?_
      refine cd_ff rfl ?_
      refine cd_sr ?_
      refine ln_pv (pv_tt (pv_eql rfl rfl) h7) rfl ?_
      refine ln_pv (pv_assign rfl) rfl ?_
      refine ln_cd ?_
      refine cd_tt rfl ?_
      refine cd_sr ?_
      refine ln_makeSlice (m := 16) Tryz.underlying22 tiuint8 rfl rfl rfl (by decide) (by decide) rfl (fun b4 => ?_)
      refine ln_pv (pv_assign rfl) rfl ?_
      refine ln_cd ?_
      refine cd_sr ?_
      refine ln_pv (pv_move rfl) rfl ?_
      refine ln_pv (pv_fieldAddr (off := 1) (r := 1) Tryz.underlying26 rfl (tiSl_uint8).size rfl rfl rfl) rfl ?_
      refine ln_pv (pv_ldo (i := 2) rfl Tryz.underlying22 rfl rfl rfl) rfl ?_
      refine ln_copyO (i := 0) (l' := u8s (uuid x.s)) (m2 := x.s.length) (news := u8s x.s) rfl Tryz.underlying22 tiuint8.size rfl rfl (RS.src hS) (by simp) rfl (by exact uuid_over x.s) ?_
      refine ln_cd ?_
      refine cd_free1 (fun q h => h.elim) (fun sM htM hKM => ?_)
      have hM16 : RSv sM (.slice (some ⟨b4, 0, none⟩) 16 16) (uuid x.s) := ob_u16 hKM (uuid_length _)
      have hf0 := hf0.mv htM
      have hVf := hVf.mv htM
      have hFf := hFf.mv htM
      have hx := hx.mv htM
      have hS := hS.mv htM
      have hL := hL.mv htM
      have hLs := hLs.mv htM
      have hy := hy.mv htM
      have hgS := hgS.mv htM
      have hgL := hgL.mv htM
      have hgLs := hgLs.mv htM
      refine cd_sr ?_
      refine ln_pv (pv_fieldAddr (off := 1) (r := 1) Tryz.underlying26 rfl (tiSl_uint8).size rfl rfl rfl) rfl ?_
      refine ln_pv (pv_ldo (i := 0) rfl Tryz.underlying22 rfl rfl rfl) rfl ?_
      refine ln_pv (pv_move rfl) rfl ?_
      refine ln_callS en_63 rfl (fun u hu => by have h := spec_Same u _ _ _ _ (RSv.mv hgS hu) (RSv.mv hM16 hu) (by rw [hval, uuid_length]; decide); rwa [decide_eq_true hval] at h) rfl ?_
      refine ln_pv (pv_assign rfl) rfl ?_
      refine ln_cd ?_
      refine cd_ret ?_
      refine at_retA rfl rfl (fun w hS => ?_)
      rfl
  · skip
    have h10 : ¬ f.kind = 10 := by omega
    have h11 : ¬ f.kind = 11 := by omega
    by_cases hnn : f.nul ≥ 0
    · by_cases hvn : v ≥ f.nul
      · cases hnb : nulB f.nul v x with
        | true =>
          have hz := hz0 (.inr (.inr ⟨hnn, hvn⟩))
          rw [hnb] at hz
          refine cd_sr ?_
          refine ln_box rfl rfl rfl (fun b1 => ?_)
          refine ln_box rfl rfl rfl (fun b2 => ?_)
          refine ln_box rfl rfl rfl (fun b3 => ?_)
          refine ln_pv (pv_assign rfl) rfl ?_
          refine ln_cd ?_
          refine cd_sr ?_
          refine ln_pv (pv_ldO (i := 2) rfl Tryz.underlying51 rfl (tispec_Field).size rfl rfl) rfl ?_
          refine ln_pv (pv_move rfl) rfl ?_
          refine ln_pv (pv_ldO (i := 1) rfl Tryz.underlying26 rfl (tispec_Tree).size rfl rfl) rfl ?_
          refine ln_callS en_133 rfl (fun u hu => by have h := spec_null u f _ v x _ (RF.mv hf0 hu) (RT.mv hx hu); rwa [show nullB f v x = true from hnb] at h) rfl ?_
          refine ln_pv (pv_assign rfl) rfl ?_
          refine ln_cd ?_
          refine cd_sr ?_
          refine ln_pv (pv_fieldAddr (off := 3) (r := 3) Tryz.underlying51 rfl (tiint).size rfl rfl rfl) rfl ?_
          refine ln_pv (pv_ldo (i := 2) rfl Tryz.underlying3 rfl rfl rfl) rfl ?_
          refine ln_pv (pv_tt (pv_geq rfl rfl) hnn) rfl ?_
          refine ln_pv (pv_move rfl) rfl ?_
          refine ln_gt rfl rfl rfl (pv_move rfl) rfl ?_
          refine ln_gt rfl rfl rfl (pv_fieldAddr (off := 3) (r := 3) Tryz.underlying51 rfl (tiint).size rfl rfl rfl) rfl ?_
          refine ln_gt rfl rfl rfl (pv_ldo (i := 2) rfl Tryz.underlying3 rfl rfl rfl) rfl ?_
          refine ln_gt rfl rfl rfl (pv_tt (pv_geq rfl rfl) hvn) rfl ?_
          refine ln_pv (pv_pick rfl (fun _ => rfl) (fun _ => rfl)) rfl ?_
          refine ln_pv (pv_assign rfl) rfl ?_
          refine ln_cd ?_
          refine cd_seq ?_
          refine cd_sr ?_
          refine ln_pv (pv_fieldAddr (off := 0) (r := 0) Tryz.underlying51 rfl (tiint).size rfl rfl rfl) rfl ?_
          refine ln_pv (pv_ldo (i := 2) rfl Tryz.underlying3 rfl rfl rfl) rfl ?_
          refine ln_pv (pv_ff (pv_eql rfl rfl) h8) rfl ?_
          refine ln_pv (pv_move rfl) rfl ?_
          refine ln_gt rfl rfl rfl (pv_fieldAddr (off := 0) (r := 0) Tryz.underlying51 rfl (tiint).size rfl rfl rfl) rfl ?_
          refine ln_gt rfl rfl rfl (pv_ldo (i := 2) rfl Tryz.underlying3 rfl rfl rfl) rfl ?_
          refine ln_gt rfl rfl rfl (pv_ff (pv_eql rfl rfl) h10) rfl ?_
          refine ln_pv (pv_pick rfl (fun _ => rfl) (fun _ => rfl)) rfl ?_
          refine ln_pv (pv_move rfl) rfl ?_
          refine ln_gt rfl rfl rfl (pv_move rfl) rfl ?_
          refine ln_pv (pv_pick rfl (fun _ => rfl) (fun _ => rfl)) rfl ?_
          refine ln_pv (pv_move rfl) rfl ?_
          refine ln_gt rfl rfl rfl (pv_fieldAddr (off := 2) (r := 2) Tryz.underlying26 rfl (tibool).size rfl rfl rfl) rfl ?_
          refine ln_gt rfl rfl rfl (pv_ldo (i := 0) rfl Tryz.underlying4 rfl rfl rfl) rfl ?_
          refine ln_gt rfl rfl rfl (pv_move rfl) rfl ?_
          refine ln_gt rfl rfl rfl (pv_neqB Tryz.underlying4 rfl rfl hz) rfl ?_
          refine ln_pv (pv_pick rfl (fun _ => rfl) (fun _ => rfl)) rfl ?_
          refine ln_cd ?_
          refine cd_ff rfl ?_
          refine cd_skip ?_
          refine at_cd ?_
          refine cd_seq ?_
          refine cd_sr ?_
          refine ln_pv (pv_move rfl) rfl ?_
          refine ln_cd ?_
          refine cd_tt rfl ?_
          refine cd_sr ?_
          refine ln_pv (pv_assign rfl) rfl ?_
          refine ln_cd ?_
          refine cd_ret ?_
          refine at_retA rfl rfl (fun w hS => ?_)
          rfl
        | false =>
          have hz := hz0 (.inr (.inr ⟨hnn, hvn⟩))
          rw [hnb] at hz
          have hval := hval0 hnb
          rw [if_neg h11, if_neg h10] at hval
          have hval : y.s = x.s.take 32767 := by unfold scP at hval; rwa [if_neg (by omega), if_pos (.inr h9)] at hval
          refine cd_sr ?_
          refine ln_box rfl rfl rfl (fun b1 => ?_)
          refine ln_box rfl rfl rfl (fun b2 => ?_)
          refine ln_box rfl rfl rfl (fun b3 => ?_)
          refine ln_pv (pv_assign rfl) rfl ?_
          refine ln_cd ?_
          refine cd_sr ?_
          refine ln_pv (pv_ldO (i := 2) rfl Tryz.underlying51 rfl (tispec_Field).size rfl rfl) rfl ?_
          refine ln_pv (pv_move rfl) rfl ?_
          refine ln_pv (pv_ldO (i := 1) rfl Tryz.underlying26 rfl (tispec_Tree).size rfl rfl) rfl ?_
          refine ln_callS en_133 rfl (fun u hu => by have h := spec_null u f _ v x _ (RF.mv hf0 hu) (RT.mv hx hu); rwa [show nullB f v x = false from hnb] at h) rfl ?_
          refine ln_pv (pv_assign rfl) rfl ?_
          refine ln_cd ?_
          refine cd_sr ?_
          refine ln_pv (pv_fieldAddr (off := 3) (r := 3) Tryz.underlying51 rfl (tiint).size rfl rfl rfl) rfl ?_
          refine ln_pv (pv_ldo (i := 2) rfl Tryz.underlying3 rfl rfl rfl) rfl ?_
          refine ln_pv (pv_tt (pv_geq rfl rfl) hnn) rfl ?_
          refine ln_pv (pv_move rfl) rfl ?_
          refine ln_gt rfl rfl rfl (pv_move rfl) rfl ?_
          refine ln_gt rfl rfl rfl (pv_fieldAddr (off := 3) (r := 3) Tryz.underlying51 rfl (tiint).size rfl rfl rfl) rfl ?_
          refine ln_gt rfl rfl rfl (pv_ldo (i := 2) rfl Tryz.underlying3 rfl rfl rfl) rfl ?_
          refine ln_gt rfl rfl rfl (pv_tt (pv_geq rfl rfl) hvn) rfl ?_
          refine ln_pv (pv_pick rfl (fun _ => rfl) (fun _ => rfl)) rfl ?_
          refine ln_pv (pv_assign rfl) rfl ?_
          refine ln_cd ?_
          refine cd_seq ?_
          refine cd_sr ?_
          refine ln_pv (pv_fieldAddr (off := 0) (r := 0) Tryz.underlying51 rfl (tiint).size rfl rfl rfl) rfl ?_
          refine ln_pv (pv_ldo (i := 2) rfl Tryz.underlying3 rfl rfl rfl) rfl ?_
          refine ln_pv (pv_ff (pv_eql rfl rfl) h8) rfl ?_
          refine ln_pv (pv_move rfl) rfl ?_
          refine ln_gt rfl rfl rfl (pv_fieldAddr (off := 0) (r := 0) Tryz.underlying51 rfl (tiint).size rfl rfl rfl) rfl ?_
          refine ln_gt rfl rfl rfl (pv_ldo (i := 2) rfl Tryz.underlying3 rfl rfl rfl) rfl ?_
          refine ln_gt rfl rfl rfl (pv_ff (pv_eql rfl rfl) h10) rfl ?_
          refine ln_pv (pv_pick rfl (fun _ => rfl) (fun _ => rfl)) rfl ?_
          refine ln_pv (pv_move rfl) rfl ?_
          refine ln_gt rfl rfl rfl (pv_move rfl) rfl ?_
          refine ln_pv (pv_pick rfl (fun _ => rfl) (fun _ => rfl)) rfl ?_
          refine ln_pv (pv_move rfl) rfl ?_
          refine ln_gt rfl rfl rfl (pv_fieldAddr (off := 2) (r := 2) Tryz.underlying26 rfl (tibool).size rfl rfl rfl) rfl ?_
          refine ln_gt rfl rfl rfl (pv_ldo (i := 0) rfl Tryz.underlying4 rfl rfl rfl) rfl ?_
          refine ln_gt rfl rfl rfl (pv_move rfl) rfl ?_
          refine ln_gt rfl rfl rfl (pv_neqB Tryz.underlying4 rfl rfl hz) rfl ?_
          refine ln_pv (pv_pick rfl (fun _ => rfl) (fun _ => rfl)) rfl ?_
          refine ln_cd ?_
          refine cd_ff rfl ?_
          refine cd_skip ?_
          refine at_cd ?_
          refine cd_seq ?_
          refine cd_sr ?_
          refine ln_pv (pv_move rfl) rfl ?_
          refine ln_cd ?_
          refine cd_ff rfl ?_
          refine cd_skip ?_
          refine at_cd ?_
          refine cd_seq ?_
          refine cd_sr ?_
          refine ln_pv (pv_fieldAddr (off := 0) (r := 0) Tryz.underlying51 rfl (tiint).size rfl rfl rfl) rfl ?_
          refine ln_pv (pv_ldo (i := 2) rfl Tryz.underlying3 rfl rfl rfl) rfl ?_
          refine ln_cd ?_
          refine cd_block ?_
          refine cd_seq ?_
          refine cd_sr ?_
          refine ln_pv (pv_ff (pv_eql rfl rfl) h8) rfl ?_
          refine ln_pv (pv_assign rfl) rfl ?_
          refine ln_cd ?_
          refine cd_ff rfl ?_
          refine cd_region ?_
          refine ln_pv (pv_tt (pv_eql rfl rfl) h9) rfl ?_
          refine ln_pv (pv_assign rfl) rfl ?_
          refine ln_nil ?_
          refine at_cd ?_
          refine cd_tt rfl ?_
          refine cd_dr' [0, 1, 2] [0, 1, 2, 3, 6] [0, 1, 2, 3, 4, 5, 6] mixed (by kernel_rfl) ?_
          refine lo_pv rfl rfl (sk_js (Tr.refl _) [0, 1, 2] rfl) (pv_fieldAddr (off := 1) (r := 1) Tryz.underlying26 rfl (tiSl_uint8).size rfl rfl rfl) rfl ?_
          refine lo_pv rfl rfl (sk_js (Tr.refl _) [0, 1, 2] rfl) (pv_ldo (i := 0) rfl Tryz.underlying22 rfl rfl rfl) rfl ?_
          refine lo_pv rfl rfl (sk_js (Tr.refl _) [0, 1, 2] rfl) (pv_fieldAddr (off := 1) (r := 1) Tryz.underlying26 rfl (tiSl_uint8).size rfl rfl rfl) rfl ?_
          refine lo_pv rfl rfl (sk_js (Tr.refl _) [0, 1, 2] rfl) (pv_ldo (i := 1) rfl Tryz.underlying22 rfl rfl rfl) rfl ?_
          refine lo_eff rfl rfl ?_
          refine ln_callA en_64 rfl (fun u hu => spec_whole u _ _ (RSv.mv hS hu)) rfl (fun u1 v1 ht1 hR1 => ?_)
          have hf0 := hf0.mv ht1
          have hVf := hVf.mv ht1
          have hFf := hFf.mv ht1
          have hx := hx.mv ht1
          have hS := hS.mv ht1
          have hL := hL.mv ht1
          have hLs := hLs.mv ht1
          have hy := hy.mv ht1
          have hgS := hgS.mv ht1
          have hgL := hgL.mv ht1
          have hgLs := hgLs.mv ht1
          refine lo_back (sk_js ht1 [0, 1, 2] rfl) ?_
          refine lo_eff rfl rfl ?_
          refine ln_callS en_63 rfl (fun u hu => by have h := spec_Same u _ _ _ _ (RSv.mv hgS hu) (RSv.mv hR1 hu) (by rw [hval]; simp only [List.length_take]; omega); rwa [decide_eq_true hval] at h) rfl ?_
          refine lo_back (sk_js ht1 [0, 1, 2] rfl) ?_
          refine lo_pv rfl rfl (sk_js ht1 [0, 1, 2] rfl) (pv_assign rfl) rfl ?_
          refine lo_cd ?_
          refine cd_ret ?_
          refine at_retA rfl rfl (fun w hS => ?_)
          rfl
      · have hnb : nulB f.nul v x = false := nulB_neg (fun h => hvn h.2)
        have hval := hval0 hnb
        rw [if_neg h11, if_neg h10] at hval
        have hval : y.s = x.s.take 32767 := by unfold scP at hval; rwa [if_neg (by omega), if_pos (.inr h9)] at hval
        refine cd_sr ?_
        refine ln_box rfl rfl rfl (fun b1 => ?_)
        refine ln_box rfl rfl rfl (fun b2 => ?_)
        refine ln_box rfl rfl rfl (fun b3 => ?_)
        refine ln_pv (pv_assign rfl) rfl ?_
        refine ln_cd ?_
        refine cd_sr ?_
        refine ln_pv (pv_ldO (i := 2) rfl Tryz.underlying51 rfl (tispec_Field).size rfl rfl) rfl ?_
        refine ln_pv (pv_move rfl) rfl ?_
        refine ln_pv (pv_ldO (i := 1) rfl Tryz.underlying26 rfl (tispec_Tree).size rfl rfl) rfl ?_
        refine ln_callS en_133 rfl (fun u hu => by have h := spec_null u f _ v x _ (RF.mv hf0 hu) (RT.mv hx hu); rwa [show nullB f v x = false from hnb] at h) rfl ?_
        refine ln_pv (pv_assign rfl) rfl ?_
        refine ln_cd ?_
        refine cd_sr ?_
        refine ln_pv (pv_fieldAddr (off := 3) (r := 3) Tryz.underlying51 rfl (tiint).size rfl rfl rfl) rfl ?_
        refine ln_pv (pv_ldo (i := 2) rfl Tryz.underlying3 rfl rfl rfl) rfl ?_
        refine ln_pv (pv_tt (pv_geq rfl rfl) hnn) rfl ?_
        refine ln_pv (pv_move rfl) rfl ?_
        refine ln_gt rfl rfl rfl (pv_move rfl) rfl ?_
        refine ln_gt rfl rfl rfl (pv_fieldAddr (off := 3) (r := 3) Tryz.underlying51 rfl (tiint).size rfl rfl rfl) rfl ?_
        refine ln_gt rfl rfl rfl (pv_ldo (i := 2) rfl Tryz.underlying3 rfl rfl rfl) rfl ?_
        refine ln_gt rfl rfl rfl (pv_ff (pv_geq rfl rfl) hvn) rfl ?_
        refine ln_pv (pv_pick rfl (fun _ => rfl) (fun _ => rfl)) rfl ?_
        refine ln_pv (pv_assign rfl) rfl ?_
        refine ln_cd ?_
        refine cd_seq ?_
        refine cd_sr ?_
        refine ln_pv (pv_fieldAddr (off := 0) (r := 0) Tryz.underlying51 rfl (tiint).size rfl rfl rfl) rfl ?_
        refine ln_pv (pv_ldo (i := 2) rfl Tryz.underlying3 rfl rfl rfl) rfl ?_
        refine ln_pv (pv_ff (pv_eql rfl rfl) h8) rfl ?_
        refine ln_pv (pv_move rfl) rfl ?_
        refine ln_gt rfl rfl rfl (pv_fieldAddr (off := 0) (r := 0) Tryz.underlying51 rfl (tiint).size rfl rfl rfl) rfl ?_
        refine ln_gt rfl rfl rfl (pv_ldo (i := 2) rfl Tryz.underlying3 rfl rfl rfl) rfl ?_
        refine ln_gt rfl rfl rfl (pv_ff (pv_eql rfl rfl) h10) rfl ?_
        refine ln_pv (pv_pick rfl (fun _ => rfl) (fun _ => rfl)) rfl ?_
        refine ln_pv (pv_move rfl) rfl ?_
        refine ln_gt rfl rfl rfl (pv_move rfl) rfl ?_
        refine ln_pv (pv_pick rfl (fun _ => rfl) (fun _ => rfl)) rfl ?_
        refine ln_pv (pv_move rfl) rfl ?_
        refine ln_gf rfl rfl rfl rfl rfl ?_
        refine ln_gf rfl rfl rfl rfl rfl ?_
        refine ln_gf rfl rfl rfl rfl rfl ?_
        refine ln_gf rfl rfl rfl rfl rfl ?_
        refine ln_pv (pv_pick rfl (fun _ => rfl) (fun _ => rfl)) rfl ?_
        refine ln_cd ?_
        refine cd_ff rfl ?_
        refine cd_skip ?_
        refine at_cd ?_
        refine cd_seq ?_
        refine cd_sr ?_
        refine ln_pv (pv_move rfl) rfl ?_
        refine ln_cd ?_
        refine cd_ff rfl ?_
        refine cd_skip ?_
        refine at_cd ?_
        refine cd_seq ?_
        refine cd_sr ?_
        refine ln_pv (pv_fieldAddr (off := 0) (r := 0) Tryz.underlying51 rfl (tiint).size rfl rfl rfl) rfl ?_
        refine ln_pv (pv_ldo (i := 2) rfl Tryz.underlying3 rfl rfl rfl) rfl ?_
        refine ln_cd ?_
        refine cd_block ?_
        refine cd_seq ?_
        refine cd_sr ?_
        refine ln_pv (pv_ff (pv_eql rfl rfl) h8) rfl ?_
        refine ln_pv (pv_assign rfl) rfl ?_
        refine ln_cd ?_
        refine cd_ff rfl ?_
        refine cd_region ?_
        refine ln_pv (pv_tt (pv_eql rfl rfl) h9) rfl ?_
        refine ln_pv (pv_assign rfl) rfl ?_
        refine ln_nil ?_
        refine at_cd ?_
        refine cd_tt rfl ?_
        refine cd_dr' [0, 1, 2] [0, 1, 2, 3, 6] [0, 1, 2, 3, 4, 5, 6] mixed (by kernel_rfl) ?_
        refine lo_pv rfl rfl (sk_js (Tr.refl _) [0, 1, 2] rfl) (pv_fieldAddr (off := 1) (r := 1) Tryz.underlying26 rfl (tiSl_uint8).size rfl rfl rfl) rfl ?_
        refine lo_pv rfl rfl (sk_js (Tr.refl _) [0, 1, 2] rfl) (pv_ldo (i := 0) rfl Tryz.underlying22 rfl rfl rfl) rfl ?_
        refine lo_pv rfl rfl (sk_js (Tr.refl _) [0, 1, 2] rfl) (pv_fieldAddr (off := 1) (r := 1) Tryz.underlying26 rfl (tiSl_uint8).size rfl rfl rfl) rfl ?_
        refine lo_pv rfl rfl (sk_js (Tr.refl _) [0, 1, 2] rfl) (pv_ldo (i := 1) rfl Tryz.underlying22 rfl rfl rfl) rfl ?_
        refine lo_eff rfl rfl ?_
        refine ln_callA en_64 rfl (fun u hu => spec_whole u _ _ (RSv.mv hS hu)) rfl (fun u1 v1 ht1 hR1 => ?_)
        have hf0 := hf0.mv ht1
        have hVf := hVf.mv ht1
        have hFf := hFf.mv ht1
        have hx := hx.mv ht1
        have hS := hS.mv ht1
        have hL := hL.mv ht1
        have hLs := hLs.mv ht1
        have hy := hy.mv ht1
        have hgS := hgS.mv ht1
        have hgL := hgL.mv ht1
        have hgLs := hgLs.mv ht1
        refine lo_back (sk_js ht1 [0, 1, 2] rfl) ?_
        refine lo_eff rfl rfl ?_
        refine ln_callS en_63 rfl (fun u hu => by have h := spec_Same u _ _ _ _ (RSv.mv hgS hu) (RSv.mv hR1 hu) (by rw [hval]; simp only [List.length_take]; omega); rwa [decide_eq_true hval] at h) rfl ?_
        refine lo_back (sk_js ht1 [0, 1, 2] rfl) ?_
        refine lo_pv rfl rfl (sk_js ht1 [0, 1, 2] rfl) (pv_assign rfl) rfl ?_
        refine lo_cd ?_
        refine cd_ret ?_
        refine at_retA rfl rfl (fun w hS => ?_)
        rfl
    · have hnb : nulB f.nul v x = false := nulB_neg (fun h => hnn h.1)
      have hval := hval0 hnb
      rw [if_neg h11, if_neg h10] at hval
      have hval : y.s = x.s.take 32767 := by unfold scP at hval; rwa [if_neg (by omega), if_pos (.inr h9)] at hval
      refine cd_sr ?_
      refine ln_box rfl rfl rfl (fun b1 => ?_)
      refine ln_box rfl rfl rfl (fun b2 => ?_)
      refine ln_box rfl rfl rfl (fun b3 => ?_)
      refine ln_pv (pv_assign rfl) rfl ?_
      refine ln_cd ?_
      refine cd_sr ?_
      refine ln_pv (pv_ldO (i := 2) rfl Tryz.underlying51 rfl (tispec_Field).size rfl rfl) rfl ?_
      refine ln_pv (pv_move rfl) rfl ?_
      refine ln_pv (pv_ldO (i := 1) rfl Tryz.underlying26 rfl (tispec_Tree).size rfl rfl) rfl ?_
      refine ln_callS en_133 rfl (fun u hu => by have h := spec_null u f _ v x _ (RF.mv hf0 hu) (RT.mv hx hu); rwa [show nullB f v x = false from hnb] at h) rfl ?_
      refine ln_pv (pv_assign rfl) rfl ?_
      refine ln_cd ?_
      refine cd_sr ?_
      refine ln_pv (pv_fieldAddr (off := 3) (r := 3) Tryz.underlying51 rfl (tiint).size rfl rfl rfl) rfl ?_
      refine ln_pv (pv_ldo (i := 2) rfl Tryz.underlying3 rfl rfl rfl) rfl ?_
      refine ln_pv (pv_ff (pv_geq rfl rfl) hnn) rfl ?_
      refine ln_pv (pv_move rfl) rfl ?_
      refine ln_gf rfl rfl rfl rfl rfl ?_
      refine ln_gf rfl rfl rfl rfl rfl ?_
      refine ln_gf rfl rfl rfl rfl rfl ?_
      refine ln_gf rfl rfl rfl rfl rfl ?_
      refine ln_pv (pv_pick rfl (fun _ => rfl) (fun _ => rfl)) rfl ?_
      refine ln_pv (pv_assign rfl) rfl ?_
      refine ln_cd ?_
      refine cd_seq ?_
      refine cd_sr ?_
      refine ln_pv (pv_fieldAddr (off := 0) (r := 0) Tryz.underlying51 rfl (tiint).size rfl rfl rfl) rfl ?_
      refine ln_pv (pv_ldo (i := 2) rfl Tryz.underlying3 rfl rfl rfl) rfl ?_
      refine ln_pv (pv_ff (pv_eql rfl rfl) h8) rfl ?_
      refine ln_pv (pv_move rfl) rfl ?_
      refine ln_gt rfl rfl rfl (pv_fieldAddr (off := 0) (r := 0) Tryz.underlying51 rfl (tiint).size rfl rfl rfl) rfl ?_
      refine ln_gt rfl rfl rfl (pv_ldo (i := 2) rfl Tryz.underlying3 rfl rfl rfl) rfl ?_
      refine ln_gt rfl rfl rfl (pv_ff (pv_eql rfl rfl) h10) rfl ?_
      refine ln_pv (pv_pick rfl (fun _ => rfl) (fun _ => rfl)) rfl ?_
      refine ln_pv (pv_move rfl) rfl ?_
      refine ln_gt rfl rfl rfl (pv_move rfl) rfl ?_
      refine ln_pv (pv_pick rfl (fun _ => rfl) (fun _ => rfl)) rfl ?_
      refine ln_pv (pv_move rfl) rfl ?_
      refine ln_gf rfl rfl rfl rfl rfl ?_
      refine ln_gf rfl rfl rfl rfl rfl ?_
      refine ln_gf rfl rfl rfl rfl rfl ?_
      refine ln_gf rfl rfl rfl rfl rfl ?_
      refine ln_pv (pv_pick rfl (fun _ => rfl) (fun _ => rfl)) rfl ?_
      refine ln_cd ?_
      refine cd_ff rfl ?_
      refine cd_skip ?_
      refine at_cd ?_
      refine cd_seq ?_
      refine cd_sr ?_
      refine ln_pv (pv_move rfl) rfl ?_
      refine ln_cd ?_
      refine cd_ff rfl ?_
      refine cd_skip ?_
      refine at_cd ?_
      refine cd_seq ?_
      refine cd_sr ?_
      refine ln_pv (pv_fieldAddr (off := 0) (r := 0) Tryz.underlying51 rfl (tiint).size rfl rfl rfl) rfl ?_
      refine ln_pv (pv_ldo (i := 2) rfl Tryz.underlying3 rfl rfl rfl) rfl ?_
      refine ln_cd ?_
      refine cd_block ?_
      refine cd_seq ?_
      refine cd_sr ?_
      refine ln_pv (pv_ff (pv_eql rfl rfl) h8) rfl ?_
      refine ln_pv (pv_assign rfl) rfl ?_
      refine ln_cd ?_
      refine cd_ff rfl ?_
      refine cd_region ?_
      refine ln_pv (pv_tt (pv_eql rfl rfl) h9) rfl ?_
      refine ln_pv (pv_assign rfl) rfl ?_
      refine ln_nil ?_
      refine at_cd ?_
      refine cd_tt rfl ?_
      refine cd_dr' [0, 1, 2] [0, 1, 2, 3, 6] [0, 1, 2, 3, 4, 5, 6] mixed (by kernel_rfl) ?_
      refine lo_pv rfl rfl (sk_js (Tr.refl _) [0, 1, 2] rfl) (pv_fieldAddr (off := 1) (r := 1) Tryz.underlying26 rfl (tiSl_uint8).size rfl rfl rfl) rfl ?_
      refine lo_pv rfl rfl (sk_js (Tr.refl _) [0, 1, 2] rfl) (pv_ldo (i := 0) rfl Tryz.underlying22 rfl rfl rfl) rfl ?_
      refine lo_pv rfl rfl (sk_js (Tr.refl _) [0, 1, 2] rfl) (pv_fieldAddr (off := 1) (r := 1) Tryz.underlying26 rfl (tiSl_uint8).size rfl rfl rfl) rfl ?_
      refine lo_pv rfl rfl (sk_js (Tr.refl _) [0, 1, 2] rfl) (pv_ldo (i := 1) rfl Tryz.underlying22 rfl rfl rfl) rfl ?_
      refine lo_eff rfl rfl ?_
      refine ln_callA en_64 rfl (fun u hu => spec_whole u _ _ (RSv.mv hS hu)) rfl (fun u1 v1 ht1 hR1 => ?_)
      have hf0 := hf0.mv ht1
      have hVf := hVf.mv ht1
      have hFf := hFf.mv ht1
      have hx := hx.mv ht1
      have hS := hS.mv ht1
      have hL := hL.mv ht1
      have hLs := hLs.mv ht1
      have hy := hy.mv ht1
      have hgS := hgS.mv ht1
      have hgL := hgL.mv ht1
      have hgLs := hgLs.mv ht1
      refine lo_back (sk_js ht1 [0, 1, 2] rfl) ?_
      refine lo_eff rfl rfl ?_
      refine ln_callS en_63 rfl (fun u hu => by have h := spec_Same u _ _ _ _ (RSv.mv hgS hu) (RSv.mv hR1 hu) (by rw [hval]; simp only [List.length_take]; omega); rwa [decide_eq_true hval] at h) rfl ?_
      refine lo_back (sk_js ht1 [0, 1, 2] rfl) ?_
      refine lo_pv rfl rfl (sk_js ht1 [0, 1, 2] rfl) (pv_assign rfl) rfl ?_
      refine lo_cd ?_
      refine cd_ret ?_
      refine at_retA rfl rfl (fun w hS => ?_)
      rfl
  · exact absurd h11 hk11
  · skip
    by_cases hnn : f.nul ≥ 0
    · by_cases hvn : v ≥ f.nul
      · cases hnb : nulB f.nul v x with
        | true =>
          have hz := hz0 (.inr (.inl h10))
          rw [hnb] at hz
          refine cd_sr ?_
          refine ln_box rfl rfl rfl (fun b1 => ?_)
          refine ln_box rfl rfl rfl (fun b2 => ?_)
          refine ln_box rfl rfl rfl (fun b3 => ?_)
          refine ln_pv (pv_assign rfl) rfl ?_
          refine ln_cd ?_
          refine cd_sr ?_
          refine ln_pv (pv_ldO (i := 2) rfl Tryz.underlying51 rfl (tispec_Field).size rfl rfl) rfl ?_
          refine ln_pv (pv_move rfl) rfl ?_
          refine ln_pv (pv_ldO (i := 1) rfl Tryz.underlying26 rfl (tispec_Tree).size rfl rfl) rfl ?_
          refine ln_callS en_133 rfl (fun u hu => by have h := spec_null u f _ v x _ (RF.mv hf0 hu) (RT.mv hx hu); rwa [show nullB f v x = true from hnb] at h) rfl ?_
          refine ln_pv (pv_assign rfl) rfl ?_
          refine ln_cd ?_
          refine cd_sr ?_
          refine ln_pv (pv_fieldAddr (off := 3) (r := 3) Tryz.underlying51 rfl (tiint).size rfl rfl rfl) rfl ?_
          refine ln_pv (pv_ldo (i := 2) rfl Tryz.underlying3 rfl rfl rfl) rfl ?_
          refine ln_pv (pv_tt (pv_geq rfl rfl) hnn) rfl ?_
          refine ln_pv (pv_move rfl) rfl ?_
          refine ln_gt rfl rfl rfl (pv_move rfl) rfl ?_
          refine ln_gt rfl rfl rfl (pv_fieldAddr (off := 3) (r := 3) Tryz.underlying51 rfl (tiint).size rfl rfl rfl) rfl ?_
          refine ln_gt rfl rfl rfl (pv_ldo (i := 2) rfl Tryz.underlying3 rfl rfl rfl) rfl ?_
          refine ln_gt rfl rfl rfl (pv_tt (pv_geq rfl rfl) hvn) rfl ?_
          refine ln_pv (pv_pick rfl (fun _ => rfl) (fun _ => rfl)) rfl ?_
          refine ln_pv (pv_assign rfl) rfl ?_
          refine ln_cd ?_
          refine cd_seq ?_
          refine cd_sr ?_
          refine ln_pv (pv_fieldAddr (off := 0) (r := 0) Tryz.underlying51 rfl (tiint).size rfl rfl rfl) rfl ?_
          refine ln_pv (pv_ldo (i := 2) rfl Tryz.underlying3 rfl rfl rfl) rfl ?_
          refine ln_pv (pv_ff (pv_eql rfl rfl) h8) rfl ?_
          refine ln_pv (pv_move rfl) rfl ?_
          refine ln_gt rfl rfl rfl (pv_fieldAddr (off := 0) (r := 0) Tryz.underlying51 rfl (tiint).size rfl rfl rfl) rfl ?_
          refine ln_gt rfl rfl rfl (pv_ldo (i := 2) rfl Tryz.underlying3 rfl rfl rfl) rfl ?_
          refine ln_gt rfl rfl rfl (pv_tt (pv_eql rfl rfl) h10) rfl ?_
          refine ln_pv (pv_pick rfl (fun _ => rfl) (fun _ => rfl)) rfl ?_
          refine ln_pv (pv_move rfl) rfl ?_
          refine ln_gf rfl rfl rfl rfl rfl ?_
          refine ln_pv (pv_pick rfl (fun _ => rfl) (fun _ => rfl)) rfl ?_
          refine ln_pv (pv_move rfl) rfl ?_
          refine ln_gt rfl rfl rfl (pv_fieldAddr (off := 2) (r := 2) Tryz.underlying26 rfl (tibool).size rfl rfl rfl) rfl ?_
          refine ln_gt rfl rfl rfl (pv_ldo (i := 0) rfl Tryz.underlying4 rfl rfl rfl) rfl ?_
          refine ln_gt rfl rfl rfl (pv_move rfl) rfl ?_
          refine ln_gt rfl rfl rfl (pv_neqB Tryz.underlying4 rfl rfl hz) rfl ?_
          refine ln_pv (pv_pick rfl (fun _ => rfl) (fun _ => rfl)) rfl ?_
          refine ln_cd ?_
          refine cd_ff rfl ?_
          refine cd_skip ?_
          refine at_cd ?_
          refine cd_seq ?_
          refine cd_sr ?_
          refine ln_pv (pv_move rfl) rfl ?_
          refine ln_cd ?_
          refine cd_tt rfl ?_
          refine cd_sr ?_
          refine ln_pv (pv_assign rfl) rfl ?_
          refine ln_cd ?_
          refine cd_ret ?_
          refine at_retA rfl rfl (fun w hS => ?_)
          rfl
        | false =>
          have hz := hz0 (.inr (.inl h10))
          rw [hnb] at hz
          have hval := hval0 hnb
          rw [if_neg h11, if_pos h10] at hval
          refine cd_sr ?_
          refine ln_box rfl rfl rfl (fun b1 => ?_)
          refine ln_box rfl rfl rfl (fun b2 => ?_)
          refine ln_box rfl rfl rfl (fun b3 => ?_)
          refine ln_pv (pv_assign rfl) rfl ?_
          refine ln_cd ?_
          refine cd_sr ?_
          refine ln_pv (pv_ldO (i := 2) rfl Tryz.underlying51 rfl (tispec_Field).size rfl rfl) rfl ?_
          refine ln_pv (pv_move rfl) rfl ?_
          refine ln_pv (pv_ldO (i := 1) rfl Tryz.underlying26 rfl (tispec_Tree).size rfl rfl) rfl ?_
          refine ln_callS en_133 rfl (fun u hu => by have h := spec_null u f _ v x _ (RF.mv hf0 hu) (RT.mv hx hu); rwa [show nullB f v x = false from hnb] at h) rfl ?_
          refine ln_pv (pv_assign rfl) rfl ?_
          refine ln_cd ?_
          refine cd_sr ?_
          refine ln_pv (pv_fieldAddr (off := 3) (r := 3) Tryz.underlying51 rfl (tiint).size rfl rfl rfl) rfl ?_
          refine ln_pv (pv_ldo (i := 2) rfl Tryz.underlying3 rfl rfl rfl) rfl ?_
          refine ln_pv (pv_tt (pv_geq rfl rfl) hnn) rfl ?_
          refine ln_pv (pv_move rfl) rfl ?_
          refine ln_gt rfl rfl rfl (pv_move rfl) rfl ?_
          refine ln_gt rfl rfl rfl (pv_fieldAddr (off := 3) (r := 3) Tryz.underlying51 rfl (tiint).size rfl rfl rfl) rfl ?_
          refine ln_gt rfl rfl rfl (pv_ldo (i := 2) rfl Tryz.underlying3 rfl rfl rfl) rfl ?_
          refine ln_gt rfl rfl rfl (pv_tt (pv_geq rfl rfl) hvn) rfl ?_
          refine ln_pv (pv_pick rfl (fun _ => rfl) (fun _ => rfl)) rfl ?_
          refine ln_pv (pv_assign rfl) rfl ?_
          refine ln_cd ?_
          refine cd_seq ?_
          refine cd_sr ?_
          refine ln_pv (pv_fieldAddr (off := 0) (r := 0) Tryz.underlying51 rfl (tiint).size rfl rfl rfl) rfl ?_
          refine ln_pv (pv_ldo (i := 2) rfl Tryz.underlying3 rfl rfl rfl) rfl ?_
          refine ln_pv (pv_ff (pv_eql rfl rfl) h8) rfl ?_
          refine ln_pv (pv_move rfl) rfl ?_
          refine ln_gt rfl rfl rfl (pv_fieldAddr (off := 0) (r := 0) Tryz.underlying51 rfl (tiint).size rfl rfl rfl) rfl ?_
          refine ln_gt rfl rfl rfl (pv_ldo (i := 2) rfl Tryz.underlying3 rfl rfl rfl) rfl ?_
          refine ln_gt rfl rfl rfl (pv_tt (pv_eql rfl rfl) h10) rfl ?_
          refine ln_pv (pv_pick rfl (fun _ => rfl) (fun _ => rfl)) rfl ?_
          refine ln_pv (pv_move rfl) rfl ?_
          refine ln_gf rfl rfl rfl rfl rfl ?_
          refine ln_pv (pv_pick rfl (fun _ => rfl) (fun _ => rfl)) rfl ?_
          refine ln_pv (pv_move rfl) rfl ?_
          refine ln_gt rfl rfl rfl (pv_fieldAddr (off := 2) (r := 2) Tryz.underlying26 rfl (tibool).size rfl rfl rfl) rfl ?_
          refine ln_gt rfl rfl rfl (pv_ldo (i := 0) rfl Tryz.underlying4 rfl rfl rfl) rfl ?_
          refine ln_gt rfl rfl rfl (pv_move rfl) rfl ?_
          refine ln_gt rfl rfl rfl (pv_neqB Tryz.underlying4 rfl rfl hz) rfl ?_
          refine ln_pv (pv_pick rfl (fun _ => rfl) (fun _ => rfl)) rfl ?_
          refine ln_cd ?_
          refine cd_ff rfl ?_
          refine cd_skip ?_
          refine at_cd ?_
          refine cd_seq ?_
          refine cd_sr ?_
          refine ln_pv (pv_move rfl) rfl ?_
          refine ln_cd ?_
          refine cd_ff rfl ?_
          refine cd_skip ?_
          refine at_cd ?_
          refine cd_seq ?_
          refine cd_sr ?_
          refine ln_pv (pv_fieldAddr (off := 0) (r := 0) Tryz.underlying51 rfl (tiint).size rfl rfl rfl) rfl ?_
          refine ln_pv (pv_ldo (i := 2) rfl Tryz.underlying3 rfl rfl rfl) rfl ?_
          refine ln_cd ?_
          refine cd_block ?_
          refine cd_seq ?_
          refine cd_sr ?_
          refine ln_pv (pv_ff (pv_eql rfl rfl) h8) rfl ?_
          refine ln_pv (pv_assign rfl) rfl ?_
          refine ln_cd ?_
          refine cd_ff rfl ?_
          refine cd_region ?_
          refine ln_pv (pv_ff (pv_eql rfl rfl) h9) rfl ?_
          refine ln_pv (pv_assign rfl) rfl ?_
          refine ln_nil ?_
          refine at_cd ?_
          refine cd_ff rfl ?_
          refine cd_sr ?_
          refine ln_pv (pv_ff (pv_eql rfl rfl) h7) rfl ?_
          refine ln_pv (pv_assign rfl) rfl ?_
          refine ln_cd ?_
          refine cd_ff rfl ?_
          refine cd_sr ?_
          refine ln_pv (pv_tt (pv_eql rfl rfl) h10) rfl ?_
          refine ln_pv (pv_assign rfl) rfl ?_
          refine ln_cd ?_
          refine cd_tt rfl ?_
          refine cd_sr ?_
          refine ln_pv (pv_fieldAddr (off := 7) (r := 7) Tryz.underlying51 rfl (tiSl_spec_Field).size rfl rfl rfl) rfl ?_
          refine ln_pv (pv_ldo (i := 2) rfl Tryz.underlying29 rfl rfl rfl) rfl ?_
          refine ln_pv (pv_move rfl) rfl ?_
          refine ln_pv (pv_move rfl) rfl ?_
          refine ln_pv (pv_ldO (i := 1) rfl Tryz.underlying26 rfl (tispec_Tree).size rfl rfl) rfl ?_
          refine ln_pv (pv_ldO (i := 0) rfl Tryz.underlying26 rfl (tispec_Tree).size rfl rfl) rfl ?_
          refine ln_callS en_19 rfl (fun u hu => hP u _ _ _ _ v q x y (RS.mv hVf hu) (RFs.mv hFf hu) (RT.mv hx hu) hsm (RT.mv hy hu) hsy hval) rfl ?_
          refine ln_pv (pv_assign rfl) rfl ?_
          refine ln_cd ?_
          refine cd_ret ?_
          refine at_retA rfl rfl (fun w hS => ?_)
          rfl
      · have hnb : nulB f.nul v x = false := nulB_neg (fun h => hvn h.2)
        have hz := hz0 (.inr (.inl h10))
        rw [hnb] at hz
        have hval := hval0 hnb
        rw [if_neg h11, if_pos h10] at hval
        refine cd_sr ?_
        refine ln_box rfl rfl rfl (fun b1 => ?_)
        refine ln_box rfl rfl rfl (fun b2 => ?_)
        refine ln_box rfl rfl rfl (fun b3 => ?_)
        refine ln_pv (pv_assign rfl) rfl ?_
        refine ln_cd ?_
        refine cd_sr ?_
        refine ln_pv (pv_ldO (i := 2) rfl Tryz.underlying51 rfl (tispec_Field).size rfl rfl) rfl ?_
        refine ln_pv (pv_move rfl) rfl ?_
        refine ln_pv (pv_ldO (i := 1) rfl Tryz.underlying26 rfl (tispec_Tree).size rfl rfl) rfl ?_
        refine ln_callS en_133 rfl (fun u hu => by have h := spec_null u f _ v x _ (RF.mv hf0 hu) (RT.mv hx hu); rwa [show nullB f v x = false from hnb] at h) rfl ?_
        refine ln_pv (pv_assign rfl) rfl ?_
        refine ln_cd ?_
        refine cd_sr ?_
        refine ln_pv (pv_fieldAddr (off := 3) (r := 3) Tryz.underlying51 rfl (tiint).size rfl rfl rfl) rfl ?_
        refine ln_pv (pv_ldo (i := 2) rfl Tryz.underlying3 rfl rfl rfl) rfl ?_
        refine ln_pv (pv_tt (pv_geq rfl rfl) hnn) rfl ?_
        refine ln_pv (pv_move rfl) rfl ?_
        refine ln_gt rfl rfl rfl (pv_move rfl) rfl ?_
        refine ln_gt rfl rfl rfl (pv_fieldAddr (off := 3) (r := 3) Tryz.underlying51 rfl (tiint).size rfl rfl rfl) rfl ?_
        refine ln_gt rfl rfl rfl (pv_ldo (i := 2) rfl Tryz.underlying3 rfl rfl rfl) rfl ?_
        refine ln_gt rfl rfl rfl (pv_ff (pv_geq rfl rfl) hvn) rfl ?_
        refine ln_pv (pv_pick rfl (fun _ => rfl) (fun _ => rfl)) rfl ?_
        refine ln_pv (pv_assign rfl) rfl ?_
        refine ln_cd ?_
        refine cd_seq ?_
        refine cd_sr ?_
        refine ln_pv (pv_fieldAddr (off := 0) (r := 0) Tryz.underlying51 rfl (tiint).size rfl rfl rfl) rfl ?_
        refine ln_pv (pv_ldo (i := 2) rfl Tryz.underlying3 rfl rfl rfl) rfl ?_
        refine ln_pv (pv_ff (pv_eql rfl rfl) h8) rfl ?_
        refine ln_pv (pv_move rfl) rfl ?_
        refine ln_gt rfl rfl rfl (pv_fieldAddr (off := 0) (r := 0) Tryz.underlying51 rfl (tiint).size rfl rfl rfl) rfl ?_
        refine ln_gt rfl rfl rfl (pv_ldo (i := 2) rfl Tryz.underlying3 rfl rfl rfl) rfl ?_
        refine ln_gt rfl rfl rfl (pv_tt (pv_eql rfl rfl) h10) rfl ?_
        refine ln_pv (pv_pick rfl (fun _ => rfl) (fun _ => rfl)) rfl ?_
        refine ln_pv (pv_move rfl) rfl ?_
        refine ln_gf rfl rfl rfl rfl rfl ?_
        refine ln_pv (pv_pick rfl (fun _ => rfl) (fun _ => rfl)) rfl ?_
        refine ln_pv (pv_move rfl) rfl ?_
        refine ln_gt rfl rfl rfl (pv_fieldAddr (off := 2) (r := 2) Tryz.underlying26 rfl (tibool).size rfl rfl rfl) rfl ?_
        refine ln_gt rfl rfl rfl (pv_ldo (i := 0) rfl Tryz.underlying4 rfl rfl rfl) rfl ?_
        refine ln_gt rfl rfl rfl (pv_move rfl) rfl ?_
        refine ln_gt rfl rfl rfl (pv_neqB Tryz.underlying4 rfl rfl hz) rfl ?_
        refine ln_pv (pv_pick rfl (fun _ => rfl) (fun _ => rfl)) rfl ?_
        refine ln_cd ?_
        refine cd_ff rfl ?_
        refine cd_skip ?_
        refine at_cd ?_
        refine cd_seq ?_
        refine cd_sr ?_
        refine ln_pv (pv_move rfl) rfl ?_
        refine ln_cd ?_
        refine cd_ff rfl ?_
        refine cd_skip ?_
        refine at_cd ?_
        refine cd_seq ?_
        refine cd_sr ?_
        refine ln_pv (pv_fieldAddr (off := 0) (r := 0) Tryz.underlying51 rfl (tiint).size rfl rfl rfl) rfl ?_
        refine ln_pv (pv_ldo (i := 2) rfl Tryz.underlying3 rfl rfl rfl) rfl ?_
        refine ln_cd ?_
        refine cd_block ?_
        refine cd_seq ?_
        refine cd_sr ?_
        refine ln_pv (pv_ff (pv_eql rfl rfl) h8) rfl ?_
        refine ln_pv (pv_assign rfl) rfl ?_
        refine ln_cd ?_
        refine cd_ff rfl ?_
        refine cd_region ?_
        refine ln_pv (pv_ff (pv_eql rfl rfl) h9) rfl ?_
        refine ln_pv (pv_assign rfl) rfl ?_
        refine ln_nil ?_
        refine at_cd ?_
        refine cd_ff rfl ?_
        refine cd_sr ?_
        refine ln_pv (pv_ff (pv_eql rfl rfl) h7) rfl ?_
        refine ln_pv (pv_assign rfl) rfl ?_
        refine ln_cd ?_
        refine cd_ff rfl ?_
        refine cd_sr ?_
        refine ln_pv (pv_tt (pv_eql rfl rfl) h10) rfl ?_
        refine ln_pv (pv_assign rfl) rfl ?_
        refine ln_cd ?_
        refine cd_tt rfl ?_
        refine cd_sr ?_
        refine ln_pv (pv_fieldAddr (off := 7) (r := 7) Tryz.underlying51 rfl (tiSl_spec_Field).size rfl rfl rfl) rfl ?_
        refine ln_pv (pv_ldo (i := 2) rfl Tryz.underlying29 rfl rfl rfl) rfl ?_
        refine ln_pv (pv_move rfl) rfl ?_
        refine ln_pv (pv_move rfl) rfl ?_
        refine ln_pv (pv_ldO (i := 1) rfl Tryz.underlying26 rfl (tispec_Tree).size rfl rfl) rfl ?_
        refine ln_pv (pv_ldO (i := 0) rfl Tryz.underlying26 rfl (tispec_Tree).size rfl rfl) rfl ?_
        refine ln_callS en_19 rfl (fun u hu => hP u _ _ _ _ v q x y (RS.mv hVf hu) (RFs.mv hFf hu) (RT.mv hx hu) hsm (RT.mv hy hu) hsy hval) rfl ?_
        refine ln_pv (pv_assign rfl) rfl ?_
        refine ln_cd ?_
        refine cd_ret ?_
        refine at_retA rfl rfl (fun w hS => ?_)
        rfl
    · have hnb : nulB f.nul v x = false := nulB_neg (fun h => hnn h.1)
      have hz := hz0 (.inr (.inl h10))
      rw [hnb] at hz
      have hval := hval0 hnb
      rw [if_neg h11, if_pos h10] at hval
      refine cd_sr ?_
      refine ln_box rfl rfl rfl (fun b1 => ?_)
      refine ln_box rfl rfl rfl (fun b2 => ?_)
      refine ln_box rfl rfl rfl (fun b3 => ?_)
      refine ln_pv (pv_assign rfl) rfl ?_
      refine ln_cd ?_
      refine cd_sr ?_
      refine ln_pv (pv_ldO (i := 2) rfl Tryz.underlying51 rfl (tispec_Field).size rfl rfl) rfl ?_
      refine ln_pv (pv_move rfl) rfl ?_
      refine ln_pv (pv_ldO (i := 1) rfl Tryz.underlying26 rfl (tispec_Tree).size rfl rfl) rfl ?_
      refine ln_callS en_133 rfl (fun u hu => by have h := spec_null u f _ v x _ (RF.mv hf0 hu) (RT.mv hx hu); rwa [show nullB f v x = false from hnb] at h) rfl ?_
      refine ln_pv (pv_assign rfl) rfl ?_
      refine ln_cd ?_
      refine cd_sr ?_
      refine ln_pv (pv_fieldAddr (off := 3) (r := 3) Tryz.underlying51 rfl (tiint).size rfl rfl rfl) rfl ?_
      refine ln_pv (pv_ldo (i := 2) rfl Tryz.underlying3 rfl rfl rfl) rfl ?_
      refine ln_pv (pv_ff (pv_geq rfl rfl) hnn) rfl ?_
      refine ln_pv (pv_move rfl) rfl ?_
      refine ln_gf rfl rfl rfl rfl rfl ?_
      refine ln_gf rfl rfl rfl rfl rfl ?_
      refine ln_gf rfl rfl rfl rfl rfl ?_
      refine ln_gf rfl rfl rfl rfl rfl ?_
      refine ln_pv (pv_pick rfl (fun _ => rfl) (fun _ => rfl)) rfl ?_
      refine ln_pv (pv_assign rfl) rfl ?_
      refine ln_cd ?_
      refine cd_seq ?_
      refine cd_sr ?_
      refine ln_pv (pv_fieldAddr (off := 0) (r := 0) Tryz.underlying51 rfl (tiint).size rfl rfl rfl) rfl ?_
      refine ln_pv (pv_ldo (i := 2) rfl Tryz.underlying3 rfl rfl rfl) rfl ?_
      refine ln_pv (pv_ff (pv_eql rfl rfl) h8) rfl ?_
      refine ln_pv (pv_move rfl) rfl ?_
      refine ln_gt rfl rfl rfl (pv_fieldAddr (off := 0) (r := 0) Tryz.underlying51 rfl (tiint).size rfl rfl rfl) rfl ?_
      refine ln_gt rfl rfl rfl (pv_ldo (i := 2) rfl Tryz.underlying3 rfl rfl rfl) rfl ?_
      refine ln_gt rfl rfl rfl (pv_tt (pv_eql rfl rfl) h10) rfl ?_
      refine ln_pv (pv_pick rfl (fun _ => rfl) (fun _ => rfl)) rfl ?_
      refine ln_pv (pv_move rfl) rfl ?_
      refine ln_gf rfl rfl rfl rfl rfl ?_
      refine ln_pv (pv_pick rfl (fun _ => rfl) (fun _ => rfl)) rfl ?_
      refine ln_pv (pv_move rfl) rfl ?_
      refine ln_gt rfl rfl rfl (pv_fieldAddr (off := 2) (r := 2) Tryz.underlying26 rfl (tibool).size rfl rfl rfl) rfl ?_
      refine ln_gt rfl rfl rfl (pv_ldo (i := 0) rfl Tryz.underlying4 rfl rfl rfl) rfl ?_
      refine ln_gt rfl rfl rfl (pv_move rfl) rfl ?_
      refine ln_gt rfl rfl rfl (pv_neqB Tryz.underlying4 rfl rfl hz) rfl ?_
      refine ln_pv (pv_pick rfl (fun _ => rfl) (fun _ => rfl)) rfl ?_
      refine ln_cd ?_
      refine cd_ff rfl ?_
      refine cd_skip ?_
      refine at_cd ?_
      refine cd_seq ?_
      refine cd_sr ?_
      refine ln_pv (pv_move rfl) rfl ?_
      refine ln_cd ?_
      refine cd_ff rfl ?_
      refine cd_skip ?_
      refine at_cd ?_
      refine cd_seq ?_
      refine cd_sr ?_
      refine ln_pv (pv_fieldAddr (off := 0) (r := 0) Tryz.underlying51 rfl (tiint).size rfl rfl rfl) rfl ?_
      refine ln_pv (pv_ldo (i := 2) rfl Tryz.underlying3 rfl rfl rfl) rfl ?_
      refine ln_cd ?_
      refine cd_block ?_
      refine cd_seq ?_
      refine cd_sr ?_
      refine ln_pv (pv_ff (pv_eql rfl rfl) h8) rfl ?_
      refine ln_pv (pv_assign rfl) rfl ?_
      refine ln_cd ?_
      refine cd_ff rfl ?_
      refine cd_region ?_
      refine ln_pv (pv_ff (pv_eql rfl rfl) h9) rfl ?_
      refine ln_pv (pv_assign rfl) rfl ?_
      refine ln_nil ?_
      refine at_cd ?_
      refine cd_ff rfl ?_
      refine cd_sr ?_
      refine ln_pv (pv_ff (pv_eql rfl rfl) h7) rfl ?_
      refine ln_pv (pv_assign rfl) rfl ?_
      refine ln_cd ?_
      refine cd_ff rfl ?_
      refine cd_sr ?_
      refine ln_pv (pv_tt (pv_eql rfl rfl) h10) rfl ?_
      refine ln_pv (pv_assign rfl) rfl ?_
      refine ln_cd ?_
      refine cd_tt rfl ?_
      refine cd_sr ?_
      refine ln_pv (pv_fieldAddr (off := 7) (r := 7) Tryz.underlying51 rfl (tiSl_spec_Field).size rfl rfl rfl) rfl ?_
      refine ln_pv (pv_ldo (i := 2) rfl Tryz.underlying29 rfl rfl rfl) rfl ?_
      refine ln_pv (pv_move rfl) rfl ?_
      refine ln_pv (pv_move rfl) rfl ?_
      refine ln_pv (pv_ldO (i := 1) rfl Tryz.underlying26 rfl (tispec_Tree).size rfl rfl) rfl ?_
      refine ln_pv (pv_ldO (i := 0) rfl Tryz.underlying26 rfl (tispec_Tree).size rfl rfl) rfl ?_
      refine ln_callS en_19 rfl (fun u hu => hP u _ _ _ _ v q x y (RS.mv hVf hu) (RFs.mv hFf hu) (RT.mv hx hu) hsm (RT.mv hy hu) hsy hval) rfl ?_
      refine ln_pv (pv_assign rfl) rfl ?_
      refine ln_cd ?_
      refine cd_ret ?_
      refine at_retA rfl rfl (fun w hS => ?_)
      rfl
  · skip
    by_cases hnn : f.nul ≥ 0
    · by_cases hvn : v ≥ f.nul
      · cases hnb : nulB f.nul v x with
        | true =>
          have hz := hz0 (.inr (.inr ⟨hnn, hvn⟩))
          rw [hnb] at hz
          refine cd_sr ?_
          refine ln_box rfl rfl rfl (fun b1 => ?_)
          refine ln_box rfl rfl rfl (fun b2 => ?_)
          refine ln_box rfl rfl rfl (fun b3 => ?_)
          refine ln_pv (pv_assign rfl) rfl ?_
          refine ln_cd ?_
          refine cd_sr ?_
          refine ln_pv (pv_ldO (i := 2) rfl Tryz.underlying51 rfl (tispec_Field).size rfl rfl) rfl ?_
          refine ln_pv (pv_move rfl) rfl ?_
          refine ln_pv (pv_ldO (i := 1) rfl Tryz.underlying26 rfl (tispec_Tree).size rfl rfl) rfl ?_
          refine ln_callS en_133 rfl (fun u hu => by have h := spec_null u f _ v x _ (RF.mv hf0 hu) (RT.mv hx hu); rwa [show nullB f v x = true from hnb] at h) rfl ?_
          refine ln_pv (pv_assign rfl) rfl ?_
          refine ln_cd ?_
          refine cd_sr ?_
          refine ln_pv (pv_fieldAddr (off := 3) (r := 3) Tryz.underlying51 rfl (tiint).size rfl rfl rfl) rfl ?_
          refine ln_pv (pv_ldo (i := 2) rfl Tryz.underlying3 rfl rfl rfl) rfl ?_
          refine ln_pv (pv_tt (pv_geq rfl rfl) hnn) rfl ?_
          refine ln_pv (pv_move rfl) rfl ?_
          refine ln_gt rfl rfl rfl (pv_move rfl) rfl ?_
          refine ln_gt rfl rfl rfl (pv_fieldAddr (off := 3) (r := 3) Tryz.underlying51 rfl (tiint).size rfl rfl rfl) rfl ?_
          refine ln_gt rfl rfl rfl (pv_ldo (i := 2) rfl Tryz.underlying3 rfl rfl rfl) rfl ?_
          refine ln_gt rfl rfl rfl (pv_tt (pv_geq rfl rfl) hvn) rfl ?_
          refine ln_pv (pv_pick rfl (fun _ => rfl) (fun _ => rfl)) rfl ?_
          refine ln_pv (pv_assign rfl) rfl ?_
          refine ln_cd ?_
          refine cd_seq ?_
          refine cd_sr ?_
          refine ln_pv (pv_fieldAddr (off := 0) (r := 0) Tryz.underlying51 rfl (tiint).size rfl rfl rfl) rfl ?_
          refine ln_pv (pv_ldo (i := 2) rfl Tryz.underlying3 rfl rfl rfl) rfl ?_
          refine ln_pv (pv_ff (pv_eql rfl rfl) h8) rfl ?_
          refine ln_pv (pv_move rfl) rfl ?_
          refine ln_gt rfl rfl rfl (pv_fieldAddr (off := 0) (r := 0) Tryz.underlying51 rfl (tiint).size rfl rfl rfl) rfl ?_
          refine ln_gt rfl rfl rfl (pv_ldo (i := 2) rfl Tryz.underlying3 rfl rfl rfl) rfl ?_
          refine ln_gt rfl rfl rfl (pv_ff (pv_eql rfl rfl) h10) rfl ?_
          refine ln_pv (pv_pick rfl (fun _ => rfl) (fun _ => rfl)) rfl ?_
          refine ln_pv (pv_move rfl) rfl ?_
          refine ln_gt rfl rfl rfl (pv_move rfl) rfl ?_
          refine ln_pv (pv_pick rfl (fun _ => rfl) (fun _ => rfl)) rfl ?_
          refine ln_pv (pv_move rfl) rfl ?_
          refine ln_gt rfl rfl rfl (pv_fieldAddr (off := 2) (r := 2) Tryz.underlying26 rfl (tibool).size rfl rfl rfl) rfl ?_
          refine ln_gt rfl rfl rfl (pv_ldo (i := 0) rfl Tryz.underlying4 rfl rfl rfl) rfl ?_
          refine ln_gt rfl rfl rfl (pv_move rfl) rfl ?_
          refine ln_gt rfl rfl rfl (pv_neqB Tryz.underlying4 rfl rfl hz) rfl ?_
          refine ln_pv (pv_pick rfl (fun _ => rfl) (fun _ => rfl)) rfl ?_
          refine ln_cd ?_
          refine cd_ff rfl ?_
          refine cd_skip ?_
          refine at_cd ?_
          refine cd_seq ?_
          refine cd_sr ?_
          refine ln_pv (pv_move rfl) rfl ?_
          refine ln_cd ?_
          refine cd_tt rfl ?_
          refine cd_sr ?_
          refine ln_pv (pv_assign rfl) rfl ?_
          refine ln_cd ?_
          refine cd_ret ?_
          refine at_retA rfl rfl (fun w hS => ?_)
          rfl
        | false =>
          have hz := hz0 (.inr (.inr ⟨hnn, hvn⟩))
          rw [hnb] at hz
          have hval := hval0 hnb
          rw [if_neg h11, if_neg h10] at hval
          have hval : y.n = numK f.kind x.n := by unfold scP at hval; rwa [if_neg h7, if_neg (not_or.2 ⟨h8, h9⟩)] at hval
          refine cd_sr ?_
          refine ln_box rfl rfl rfl (fun b1 => ?_)
          refine ln_box rfl rfl rfl (fun b2 => ?_)
          refine ln_box rfl rfl rfl (fun b3 => ?_)
          refine ln_pv (pv_assign rfl) rfl ?_
          refine ln_cd ?_
          refine cd_sr ?_
          refine ln_pv (pv_ldO (i := 2) rfl Tryz.underlying51 rfl (tispec_Field).size rfl rfl) rfl ?_
          refine ln_pv (pv_move rfl) rfl ?_
          refine ln_pv (pv_ldO (i := 1) rfl Tryz.underlying26 rfl (tispec_Tree).size rfl rfl) rfl ?_
          refine ln_callS en_133 rfl (fun u hu => by have h := spec_null u f _ v x _ (RF.mv hf0 hu) (RT.mv hx hu); rwa [show nullB f v x = false from hnb] at h) rfl ?_
          refine ln_pv (pv_assign rfl) rfl ?_
          refine ln_cd ?_
          refine cd_sr ?_
          refine ln_pv (pv_fieldAddr (off := 3) (r := 3) Tryz.underlying51 rfl (tiint).size rfl rfl rfl) rfl ?_
          refine ln_pv (pv_ldo (i := 2) rfl Tryz.underlying3 rfl rfl rfl) rfl ?_
          refine ln_pv (pv_tt (pv_geq rfl rfl) hnn) rfl ?_
          refine ln_pv (pv_move rfl) rfl ?_
          refine ln_gt rfl rfl rfl (pv_move rfl) rfl ?_
          refine ln_gt rfl rfl rfl (pv_fieldAddr (off := 3) (r := 3) Tryz.underlying51 rfl (tiint).size rfl rfl rfl) rfl ?_
          refine ln_gt rfl rfl rfl (pv_ldo (i := 2) rfl Tryz.underlying3 rfl rfl rfl) rfl ?_
          refine ln_gt rfl rfl rfl (pv_tt (pv_geq rfl rfl) hvn) rfl ?_
          refine ln_pv (pv_pick rfl (fun _ => rfl) (fun _ => rfl)) rfl ?_
          refine ln_pv (pv_assign rfl) rfl ?_
          refine ln_cd ?_
          refine cd_seq ?_
          refine cd_sr ?_
          refine ln_pv (pv_fieldAddr (off := 0) (r := 0) Tryz.underlying51 rfl (tiint).size rfl rfl rfl) rfl ?_
          refine ln_pv (pv_ldo (i := 2) rfl Tryz.underlying3 rfl rfl rfl) rfl ?_
          refine ln_pv (pv_ff (pv_eql rfl rfl) h8) rfl ?_
          refine ln_pv (pv_move rfl) rfl ?_
          refine ln_gt rfl rfl rfl (pv_fieldAddr (off := 0) (r := 0) Tryz.underlying51 rfl (tiint).size rfl rfl rfl) rfl ?_
          refine ln_gt rfl rfl rfl (pv_ldo (i := 2) rfl Tryz.underlying3 rfl rfl rfl) rfl ?_
          refine ln_gt rfl rfl rfl (pv_ff (pv_eql rfl rfl) h10) rfl ?_
          refine ln_pv (pv_pick rfl (fun _ => rfl) (fun _ => rfl)) rfl ?_
          refine ln_pv (pv_move rfl) rfl ?_
          refine ln_gt rfl rfl rfl (pv_move rfl) rfl ?_
          refine ln_pv (pv_pick rfl (fun _ => rfl) (fun _ => rfl)) rfl ?_
          refine ln_pv (pv_move rfl) rfl ?_
          refine ln_gt rfl rfl rfl (pv_fieldAddr (off := 2) (r := 2) Tryz.underlying26 rfl (tibool).size rfl rfl rfl) rfl ?_
          refine ln_gt rfl rfl rfl (pv_ldo (i := 0) rfl Tryz.underlying4 rfl rfl rfl) rfl ?_
          refine ln_gt rfl rfl rfl (pv_move rfl) rfl ?_
          refine ln_gt rfl rfl rfl (pv_neqB Tryz.underlying4 rfl rfl hz) rfl ?_
          refine ln_pv (pv_pick rfl (fun _ => rfl) (fun _ => rfl)) rfl ?_
          refine ln_cd ?_
          refine cd_ff rfl ?_
          refine cd_skip ?_
          refine at_cd ?_
          refine cd_seq ?_
          refine cd_sr ?_
          refine ln_pv (pv_move rfl) rfl ?_
          refine ln_cd ?_
          refine cd_ff rfl ?_
          refine cd_skip ?_
          refine at_cd ?_
          refine cd_seq ?_
          refine cd_sr ?_
          refine ln_pv (pv_fieldAddr (off := 0) (r := 0) Tryz.underlying51 rfl (tiint).size rfl rfl rfl) rfl ?_
          refine ln_pv (pv_ldo (i := 2) rfl Tryz.underlying3 rfl rfl rfl) rfl ?_
          refine ln_cd ?_
          refine cd_block ?_
          refine cd_seq ?_
          refine cd_sr ?_
          refine ln_pv (pv_ff (pv_eql rfl rfl) h8) rfl ?_
          refine ln_pv (pv_assign rfl) rfl ?_
          refine ln_cd ?_
          refine cd_ff rfl ?_
          refine cd_region ?_
          refine ln_pv (pv_ff (pv_eql rfl rfl) h9) rfl ?_
          refine ln_pv (pv_assign rfl) rfl ?_
          refine ln_nil ?_
          refine at_cd ?_
          refine cd_ff rfl ?_
          refine cd_sr ?_
          refine ln_pv (pv_ff (pv_eql rfl rfl) h7) rfl ?_
          refine ln_pv (pv_assign rfl) rfl ?_
          refine ln_cd ?_
          refine cd_ff rfl ?_
          refine cd_sr ?_
          refine ln_pv (pv_ff (pv_eql rfl rfl) h10) rfl ?_
          refine ln_pv (pv_assign rfl) rfl ?_
          refine ln_cd ?_
          refine cd_ff rfl ?_
          refine cd_sr ?_
          refine ln_pv (pv_ff (pv_eql rfl rfl) h11) rfl ?_
          refine ln_pv (pv_assign rfl) rfl ?_
          refine ln_cd ?_
          refine cd_ff rfl ?_
          refine cd_skip ?_
          refine at_cd ?_
          refine cd_dr' [0, 1, 2] [0, 1, 2, 3, 4, 5, 7, 8] [0, 1, 2, 3, 4, 5, 6, 7, 8] mixed (by kernel_rfl) ?_
          refine lo_pv rfl rfl (sk_js (Tr.refl _) [0, 1, 2] rfl) (pv_fieldAddr (off := 0) (r := 0) Tryz.underlying26 rfl (tiint64).size rfl rfl rfl) rfl ?_
          refine lo_pv rfl rfl (sk_js (Tr.refl _) [0, 1, 2] rfl) (pv_ldo (i := 0) rfl Tryz.underlying2 rfl rfl rfl) rfl ?_
          refine lo_pv rfl rfl (sk_js (Tr.refl _) [0, 1, 2] rfl) (pv_fieldAddr (off := 0) (r := 0) Tryz.underlying51 rfl (tiint).size rfl rfl rfl) rfl ?_
          refine lo_pv rfl rfl (sk_js (Tr.refl _) [0, 1, 2] rfl) (pv_ldo (i := 2) rfl Tryz.underlying3 rfl rfl rfl) rfl ?_
          refine lo_pv rfl rfl (sk_js (Tr.refl _) [0, 1, 2] rfl) (pv_fieldAddr (off := 0) (r := 0) Tryz.underlying26 rfl (tiint64).size rfl rfl rfl) rfl ?_
          refine lo_pv rfl rfl (sk_js (Tr.refl _) [0, 1, 2] rfl) (pv_ldo (i := 1) rfl Tryz.underlying2 rfl rfl rfl) rfl ?_
          refine lo_eff rfl rfl ?_
          refine ln_callS en_135 rfl (fun u hu => spec_number u _ _ hn) rfl ?_
          refine lo_back (sk_js (Tr.refl _) [0, 1, 2] rfl) ?_
          refine lo_pv rfl rfl (sk_js (Tr.refl _) [0, 1, 2] rfl) (pv_tt (pv_eql rfl rfl) hval) rfl ?_
          refine lo_pv rfl rfl (sk_js (Tr.refl _) [0, 1, 2] rfl) (pv_assign rfl) rfl ?_
          refine lo_cd ?_
          refine cd_ret ?_
          refine at_retA rfl rfl (fun w hS => ?_)
          rfl
      · have hnb : nulB f.nul v x = false := nulB_neg (fun h => hvn h.2)
        have hval := hval0 hnb
        rw [if_neg h11, if_neg h10] at hval
        have hval : y.n = numK f.kind x.n := by unfold scP at hval; rwa [if_neg h7, if_neg (not_or.2 ⟨h8, h9⟩)] at hval
        refine cd_sr ?_
        refine ln_box rfl rfl rfl (fun b1 => ?_)
        refine ln_box rfl rfl rfl (fun b2 => ?_)
        refine ln_box rfl rfl rfl (fun b3 => ?_)
        refine ln_pv (pv_assign rfl) rfl ?_
        refine ln_cd ?_
        refine cd_sr ?_
        refine ln_pv (pv_ldO (i := 2) rfl Tryz.underlying51 rfl (tispec_Field).size rfl rfl) rfl ?_
        refine ln_pv (pv_move rfl) rfl ?_
        refine ln_pv (pv_ldO (i := 1) rfl Tryz.underlying26 rfl (tispec_Tree).size rfl rfl) rfl ?_
        refine ln_callS en_133 rfl (fun u hu => by have h := spec_null u f _ v x _ (RF.mv hf0 hu) (RT.mv hx hu); rwa [show nullB f v x = false from hnb] at h) rfl ?_
        refine ln_pv (pv_assign rfl) rfl ?_
        refine ln_cd ?_
        refine cd_sr ?_
        refine ln_pv (pv_fieldAddr (off := 3) (r := 3) Tryz.underlying51 rfl (tiint).size rfl rfl rfl) rfl ?_
        refine ln_pv (pv_ldo (i := 2) rfl Tryz.underlying3 rfl rfl rfl) rfl ?_
        refine ln_pv (pv_tt (pv_geq rfl rfl) hnn) rfl ?_
        refine ln_pv (pv_move rfl) rfl ?_
        refine ln_gt rfl rfl rfl (pv_move rfl) rfl ?_
        refine ln_gt rfl rfl rfl (pv_fieldAddr (off := 3) (r := 3) Tryz.underlying51 rfl (tiint).size rfl rfl rfl) rfl ?_
        refine ln_gt rfl rfl rfl (pv_ldo (i := 2) rfl Tryz.underlying3 rfl rfl rfl) rfl ?_
        refine ln_gt rfl rfl rfl (pv_ff (pv_geq rfl rfl) hvn) rfl ?_
        refine ln_pv (pv_pick rfl (fun _ => rfl) (fun _ => rfl)) rfl ?_
        refine ln_pv (pv_assign rfl) rfl ?_
        refine ln_cd ?_
        refine cd_seq ?_
        refine cd_sr ?_
        refine ln_pv (pv_fieldAddr (off := 0) (r := 0) Tryz.underlying51 rfl (tiint).size rfl rfl rfl) rfl ?_
        refine ln_pv (pv_ldo (i := 2) rfl Tryz.underlying3 rfl rfl rfl) rfl ?_
        refine ln_pv (pv_ff (pv_eql rfl rfl) h8) rfl ?_
        refine ln_pv (pv_move rfl) rfl ?_
        refine ln_gt rfl rfl rfl (pv_fieldAddr (off := 0) (r := 0) Tryz.underlying51 rfl (tiint).size rfl rfl rfl) rfl ?_
        refine ln_gt rfl rfl rfl (pv_ldo (i := 2) rfl Tryz.underlying3 rfl rfl rfl) rfl ?_
        refine ln_gt rfl rfl rfl (pv_ff (pv_eql rfl rfl) h10) rfl ?_
        refine ln_pv (pv_pick rfl (fun _ => rfl) (fun _ => rfl)) rfl ?_
        refine ln_pv (pv_move rfl) rfl ?_
        refine ln_gt rfl rfl rfl (pv_move rfl) rfl ?_
        refine ln_pv (pv_pick rfl (fun _ => rfl) (fun _ => rfl)) rfl ?_
        refine ln_pv (pv_move rfl) rfl ?_
        refine ln_gf rfl rfl rfl rfl rfl ?_
        refine ln_gf rfl rfl rfl rfl rfl ?_
        refine ln_gf rfl rfl rfl rfl rfl ?_
        refine ln_gf rfl rfl rfl rfl rfl ?_
        refine ln_pv (pv_pick rfl (fun _ => rfl) (fun _ => rfl)) rfl ?_
        refine ln_cd ?_
        refine cd_ff rfl ?_
        refine cd_skip ?_
        refine at_cd ?_
        refine cd_seq ?_
        refine cd_sr ?_
        refine ln_pv (pv_move rfl) rfl ?_
        refine ln_cd ?_
        refine cd_ff rfl ?_
        refine cd_skip ?_
        refine at_cd ?_
        refine cd_seq ?_
        refine cd_sr ?_
        refine ln_pv (pv_fieldAddr (off := 0) (r := 0) Tryz.underlying51 rfl (tiint).size rfl rfl rfl) rfl ?_
        refine ln_pv (pv_ldo (i := 2) rfl Tryz.underlying3 rfl rfl rfl) rfl ?_
        refine ln_cd ?_
        refine cd_block ?_
        refine cd_seq ?_
        refine cd_sr ?_
        refine ln_pv (pv_ff (pv_eql rfl rfl) h8) rfl ?_
        refine ln_pv (pv_assign rfl) rfl ?_
        refine ln_cd ?_
        refine cd_ff rfl ?_
        refine cd_region ?_
        refine ln_pv (pv_ff (pv_eql rfl rfl) h9) rfl ?_
        refine ln_pv (pv_assign rfl) rfl ?_
        refine ln_nil ?_
        refine at_cd ?_
        refine cd_ff rfl ?_
        refine cd_sr ?_
        refine ln_pv (pv_ff (pv_eql rfl rfl) h7) rfl ?_
        refine ln_pv (pv_assign rfl) rfl ?_
        refine ln_cd ?_
        refine cd_ff rfl ?_
        refine cd_sr ?_
        refine ln_pv (pv_ff (pv_eql rfl rfl) h10) rfl ?_
        refine ln_pv (pv_assign rfl) rfl ?_
        refine ln_cd ?_
        refine cd_ff rfl ?_
        refine cd_sr ?_
        refine ln_pv (pv_ff (pv_eql rfl rfl) h11) rfl ?_
        refine ln_pv (pv_assign rfl) rfl ?_
        refine ln_cd ?_
        refine cd_ff rfl ?_
        refine cd_skip ?_
        refine at_cd ?_
        refine cd_dr' [0, 1, 2] [0, 1, 2, 3, 4, 5, 7, 8] [0, 1, 2, 3, 4, 5, 6, 7, 8] mixed (by kernel_rfl) ?_
        refine lo_pv rfl rfl (sk_js (Tr.refl _) [0, 1, 2] rfl) (pv_fieldAddr (off := 0) (r := 0) Tryz.underlying26 rfl (tiint64).size rfl rfl rfl) rfl ?_
        refine lo_pv rfl rfl (sk_js (Tr.refl _) [0, 1, 2] rfl) (pv_ldo (i := 0) rfl Tryz.underlying2 rfl rfl rfl) rfl ?_
        refine lo_pv rfl rfl (sk_js (Tr.refl _) [0, 1, 2] rfl) (pv_fieldAddr (off := 0) (r := 0) Tryz.underlying51 rfl (tiint).size rfl rfl rfl) rfl ?_
        refine lo_pv rfl rfl (sk_js (Tr.refl _) [0, 1, 2] rfl) (pv_ldo (i := 2) rfl Tryz.underlying3 rfl rfl rfl) rfl ?_
        refine lo_pv rfl rfl (sk_js (Tr.refl _) [0, 1, 2] rfl) (pv_fieldAddr (off := 0) (r := 0) Tryz.underlying26 rfl (tiint64).size rfl rfl rfl) rfl ?_
        refine lo_pv rfl rfl (sk_js (Tr.refl _) [0, 1, 2] rfl) (pv_ldo (i := 1) rfl Tryz.underlying2 rfl rfl rfl) rfl ?_
        refine lo_eff rfl rfl ?_
        refine ln_callS en_135 rfl (fun u hu => spec_number u _ _ hn) rfl ?_
        refine lo_back (sk_js (Tr.refl _) [0, 1, 2] rfl) ?_
        refine lo_pv rfl rfl (sk_js (Tr.refl _) [0, 1, 2] rfl) (pv_tt (pv_eql rfl rfl) hval) rfl ?_
        refine lo_pv rfl rfl (sk_js (Tr.refl _) [0, 1, 2] rfl) (pv_assign rfl) rfl ?_
        refine lo_cd ?_
        refine cd_ret ?_
        refine at_retA rfl rfl (fun w hS => ?_)
        rfl
    · have hnb : nulB f.nul v x = false := nulB_neg (fun h => hnn h.1)
      have hval := hval0 hnb
      rw [if_neg h11, if_neg h10] at hval
      have hval : y.n = numK f.kind x.n := by unfold scP at hval; rwa [if_neg h7, if_neg (not_or.2 ⟨h8, h9⟩)] at hval
      refine cd_sr ?_
      refine ln_box rfl rfl rfl (fun b1 => ?_)
      refine ln_box rfl rfl rfl (fun b2 => ?_)
      refine ln_box rfl rfl rfl (fun b3 => ?_)
      refine ln_pv (pv_assign rfl) rfl ?_
      refine ln_cd ?_
      refine cd_sr ?_
      refine ln_pv (pv_ldO (i := 2) rfl Tryz.underlying51 rfl (tispec_Field).size rfl rfl) rfl ?_
      refine ln_pv (pv_move rfl) rfl ?_
      refine ln_pv (pv_ldO (i := 1) rfl Tryz.underlying26 rfl (tispec_Tree).size rfl rfl) rfl ?_
      refine ln_callS en_133 rfl (fun u hu => by have h := spec_null u f _ v x _ (RF.mv hf0 hu) (RT.mv hx hu); rwa [show nullB f v x = false from hnb] at h) rfl ?_
      refine ln_pv (pv_assign rfl) rfl ?_
      refine ln_cd ?_
      refine cd_sr ?_
      refine ln_pv (pv_fieldAddr (off := 3) (r := 3) Tryz.underlying51 rfl (tiint).size rfl rfl rfl) rfl ?_
      refine ln_pv (pv_ldo (i := 2) rfl Tryz.underlying3 rfl rfl rfl) rfl ?_
      refine ln_pv (pv_ff (pv_geq rfl rfl) hnn) rfl ?_
      refine ln_pv (pv_move rfl) rfl ?_
      refine ln_gf rfl rfl rfl rfl rfl ?_
      refine ln_gf rfl rfl rfl rfl rfl ?_
      refine ln_gf rfl rfl rfl rfl rfl ?_
      refine ln_gf rfl rfl rfl rfl rfl ?_
      refine ln_pv (pv_pick rfl (fun _ => rfl) (fun _ => rfl)) rfl ?_
      refine ln_pv (pv_assign rfl) rfl ?_
      refine ln_cd ?_
      refine cd_seq ?_
      refine cd_sr ?_
      refine ln_pv (pv_fieldAddr (off := 0) (r := 0) Tryz.underlying51 rfl (tiint).size rfl rfl rfl) rfl ?_
      refine ln_pv (pv_ldo (i := 2) rfl Tryz.underlying3 rfl rfl rfl) rfl ?_
      refine ln_pv (pv_ff (pv_eql rfl rfl) h8) rfl ?_
      refine ln_pv (pv_move rfl) rfl ?_
      refine ln_gt rfl rfl rfl (pv_fieldAddr (off := 0) (r := 0) Tryz.underlying51 rfl (tiint).size rfl rfl rfl) rfl ?_
      refine ln_gt rfl rfl rfl (pv_ldo (i := 2) rfl Tryz.underlying3 rfl rfl rfl) rfl ?_
      refine ln_gt rfl rfl rfl (pv_ff (pv_eql rfl rfl) h10) rfl ?_
      refine ln_pv (pv_pick rfl (fun _ => rfl) (fun _ => rfl)) rfl ?_
      refine ln_pv (pv_move rfl) rfl ?_
      refine ln_gt rfl rfl rfl (pv_move rfl) rfl ?_
      refine ln_pv (pv_pick rfl (fun _ => rfl) (fun _ => rfl)) rfl ?_
      refine ln_pv (pv_move rfl) rfl ?_
      refine ln_gf rfl rfl rfl rfl rfl ?_
      refine ln_gf rfl rfl rfl rfl rfl ?_
      refine ln_gf rfl rfl rfl rfl rfl ?_
      refine ln_gf rfl rfl rfl rfl rfl ?_
      refine ln_pv (pv_pick rfl (fun _ => rfl) (fun _ => rfl)) rfl ?_
      refine ln_cd ?_
      refine cd_ff rfl ?_
      refine cd_skip ?_
      refine at_cd ?_
      refine cd_seq ?_
      refine cd_sr ?_
      refine ln_pv (pv_move rfl) rfl ?_
      refine ln_cd ?_
      refine cd_ff rfl ?_
      refine cd_skip ?_
      refine at_cd ?_
      refine cd_seq ?_
      refine cd_sr ?_
      refine ln_pv (pv_fieldAddr (off := 0) (r := 0) Tryz.underlying51 rfl (tiint).size rfl rfl rfl) rfl ?_
      refine ln_pv (pv_ldo (i := 2) rfl Tryz.underlying3 rfl rfl rfl) rfl ?_
      refine ln_cd ?_
      refine cd_block ?_
      refine cd_seq ?_
      refine cd_sr ?_
      refine ln_pv (pv_ff (pv_eql rfl rfl) h8) rfl ?_
      refine ln_pv (pv_assign rfl) rfl ?_
      refine ln_cd ?_
      refine cd_ff rfl ?_
      refine cd_region ?_
      refine ln_pv (pv_ff (pv_eql rfl rfl) h9) rfl ?_
      refine ln_pv (pv_assign rfl) rfl ?_
      refine ln_nil ?_
      refine at_cd ?_
      refine cd_ff rfl ?_
      refine cd_sr ?_
      refine ln_pv (pv_ff (pv_eql rfl rfl) h7) rfl ?_
      refine ln_pv (pv_assign rfl) rfl ?_
      refine ln_cd ?_
      refine cd_ff rfl ?_
      refine cd_sr ?_
      refine ln_pv (pv_ff (pv_eql rfl rfl) h10) rfl ?_
      refine ln_pv (pv_assign rfl) rfl ?_
      refine ln_cd ?_
      refine cd_ff rfl ?_
      refine cd_sr ?_
      refine ln_pv (pv_ff (pv_eql rfl rfl) h11) rfl ?_
      refine ln_pv (pv_assign rfl) rfl ?_
      refine ln_cd ?_
      refine cd_ff rfl ?_
      refine cd_skip ?_
      refine at_cd ?_
      refine cd_dr' [0, 1, 2] [0, 1, 2, 3, 4, 5, 7, 8] [0, 1, 2, 3, 4, 5, 6, 7, 8] mixed (by kernel_rfl) ?_
      refine lo_pv rfl rfl (sk_js (Tr.refl _) [0, 1, 2] rfl) (pv_fieldAddr (off := 0) (r := 0) Tryz.underlying26 rfl (tiint64).size rfl rfl rfl) rfl ?_
      refine lo_pv rfl rfl (sk_js (Tr.refl _) [0, 1, 2] rfl) (pv_ldo (i := 0) rfl Tryz.underlying2 rfl rfl rfl) rfl ?_
      refine lo_pv rfl rfl (sk_js (Tr.refl _) [0, 1, 2] rfl) (pv_fieldAddr (off := 0) (r := 0) Tryz.underlying51 rfl (tiint).size rfl rfl rfl) rfl ?_
      refine lo_pv rfl rfl (sk_js (Tr.refl _) [0, 1, 2] rfl) (pv_ldo (i := 2) rfl Tryz.underlying3 rfl rfl rfl) rfl ?_
      refine lo_pv rfl rfl (sk_js (Tr.refl _) [0, 1, 2] rfl) (pv_fieldAddr (off := 0) (r := 0) Tryz.underlying26 rfl (tiint64).size rfl rfl rfl) rfl ?_
      refine lo_pv rfl rfl (sk_js (Tr.refl _) [0, 1, 2] rfl) (pv_ldo (i := 1) rfl Tryz.underlying2 rfl rfl rfl) rfl ?_
      refine lo_eff rfl rfl ?_
      refine ln_callS en_135 rfl (fun u hu => spec_number u _ _ hn) rfl ?_
      refine lo_back (sk_js (Tr.refl _) [0, 1, 2] rfl) ?_
      refine lo_pv rfl rfl (sk_js (Tr.refl _) [0, 1, 2] rfl) (pv_tt (pv_eql rfl rfl) hval) rfl ?_
      refine lo_pv rfl rfl (sk_js (Tr.refl _) [0, 1, 2] rfl) (pv_assign rfl) rfl ?_
      refine lo_cd ?_
      refine cd_ret ?_
      refine at_retA rfl rfl (fun w hS => ?_)
      rfl
set_option maxHeartbeats 4000000 in
theorem spec_told2 (f : Fld) (hk11 : f.kind = 11) (hno : ¬ f.of_ = 11) (hone : ∀ g : Fld, ¬ g.kind = 11 → g.sub = f.sub → ToldF g) : ToldF f := by
  intro t fc cs gs v q x y hf hx hsm hy hsy hto
  have hf0 := hf
  obtain ⟨sv, rfl, lf, hVf, hFf⟩ := hf.open
  obtain ⟨adf, cf, rfl, hlef⟩ := hVf.shape
  obtain ⟨sS, sL, sU, rfl, hn, hS, ⟨lc, hL, hLs⟩, hU⟩ := hx.open
  obtain ⟨adS, cS, rfl, hleS⟩ := hS.shape
  obtain ⟨adL, cL, rfl, hleL⟩ := hL.shape
  have hU0 := hU
  obtain ⟨uc, hU1, hUs⟩ := hU0
  obtain ⟨hz1, hz2, hz3, hz4⟩ := hsm.open
  obtain ⟨adU, cU, rfl, hleU⟩ := hU1.shape
  obtain ⟨gS, gL, gU, rfl, hgn, hgS, ⟨glc, hgL, hgLs⟩, hgU⟩ := hy.open
  obtain ⟨agS, cgS, rfl, hgleS⟩ := hgS.shape
  obtain ⟨agL, cgL, rfl, hgleL⟩ := hgL.shape
  obtain ⟨guc, hgU1, hgUs⟩ := hgU
  obtain ⟨agU, cgU, rfl, hgleU⟩ := hgU1.shape
  obtain ⟨hw1, hw2, hw3, hw4⟩ := hsy.open
  rw [toP_eq] at hto
  obtain ⟨hz0, hval0⟩ := hto
  refine CA.cs ?_
  refine ca_enter Tryz.func60 rfl Tryz.ntmps60 rfl ?_
  rcases kcase f.kind with h8 | ⟨h8, h7⟩ | ⟨h8, h7, h9⟩ | ⟨h8, h7, h9, h11⟩ | ⟨h8, h7, h9, h11, h10⟩ | ⟨h8, h7, h9, h11, h10⟩
  · exact absurd hk11 (by omega)
  · exact absurd hk11 (by omega)
  · exact absurd hk11 (by omega)
  · skip
    have h10 : ¬ f.kind = 10 := by omega
    by_cases hnn : f.nul ≥ 0
    · by_cases hvn : v ≥ f.nul
      · cases hnb : nulB f.nul v x with
        | true =>
          have hz := hz0 (.inr (.inr ⟨hnn, hvn⟩))
          rw [hnb] at hz
          refine cd_sr ?_
          refine ln_box rfl rfl rfl (fun b1 => ?_)
          refine ln_box rfl rfl rfl (fun b2 => ?_)
          refine ln_box rfl rfl rfl (fun b3 => ?_)
          refine ln_pv (pv_assign rfl) rfl ?_
          refine ln_cd ?_
          refine cd_sr ?_
          refine ln_pv (pv_ldO (i := 2) rfl Tryz.underlying51 rfl (tispec_Field).size rfl rfl) rfl ?_
          refine ln_pv (pv_move rfl) rfl ?_
          refine ln_pv (pv_ldO (i := 1) rfl Tryz.underlying26 rfl (tispec_Tree).size rfl rfl) rfl ?_
          refine ln_callS en_133 rfl (fun u hu => by have h := spec_null u f _ v x _ (RF.mv hf0 hu) (RT.mv hx hu); rwa [show nullB f v x = true from hnb] at h) rfl ?_
          refine ln_pv (pv_assign rfl) rfl ?_
          refine ln_cd ?_
          refine cd_sr ?_
          refine ln_pv (pv_fieldAddr (off := 3) (r := 3) Tryz.underlying51 rfl (tiint).size rfl rfl rfl) rfl ?_
          refine ln_pv (pv_ldo (i := 2) rfl Tryz.underlying3 rfl rfl rfl) rfl ?_
          refine ln_pv (pv_tt (pv_geq rfl rfl) hnn) rfl ?_
          refine ln_pv (pv_move rfl) rfl ?_
          refine ln_gt rfl rfl rfl (pv_move rfl) rfl ?_
          refine ln_gt rfl rfl rfl (pv_fieldAddr (off := 3) (r := 3) Tryz.underlying51 rfl (tiint).size rfl rfl rfl) rfl ?_
          refine ln_gt rfl rfl rfl (pv_ldo (i := 2) rfl Tryz.underlying3 rfl rfl rfl) rfl ?_
          refine ln_gt rfl rfl rfl (pv_tt (pv_geq rfl rfl) hvn) rfl ?_
          refine ln_pv (pv_pick rfl (fun _ => rfl) (fun _ => rfl)) rfl ?_
          refine ln_pv (pv_assign rfl) rfl ?_
          refine ln_cd ?_
          refine cd_seq ?_
          refine cd_sr ?_
          refine ln_pv (pv_fieldAddr (off := 0) (r := 0) Tryz.underlying51 rfl (tiint).size rfl rfl rfl) rfl ?_
          refine ln_pv (pv_ldo (i := 2) rfl Tryz.underlying3 rfl rfl rfl) rfl ?_
          refine ln_pv (pv_ff (pv_eql rfl rfl) h8) rfl ?_
          refine ln_pv (pv_move rfl) rfl ?_
          refine ln_gt rfl rfl rfl (pv_fieldAddr (off := 0) (r := 0) Tryz.underlying51 rfl (tiint).size rfl rfl rfl) rfl ?_
          refine ln_gt rfl rfl rfl (pv_ldo (i := 2) rfl Tryz.underlying3 rfl rfl rfl) rfl ?_
          refine ln_gt rfl rfl rfl (pv_ff (pv_eql rfl rfl) h10) rfl ?_
          refine ln_pv (pv_pick rfl (fun _ => rfl) (fun _ => rfl)) rfl ?_
          refine ln_pv (pv_move rfl) rfl ?_
          refine ln_gt rfl rfl rfl (pv_move rfl) rfl ?_
          refine ln_pv (pv_pick rfl (fun _ => rfl) (fun _ => rfl)) rfl ?_
          refine ln_pv (pv_move rfl) rfl ?_
          refine ln_gt rfl rfl rfl (pv_fieldAddr (off := 2) (r := 2) Tryz.underlying26 rfl (tibool).size rfl rfl rfl) rfl ?_
          refine ln_gt rfl rfl rfl (pv_ldo (i := 0) rfl Tryz.underlying4 rfl rfl rfl) rfl ?_
          refine ln_gt rfl rfl rfl (pv_move rfl) rfl ?_
          refine ln_gt rfl rfl rfl (pv_neqB Tryz.underlying4 rfl rfl hz) rfl ?_
          refine ln_pv (pv_pick rfl (fun _ => rfl) (fun _ => rfl)) rfl ?_
          refine ln_cd ?_
          refine cd_ff rfl ?_
          refine cd_skip ?_
          refine at_cd ?_
          refine cd_seq ?_
          refine cd_sr ?_
          refine ln_pv (pv_move rfl) rfl ?_
          refine ln_cd ?_
          refine cd_tt rfl ?_
          refine cd_sr ?_
          refine ln_pv (pv_assign rfl) rfl ?_
          refine ln_cd ?_
          refine cd_ret ?_
          refine at_retA rfl rfl (fun w hS => ?_)
          rfl
        | false =>
          have hz := hz0 (.inr (.inr ⟨hnn, hvn⟩))
          rw [hnb] at hz
          have hval := hval0 hnb
          rw [if_pos h11] at hval
          refine cd_sr ?_
          refine ln_box rfl rfl rfl (fun b1 => ?_)
          refine ln_box rfl rfl rfl (fun b2 => ?_)
          refine ln_box rfl rfl rfl (fun b3 => ?_)
          refine ln_pv (pv_assign rfl) rfl ?_
          refine ln_cd ?_
          refine cd_sr ?_
          refine ln_pv (pv_ldO (i := 2) rfl Tryz.underlying51 rfl (tispec_Field).size rfl rfl) rfl ?_
          refine ln_pv (pv_move rfl) rfl ?_
          refine ln_pv (pv_ldO (i := 1) rfl Tryz.underlying26 rfl (tispec_Tree).size rfl rfl) rfl ?_
          refine ln_callS en_133 rfl (fun u hu => by have h := spec_null u f _ v x _ (RF.mv hf0 hu) (RT.mv hx hu); rwa [show nullB f v x = false from hnb] at h) rfl ?_
          refine ln_pv (pv_assign rfl) rfl ?_
          refine ln_cd ?_
          refine cd_sr ?_
          refine ln_pv (pv_fieldAddr (off := 3) (r := 3) Tryz.underlying51 rfl (tiint).size rfl rfl rfl) rfl ?_
          refine ln_pv (pv_ldo (i := 2) rfl Tryz.underlying3 rfl rfl rfl) rfl ?_
          refine ln_pv (pv_tt (pv_geq rfl rfl) hnn) rfl ?_
          refine ln_pv (pv_move rfl) rfl ?_
          refine ln_gt rfl rfl rfl (pv_move rfl) rfl ?_
          refine ln_gt rfl rfl rfl (pv_fieldAddr (off := 3) (r := 3) Tryz.underlying51 rfl (tiint).size rfl rfl rfl) rfl ?_
          refine ln_gt rfl rfl rfl (pv_ldo (i := 2) rfl Tryz.underlying3 rfl rfl rfl) rfl ?_
          refine ln_gt rfl rfl rfl (pv_tt (pv_geq rfl rfl) hvn) rfl ?_
          refine ln_pv (pv_pick rfl (fun _ => rfl) (fun _ => rfl)) rfl ?_
          refine ln_pv (pv_assign rfl) rfl ?_
          refine ln_cd ?_
          refine cd_seq ?_
          refine cd_sr ?_
          refine ln_pv (pv_fieldAddr (off := 0) (r := 0) Tryz.underlying51 rfl (tiint).size rfl rfl rfl) rfl ?_
          refine ln_pv (pv_ldo (i := 2) rfl Tryz.underlying3 rfl rfl rfl) rfl ?_
          refine ln_pv (pv_ff (pv_eql rfl rfl) h8) rfl ?_
          refine ln_pv (pv_move rfl) rfl ?_
          refine ln_gt rfl rfl rfl (pv_fieldAddr (off := 0) (r := 0) Tryz.underlying51 rfl (tiint).size rfl rfl rfl) rfl ?_
          refine ln_gt rfl rfl rfl (pv_ldo (i := 2) rfl Tryz.underlying3 rfl rfl rfl) rfl ?_
          refine ln_gt rfl rfl rfl (pv_ff (pv_eql rfl rfl) h10) rfl ?_
          refine ln_pv (pv_pick rfl (fun _ => rfl) (fun _ => rfl)) rfl ?_
          refine ln_pv (pv_move rfl) rfl ?_
          refine ln_gt rfl rfl rfl (pv_move rfl) rfl ?_
          refine ln_pv (pv_pick rfl (fun _ => rfl) (fun _ => rfl)) rfl ?_
          refine ln_pv (pv_move rfl) rfl ?_
          refine ln_gt rfl rfl rfl (pv_fieldAddr (off := 2) (r := 2) Tryz.underlying26 rfl (tibool).size rfl rfl rfl) rfl ?_
          refine ln_gt rfl rfl rfl (pv_ldo (i := 0) rfl Tryz.underlying4 rfl rfl rfl) rfl ?_
          refine ln_gt rfl rfl rfl (pv_move rfl) rfl ?_
          refine ln_gt rfl rfl rfl (pv_neqB Tryz.underlying4 rfl rfl hz) rfl ?_
          refine ln_pv (pv_pick rfl (fun _ => rfl) (fun _ => rfl)) rfl ?_
          refine ln_cd ?_
          refine cd_ff rfl ?_
          refine cd_skip ?_
          refine at_cd ?_
          refine cd_seq ?_
          refine cd_sr ?_
          refine ln_pv (pv_move rfl) rfl ?_
          refine ln_cd ?_
          refine cd_ff rfl ?_
          refine cd_skip ?_
          refine at_cd ?_
          refine cd_seq ?_
          refine cd_sr ?_
          refine ln_pv (pv_fieldAddr (off := 0) (r := 0) Tryz.underlying51 rfl (tiint).size rfl rfl rfl) rfl ?_
          refine ln_pv (pv_ldo (i := 2) rfl Tryz.underlying3 rfl rfl rfl) rfl ?_
          refine ln_cd ?_
          refine cd_block ?_
          refine cd_seq ?_
          refine cd_sr ?_
          refine ln_pv (pv_ff (pv_eql rfl rfl) h8) rfl ?_
          refine ln_pv (pv_assign rfl) rfl ?_
          refine ln_cd ?_
          refine cd_ff rfl ?_
          refine cd_region ?_
          refine ln_pv (pv_ff (pv_eql rfl rfl) h9) rfl ?_
          refine ln_pv (pv_assign rfl) rfl ?_
          refine ln_nil ?_
          refine at_cd ?_
          refine cd_ff rfl ?_
          refine cd_sr ?_
          refine ln_pv (pv_ff (pv_eql rfl rfl) h7) rfl ?_
          refine ln_pv (pv_assign rfl) rfl ?_
          refine ln_cd ?_
          refine cd_ff rfl ?_
          refine cd_sr ?_
          refine ln_pv (pv_ff (pv_eql rfl rfl) h10) rfl ?_
          refine ln_pv (pv_assign rfl) rfl ?_
          refine ln_cd ?_
          refine cd_ff rfl ?_
          refine cd_sr ?_
          refine ln_pv (pv_tt (pv_eql rfl rfl) h11) rfl ?_
          refine ln_pv (pv_assign rfl) rfl ?_
          refine ln_cd ?_
          refine cd_tt rfl ?_
          refine cd_sr ?_
          refine ln_pv (pv_fieldAddr (off := 3) (r := 3) Tryz.underlying26 rfl (tiSl_spec_Tree).size rfl rfl rfl) rfl ?_
          refine ln_pv (pv_ldo (i := 1) rfl Tryz.underlying23 rfl rfl rfl) rfl ?_
          refine ln_callA en_134 rfl (fun u hu => spec_things u _ x.l lc (RS.mv hL hu) (RTs.mv hLs hu)) rfl (fun u1 v1 ht1 hR1 => ?_)
          have hf0 := hf0.mv ht1
          have hVf := hVf.mv ht1
          have hFf := hFf.mv ht1
          have hx := hx.mv ht1
          have hS := hS.mv ht1
          have hL := hL.mv ht1
          have hLs := hLs.mv ht1
          have hy := hy.mv ht1
          have hgS := hgS.mv ht1
          have hgL := hgL.mv ht1
          have hgLs := hgLs.mv ht1
          obtain ⟨lq, hQ, hQs⟩ := hR1
          obtain ⟨adq, cq, rfl, hleq⟩ := hQ.shape
          refine ln_pv (pv_assign rfl) rfl ?_
          refine ln_cd ?_
          refine cd_seq ?_
          refine cd_sr ?_
          refine ln_pv (pv_fieldAddr (off := 3) (r := 3) Tryz.underlying26 rfl (tiSl_spec_Tree).size rfl rfl rfl) rfl ?_
          refine ln_pv (pv_ldo (i := 0) rfl Tryz.underlying23 rfl rfl rfl) rfl ?_
          refine ln_pv (pv_len_slice Tryz.underlying23 rfl) rfl ?_
          refine ln_pv (pv_move rfl) rfl ?_
          refine ln_pv (pv_len_slice Tryz.underlying23 rfl) rfl ?_
          refine ln_pv (pv_ff (pv_neq rfl rfl) (fun q => q (by rw [hval.1]))) rfl ?_
          refine ln_cd ?_
          refine cd_ff rfl ?_
          refine cd_skip ?_
          refine at_cd ?_
          refine cd_sr ?_
          refine ln_pv (pv_ldO (i := 2) rfl Tryz.underlying51 rfl (tispec_Field).size rfl rfl) rfl ?_
          refine ln_alloc tispec_Field rfl rfl (fun b4 => ?_)
          refine ln_storeW (i := 0) rfl rfl rfl rfl (tispec_Field).size rfl (by simp [(RS.one hVf)]) ?_
          refine ln_cd ?_
          refine cd_sr ?_
          refine ln_pv (pv_fieldAddr (off := 6) (r := 6) Tryz.underlying51 rfl (tiint).size rfl rfl rfl) rfl ?_
          refine ln_pv (pv_ldo (i := 3) rfl Tryz.underlying3 rfl rfl rfl) rfl ?_
          refine ln_pv (pv_fieldAddr (off := 0) (r := 0) Tryz.underlying51 rfl (tiint).size rfl rfl rfl) rfl ?_
          refine ln_store1 (i := 0) rfl rfl rfl rfl (tiint).size rfl ?_
          refine ln_pv (pv_fieldAddr (off := 3) (r := 3) Tryz.underlying51 rfl (tiint).size rfl rfl rfl) rfl ?_
          refine ln_store1 (i := 0) rfl rfl rfl rfl (tiint).size rfl ?_
          refine ln_pv (pv_fieldAddr (off := 4) (r := 4) Tryz.underlying51 rfl (tiint).size rfl rfl rfl) rfl ?_
          refine ln_store1 (i := 0) rfl rfl rfl rfl (tiint).size rfl ?_
          refine ln_cd ?_
          refine cd_seq ?_
          refine cd_sr ?_
          refine ln_pv (pv_move rfl) rfl ?_
          refine ln_pv (pv_len_slice Tryz.underlying23 rfl) rfl ?_
          refine ln_pv (pv_move rfl) rfl ?_
          refine ln_cd ?_
          refine cd_block ?_
          refine cd_loop (⟨fun (z : Nat) => [(1, .int .i64 v), (2, .bool q), (9, .pointer (some ⟨b3, 0, none⟩)), (14, .slice adq (x.l.take 32767).length cq), (15, .pointer (some ⟨b4, 0, none⟩)), (97, .int .i64 ((x.l.take 32767).length : Int)), (98, .int .i64 ((z : Nat) : Int))], fun (z : Nat) => [.obj b4 (.cells [.int .i64 f.of_, .int .i64 f.frm, .int .i64 f.to, .int .i64 (-1), .int .i64 (-1), .int .i64 f.dflt, .int .i64 f.of_, .slice adf f.sub.length cf].toArray 51), .obj b3 (.cells [.int .i64 y.n, .slice agS y.s.length cgS, .bool y.z, .slice agL y.l.length cgL, .slice agU y.u.length cgU].toArray 26)], fun (z : Nat) s => z ≤ (x.l.take 32767).length, fun (z : Nat) => (x.l.take 32767).length - z⟩ : Lp (Nat)) 0 ?_ ?_ ?_ ?_
          · intro s0 hs0
            exact Nat.zero_le _
          · exact ⟨rfl, rfl, rfl, rfl, rfl, rfl, rfl,  trivial⟩
          · exact (.cons_cons _ (.cons_cons _ (.cons _ (.cons _ .slnil))))
          intro i s1 hl1 hI
          dsimp only at hI ⊢
          have hf0 := hf0.mv hl1
          have hVf := hVf.mv hl1
          have hFf := hFf.mv hl1
          have hx := hx.mv hl1
          have hS := hS.mv hl1
          have hL := hL.mv hl1
          have hLs := hLs.mv hl1
          have hy := hy.mv hl1
          have hgS := hgS.mv hl1
          have hgL := hgL.mv hl1
          have hgLs := hgLs.mv hl1
          have hQ := hQ.mv hl1
          have hQs := hQs.mv hl1
          refine cd_sr ?_
          refine ln_pv (pv_lss rfl rfl) rfl ?_
          refine ln_cd ?_
          refine cd_seq ?_
          refine cd_if rfl (fun hc9 => ?_) (fun hc9 => ?_)
          · -- yes
            refine cd_skip ?_
            refine at_cd ?_
            refine cd_seq ?_
            refine cd_block ?_
            refine cd_sr ?_
            refine ln_pv (pv_move rfl) rfl ?_
            refine ln_pv (pv_assign rfl) rfl ?_
            refine ln_cd ?_
            have hi : i < (x.l.take 32767).length := by omega
            have hig : i < y.l.length := by omega
            have hix : i < x.l.length := by rw [List.length_take] at hi; omega
            obtain ⟨b0, o0, rfl, hrc⟩ := hQ.pos (by omega) (by decide)
            obtain ⟨c1, c2, c3, he, hk, hr⟩ := RTs.at_ hi hQs
            have hsub := hrc.sub (i * 5) he hk
            obtain ⟨b5, o5, rfl, hrcg⟩ := hgL.pos (by omega) (by decide)
            obtain ⟨d1, d2, d3, heg, hkg, hrg⟩ := RTs.at_ hig hgLs
            have hsubg := hrcg.sub (i * 5) heg hkg
            have hel := hval.2 i hig
            rw [show x.at_ i = (x.l.take 32767)[i] by simp [Tre.at_, hix], show y.at_ i = y.l[i] by simp [Tre.at_, hig]] at hel
            refine cd_dr' [0, 1] [0, 1, 2, 3, 4, 5, 6, 7, 8, 9, 10, 11, 13] [0, 1, 2, 3, 4, 5, 6, 7, 8, 9, 10, 11, 12, 13] mixed (by kernel_rfl) ?_
            refine lo_pv rfl rfl (sk_js (Tr.refl _) [0, 1] rfl) (pv_ldO (i := 0) rfl Tryz.underlying51 rfl (tispec_Field).size rfl rfl) rfl ?_
            refine lo_pv rfl rfl (sk_js (Tr.refl _) [0, 1] rfl) (pv_move rfl) rfl ?_
            refine lo_pv rfl rfl (sk_js (Tr.refl _) [0, 1] rfl) (pv_move rfl) rfl ?_
            refine lo_pv rfl rfl (sk_js (Tr.refl _) [0, 1] rfl) (pv_move rfl) rfl ?_
            refine lo_pv rfl rfl (sk_js (Tr.refl _) [0, 1] rfl) (pv_move rfl) rfl ?_
            refine lo_pv rfl rfl (sk_js (Tr.refl _) [0, 1] rfl) (pv_ixN Tryz.underlying23 tispec_Tree.size rfl rfl hi) rfl ?_
            refine lo_pv rfl rfl (sk_js (Tr.refl _) [0, 1] rfl) (pv_ldR hsub Tryz.underlying26 rfl tispec_Tree.size rfl hr.len) rfl ?_
            refine lo_pv rfl rfl (sk_js (Tr.refl _) [0, 1] rfl) (pv_fieldAddr (off := 3) (r := 3) Tryz.underlying26 rfl (tiSl_spec_Tree).size rfl rfl rfl) rfl ?_
            refine lo_pv rfl rfl (sk_js (Tr.refl _) [0, 1] rfl) (pv_ldo (i := 1) rfl Tryz.underlying23 rfl rfl rfl) rfl ?_
            refine lo_pv rfl rfl (sk_js (Tr.refl _) [0, 1] rfl) (pv_move rfl) rfl ?_
            refine lo_pv rfl rfl (sk_js (Tr.refl _) [0, 1] rfl) (pv_ixN Tryz.underlying23 tispec_Tree.size rfl rfl hig) rfl ?_
            refine lo_pv rfl rfl (sk_js (Tr.refl _) [0, 1] rfl) (pv_ldR hsubg Tryz.underlying26 rfl tispec_Tree.size rfl hrg.len) rfl ?_
            refine lo_eff rfl rfl ?_
            refine ln_callS en_60 rfl (fun u hu => hone (.mk f.of_ f.frm f.to (-1) (-1) f.dflt f.of_ f.sub) hno rfl u _ _ _ v q _ _ (RF_mk (RS.mv hVf hu) (RFs.mv hFf hu)) (RT.mv hr hu) (smTs.take hz4 _ _ hi) (RT.mv hrg hu) (smTs.mem hw4 _ (List.getElem_mem hig)) (toP_one hno hel)) rfl ?_
            refine lo_back (sk_js (Tr.refl _) [0, 1] rfl) ?_
            refine lo_pv rfl rfl (sk_js (Tr.refl _) [0, 1] rfl) (pv_not rfl) rfl ?_
            refine lo_cd ?_
            refine cd_ff rfl ?_
            refine cd_skip ?_
            refine at_cd ?_
            refine cd_region ?_
            refine ln_pv (pv_add' rfl rfl (wrap_succ (by omega))) rfl ?_
            refine ln_pv (pv_move rfl) rfl ?_
            refine ln_nil ?_
            refine at_rnd (i + 1) hl1 ?_ ?_ ⟨rfl, rfl, rfl, rfl, rfl, rfl, rfl,  trivial⟩ (.cons_cons _ (.cons_cons _ .slnil))
            · intro s9 hs9
              show i + 1 ≤ _
              omega
            · dsimp only; omega
          · -- no
            refine cd_exit rfl ?_
            refine at_cd ?_
            refine cd_sr ?_
            refine ln_pv (pv_assign rfl) rfl ?_
            refine ln_cd ?_
            refine cd_ret ?_
            refine at_retA rfl rfl (fun w hS => ?_)
            rfl
      · have hnb : nulB f.nul v x = false := nulB_neg (fun h => hvn h.2)
        have hval := hval0 hnb
        rw [if_pos h11] at hval
        refine cd_sr ?_
        refine ln_box rfl rfl rfl (fun b1 => ?_)
        refine ln_box rfl rfl rfl (fun b2 => ?_)
        refine ln_box rfl rfl rfl (fun b3 => ?_)
        refine ln_pv (pv_assign rfl) rfl ?_
        refine ln_cd ?_
        refine cd_sr ?_
        refine ln_pv (pv_ldO (i := 2) rfl Tryz.underlying51 rfl (tispec_Field).size rfl rfl) rfl ?_
        refine ln_pv (pv_move rfl) rfl ?_
        refine ln_pv (pv_ldO (i := 1) rfl Tryz.underlying26 rfl (tispec_Tree).size rfl rfl) rfl ?_
        refine ln_callS en_133 rfl (fun u hu => by have h := spec_null u f _ v x _ (RF.mv hf0 hu) (RT.mv hx hu); rwa [show nullB f v x = false from hnb] at h) rfl ?_
        refine ln_pv (pv_assign rfl) rfl ?_
        refine ln_cd ?_
        refine cd_sr ?_
        refine ln_pv (pv_fieldAddr (off := 3) (r := 3) Tryz.underlying51 rfl (tiint).size rfl rfl rfl) rfl ?_
        refine ln_pv (pv_ldo (i := 2) rfl Tryz.underlying3 rfl rfl rfl) rfl ?_
        refine ln_pv (pv_tt (pv_geq rfl rfl) hnn) rfl ?_
        refine ln_pv (pv_move rfl) rfl ?_
        refine ln_gt rfl rfl rfl (pv_move rfl) rfl ?_
        refine ln_gt rfl rfl rfl (pv_fieldAddr (off := 3) (r := 3) Tryz.underlying51 rfl (tiint).size rfl rfl rfl) rfl ?_
        refine ln_gt rfl rfl rfl (pv_ldo (i := 2) rfl Tryz.underlying3 rfl rfl rfl) rfl ?_
        refine ln_gt rfl rfl rfl (pv_ff (pv_geq rfl rfl) hvn) rfl ?_
        refine ln_pv (pv_pick rfl (fun _ => rfl) (fun _ => rfl)) rfl ?_
        refine ln_pv (pv_assign rfl) rfl ?_
        refine ln_cd ?_
        refine cd_seq ?_
        refine cd_sr ?_
        refine ln_pv (pv_fieldAddr (off := 0) (r := 0) Tryz.underlying51 rfl (tiint).size rfl rfl rfl) rfl ?_
        refine ln_pv (pv_ldo (i := 2) rfl Tryz.underlying3 rfl rfl rfl) rfl ?_
        refine ln_pv (pv_ff (pv_eql rfl rfl) h8) rfl ?_
        refine ln_pv (pv_move rfl) rfl ?_
        refine ln_gt rfl rfl rfl (pv_fieldAddr (off := 0) (r := 0) Tryz.underlying51 rfl (tiint).size rfl rfl rfl) rfl ?_
        refine ln_gt rfl rfl rfl (pv_ldo (i := 2) rfl Tryz.underlying3 rfl rfl rfl) rfl ?_
        refine ln_gt rfl rfl rfl (pv_ff (pv_eql rfl rfl) h10) rfl ?_
        refine ln_pv (pv_pick rfl (fun _ => rfl) (fun _ => rfl)) rfl ?_
        refine ln_pv (pv_move rfl) rfl ?_
        refine ln_gt rfl rfl rfl (pv_move rfl) rfl ?_
        refine ln_pv (pv_pick rfl (fun _ => rfl) (fun _ => rfl)) rfl ?_
        refine ln_pv (pv_move rfl) rfl ?_
        refine ln_gf rfl rfl rfl rfl rfl ?_
        refine ln_gf rfl rfl rfl rfl rfl ?_
        refine ln_gf rfl rfl rfl rfl rfl ?_
        refine ln_gf rfl rfl rfl rfl rfl ?_
        refine ln_pv (pv_pick rfl (fun _ => rfl) (fun _ => rfl)) rfl ?_
        refine ln_cd ?_
        refine cd_ff rfl ?_
        refine cd_skip ?_
        refine at_cd ?_
        refine cd_seq ?_
        refine cd_sr ?_
        refine ln_pv (pv_move rfl) rfl ?_
        refine ln_cd ?_
        refine cd_ff rfl ?_
        refine cd_skip ?_
        refine at_cd ?_
        refine cd_seq ?_
        refine cd_sr ?_
        refine ln_pv (pv_fieldAddr (off := 0) (r := 0) Tryz.underlying51 rfl (tiint).size rfl rfl rfl) rfl ?_
        refine ln_pv (pv_ldo (i := 2) rfl Tryz.underlying3 rfl rfl rfl) rfl ?_
        refine ln_cd ?_
        refine cd_block ?_
        refine cd_seq ?_
        refine cd_sr ?_
        refine ln_pv (pv_ff (pv_eql rfl rfl) h8) rfl ?_
        refine ln_pv (pv_assign rfl) rfl ?_
        refine ln_cd ?_
        refine cd_ff rfl ?_
        refine cd_region ?_
        refine ln_pv (pv_ff (pv_eql rfl rfl) h9) rfl ?_
        refine ln_pv (pv_assign rfl) rfl ?_
        refine ln_nil ?_
        refine at_cd ?_
        refine cd_ff rfl ?_
        refine cd_sr ?_
        refine ln_pv (pv_ff (pv_eql rfl rfl) h7) rfl ?_
        refine ln_pv (pv_assign rfl) rfl ?_
        refine ln_cd ?_
        refine cd_ff rfl ?_
        refine cd_sr ?_
        refine ln_pv (pv_ff (pv_eql rfl rfl) h10) rfl ?_
        refine ln_pv (pv_assign rfl) rfl ?_
        refine ln_cd ?_
        refine cd_ff rfl ?_
        refine cd_sr ?_
        refine ln_pv (pv_tt (pv_eql rfl rfl) h11) rfl ?_
        refine ln_pv (pv_assign rfl) rfl ?_
        refine ln_cd ?_
        refine cd_tt rfl ?_
        refine cd_sr ?_
        refine ln_pv (pv_fieldAddr (off := 3) (r := 3) Tryz.underlying26 rfl (tiSl_spec_Tree).size rfl rfl rfl) rfl ?_
        refine ln_pv (pv_ldo (i := 1) rfl Tryz.underlying23 rfl rfl rfl) rfl ?_
        refine ln_callA en_134 rfl (fun u hu => spec_things u _ x.l lc (RS.mv hL hu) (RTs.mv hLs hu)) rfl (fun u1 v1 ht1 hR1 => ?_)
        have hf0 := hf0.mv ht1
        have hVf := hVf.mv ht1
        have hFf := hFf.mv ht1
        have hx := hx.mv ht1
        have hS := hS.mv ht1
        have hL := hL.mv ht1
        have hLs := hLs.mv ht1
        have hy := hy.mv ht1
        have hgS := hgS.mv ht1
        have hgL := hgL.mv ht1
        have hgLs := hgLs.mv ht1
        obtain ⟨lq, hQ, hQs⟩ := hR1
        obtain ⟨adq, cq, rfl, hleq⟩ := hQ.shape
        refine ln_pv (pv_assign rfl) rfl ?_
        refine ln_cd ?_
        refine cd_seq ?_
        refine cd_sr ?_
        refine ln_pv (pv_fieldAddr (off := 3) (r := 3) Tryz.underlying26 rfl (tiSl_spec_Tree).size rfl rfl rfl) rfl ?_
        refine ln_pv (pv_ldo (i := 0) rfl Tryz.underlying23 rfl rfl rfl) rfl ?_
        refine ln_pv (pv_len_slice Tryz.underlying23 rfl) rfl ?_
        refine ln_pv (pv_move rfl) rfl ?_
        refine ln_pv (pv_len_slice Tryz.underlying23 rfl) rfl ?_
        refine ln_pv (pv_ff (pv_neq rfl rfl) (fun q => q (by rw [hval.1]))) rfl ?_
        refine ln_cd ?_
        refine cd_ff rfl ?_
        refine cd_skip ?_
        refine at_cd ?_
        refine cd_sr ?_
        refine ln_pv (pv_ldO (i := 2) rfl Tryz.underlying51 rfl (tispec_Field).size rfl rfl) rfl ?_
        refine ln_alloc tispec_Field rfl rfl (fun b4 => ?_)
        refine ln_storeW (i := 0) rfl rfl rfl rfl (tispec_Field).size rfl (by simp [(RS.one hVf)]) ?_
        refine ln_cd ?_
        refine cd_sr ?_
        refine ln_pv (pv_fieldAddr (off := 6) (r := 6) Tryz.underlying51 rfl (tiint).size rfl rfl rfl) rfl ?_
        refine ln_pv (pv_ldo (i := 3) rfl Tryz.underlying3 rfl rfl rfl) rfl ?_
        refine ln_pv (pv_fieldAddr (off := 0) (r := 0) Tryz.underlying51 rfl (tiint).size rfl rfl rfl) rfl ?_
        refine ln_store1 (i := 0) rfl rfl rfl rfl (tiint).size rfl ?_
        refine ln_pv (pv_fieldAddr (off := 3) (r := 3) Tryz.underlying51 rfl (tiint).size rfl rfl rfl) rfl ?_
        refine ln_store1 (i := 0) rfl rfl rfl rfl (tiint).size rfl ?_
        refine ln_pv (pv_fieldAddr (off := 4) (r := 4) Tryz.underlying51 rfl (tiint).size rfl rfl rfl) rfl ?_
        refine ln_store1 (i := 0) rfl rfl rfl rfl (tiint).size rfl ?_
        refine ln_cd ?_
        refine cd_seq ?_
        refine cd_sr ?_
        refine ln_pv (pv_move rfl) rfl ?_
        refine ln_pv (pv_len_slice Tryz.underlying23 rfl) rfl ?_
        refine ln_pv (pv_move rfl) rfl ?_
        refine ln_cd ?_
        refine cd_block ?_
        refine cd_loop (⟨fun (z : Nat) => [(1, .int .i64 v), (2, .bool q), (9, .pointer (some ⟨b3, 0, none⟩)), (14, .slice adq (x.l.take 32767).length cq), (15, .pointer (some ⟨b4, 0, none⟩)), (97, .int .i64 ((x.l.take 32767).length : Int)), (98, .int .i64 ((z : Nat) : Int))], fun (z : Nat) => [.obj b4 (.cells [.int .i64 f.of_, .int .i64 f.frm, .int .i64 f.to, .int .i64 (-1), .int .i64 (-1), .int .i64 f.dflt, .int .i64 f.of_, .slice adf f.sub.length cf].toArray 51), .obj b3 (.cells [.int .i64 y.n, .slice agS y.s.length cgS, .bool y.z, .slice agL y.l.length cgL, .slice agU y.u.length cgU].toArray 26)], fun (z : Nat) s => z ≤ (x.l.take 32767).length, fun (z : Nat) => (x.l.take 32767).length - z⟩ : Lp (Nat)) 0 ?_ ?_ ?_ ?_
        · intro s0 hs0
          exact Nat.zero_le _
        · exact ⟨rfl, rfl, rfl, rfl, rfl, rfl, rfl,  trivial⟩
        · exact (.cons_cons _ (.cons_cons _ (.cons _ (.cons _ .slnil))))
        intro i s1 hl1 hI
        dsimp only at hI ⊢
        have hf0 := hf0.mv hl1
        have hVf := hVf.mv hl1
        have hFf := hFf.mv hl1
        have hx := hx.mv hl1
        have hS := hS.mv hl1
        have hL := hL.mv hl1
        have hLs := hLs.mv hl1
        have hy := hy.mv hl1
        have hgS := hgS.mv hl1
        have hgL := hgL.mv hl1
        have hgLs := hgLs.mv hl1
        have hQ := hQ.mv hl1
        have hQs := hQs.mv hl1
        refine cd_sr ?_
        refine ln_pv (pv_lss rfl rfl) rfl ?_
        refine ln_cd ?_
        refine cd_seq ?_
        refine cd_if rfl (fun hc9 => ?_) (fun hc9 => ?_)
        · -- yes
          refine cd_skip ?_
          refine at_cd ?_
          refine cd_seq ?_
          refine cd_block ?_
          refine cd_sr ?_
          refine ln_pv (pv_move rfl) rfl ?_
          refine ln_pv (pv_assign rfl) rfl ?_
          refine ln_cd ?_
          have hi : i < (x.l.take 32767).length := by omega
          have hig : i < y.l.length := by omega
          have hix : i < x.l.length := by rw [List.length_take] at hi; omega
          obtain ⟨b0, o0, rfl, hrc⟩ := hQ.pos (by omega) (by decide)
          obtain ⟨c1, c2, c3, he, hk, hr⟩ := RTs.at_ hi hQs
          have hsub := hrc.sub (i * 5) he hk
          obtain ⟨b5, o5, rfl, hrcg⟩ := hgL.pos (by omega) (by decide)
          obtain ⟨d1, d2, d3, heg, hkg, hrg⟩ := RTs.at_ hig hgLs
          have hsubg := hrcg.sub (i * 5) heg hkg
          have hel := hval.2 i hig
          rw [show x.at_ i = (x.l.take 32767)[i] by simp [Tre.at_, hix], show y.at_ i = y.l[i] by simp [Tre.at_, hig]] at hel
          refine cd_dr' [0, 1] [0, 1, 2, 3, 4, 5, 6, 7, 8, 9, 10, 11, 13] [0, 1, 2, 3, 4, 5, 6, 7, 8, 9, 10, 11, 12, 13] mixed (by kernel_rfl) ?_
          refine lo_pv rfl rfl (sk_js (Tr.refl _) [0, 1] rfl) (pv_ldO (i := 0) rfl Tryz.underlying51 rfl (tispec_Field).size rfl rfl) rfl ?_
          refine lo_pv rfl rfl (sk_js (Tr.refl _) [0, 1] rfl) (pv_move rfl) rfl ?_
          refine lo_pv rfl rfl (sk_js (Tr.refl _) [0, 1] rfl) (pv_move rfl) rfl ?_
          refine lo_pv rfl rfl (sk_js (Tr.refl _) [0, 1] rfl) (pv_move rfl) rfl ?_
          refine lo_pv rfl rfl (sk_js (Tr.refl _) [0, 1] rfl) (pv_move rfl) rfl ?_
          refine lo_pv rfl rfl (sk_js (Tr.refl _) [0, 1] rfl) (pv_ixN Tryz.underlying23 tispec_Tree.size rfl rfl hi) rfl ?_
          refine lo_pv rfl rfl (sk_js (Tr.refl _) [0, 1] rfl) (pv_ldR hsub Tryz.underlying26 rfl tispec_Tree.size rfl hr.len) rfl ?_
          refine lo_pv rfl rfl (sk_js (Tr.refl _) [0, 1] rfl) (pv_fieldAddr (off := 3) (r := 3) Tryz.underlying26 rfl (tiSl_spec_Tree).size rfl rfl rfl) rfl ?_
          refine lo_pv rfl rfl (sk_js (Tr.refl _) [0, 1] rfl) (pv_ldo (i := 1) rfl Tryz.underlying23 rfl rfl rfl) rfl ?_
          refine lo_pv rfl rfl (sk_js (Tr.refl _) [0, 1] rfl) (pv_move rfl) rfl ?_
          refine lo_pv rfl rfl (sk_js (Tr.refl _) [0, 1] rfl) (pv_ixN Tryz.underlying23 tispec_Tree.size rfl rfl hig) rfl ?_
          refine lo_pv rfl rfl (sk_js (Tr.refl _) [0, 1] rfl) (pv_ldR hsubg Tryz.underlying26 rfl tispec_Tree.size rfl hrg.len) rfl ?_
          refine lo_eff rfl rfl ?_
          refine ln_callS en_60 rfl (fun u hu => hone (.mk f.of_ f.frm f.to (-1) (-1) f.dflt f.of_ f.sub) hno rfl u _ _ _ v q _ _ (RF_mk (RS.mv hVf hu) (RFs.mv hFf hu)) (RT.mv hr hu) (smTs.take hz4 _ _ hi) (RT.mv hrg hu) (smTs.mem hw4 _ (List.getElem_mem hig)) (toP_one hno hel)) rfl ?_
          refine lo_back (sk_js (Tr.refl _) [0, 1] rfl) ?_
          refine lo_pv rfl rfl (sk_js (Tr.refl _) [0, 1] rfl) (pv_not rfl) rfl ?_
          refine lo_cd ?_
          refine cd_ff rfl ?_
          refine cd_skip ?_
          refine at_cd ?_
          refine cd_region ?_
          refine ln_pv (pv_add' rfl rfl (wrap_succ (by omega))) rfl ?_
          refine ln_pv (pv_move rfl) rfl ?_
          refine ln_nil ?_
          refine at_rnd (i + 1) hl1 ?_ ?_ ⟨rfl, rfl, rfl, rfl, rfl, rfl, rfl,  trivial⟩ (.cons_cons _ (.cons_cons _ .slnil))
          · intro s9 hs9
            show i + 1 ≤ _
            omega
          · dsimp only; omega
        · -- no
          refine cd_exit rfl ?_
          refine at_cd ?_
          refine cd_sr ?_
          refine ln_pv (pv_assign rfl) rfl ?_
          refine ln_cd ?_
          refine cd_ret ?_
          refine at_retA rfl rfl (fun w hS => ?_)
          rfl
    · have hnb : nulB f.nul v x = false := nulB_neg (fun h => hnn h.1)
      have hval := hval0 hnb
      rw [if_pos h11] at hval
      refine cd_sr ?_
      refine ln_box rfl rfl rfl (fun b1 => ?_)
      refine ln_box rfl rfl rfl (fun b2 => ?_)
      refine ln_box rfl rfl rfl (fun b3 => ?_)
      refine ln_pv (pv_assign rfl) rfl ?_
      refine ln_cd ?_
      refine cd_sr ?_
      refine ln_pv (pv_ldO (i := 2) rfl Tryz.underlying51 rfl (tispec_Field).size rfl rfl) rfl ?_
      refine ln_pv (pv_move rfl) rfl ?_
      refine ln_pv (pv_ldO (i := 1) rfl Tryz.underlying26 rfl (tispec_Tree).size rfl rfl) rfl ?_
      refine ln_callS en_133 rfl (fun u hu => by have h := spec_null u f _ v x _ (RF.mv hf0 hu) (RT.mv hx hu); rwa [show nullB f v x = false from hnb] at h) rfl ?_
      refine ln_pv (pv_assign rfl) rfl ?_
      refine ln_cd ?_
      refine cd_sr ?_
      refine ln_pv (pv_fieldAddr (off := 3) (r := 3) Tryz.underlying51 rfl (tiint).size rfl rfl rfl) rfl ?_
      refine ln_pv (pv_ldo (i := 2) rfl Tryz.underlying3 rfl rfl rfl) rfl ?_
      refine ln_pv (pv_ff (pv_geq rfl rfl) hnn) rfl ?_
      refine ln_pv (pv_move rfl) rfl ?_
      refine ln_gf rfl rfl rfl rfl rfl ?_
      refine ln_gf rfl rfl rfl rfl rfl ?_
      refine ln_gf rfl rfl rfl rfl rfl ?_
      refine ln_gf rfl rfl rfl rfl rfl ?_
      refine ln_pv (pv_pick rfl (fun _ => rfl) (fun _ => rfl)) rfl ?_
      refine ln_pv (pv_assign rfl) rfl ?_
      refine ln_cd ?_
      refine cd_seq ?_
      refine cd_sr ?_
      refine ln_pv (pv_fieldAddr (off := 0) (r := 0) Tryz.underlying51 rfl (tiint).size rfl rfl rfl) rfl ?_
      refine ln_pv (pv_ldo (i := 2) rfl Tryz.underlying3 rfl rfl rfl) rfl ?_
      refine ln_pv (pv_ff (pv_eql rfl rfl) h8) rfl ?_
      refine ln_pv (pv_move rfl) rfl ?_
      refine ln_gt rfl rfl rfl (pv_fieldAddr (off := 0) (r := 0) Tryz.underlying51 rfl (tiint).size rfl rfl rfl) rfl ?_
      refine ln_gt rfl rfl rfl (pv_ldo (i := 2) rfl Tryz.underlying3 rfl rfl rfl) rfl ?_
      refine ln_gt rfl rfl rfl (pv_ff (pv_eql rfl rfl) h10) rfl ?_
      refine ln_pv (pv_pick rfl (fun _ => rfl) (fun _ => rfl)) rfl ?_
      refine ln_pv (pv_move rfl) rfl ?_
      refine ln_gt rfl rfl rfl (pv_move rfl) rfl ?_
      refine ln_pv (pv_pick rfl (fun _ => rfl) (fun _ => rfl)) rfl ?_
      refine ln_pv (pv_move rfl) rfl ?_
      refine ln_gf rfl rfl rfl rfl rfl ?_
      refine ln_gf rfl rfl rfl rfl rfl ?_
      refine ln_gf rfl rfl rfl rfl rfl ?_
      refine ln_gf rfl rfl rfl rfl rfl ?_
      refine ln_pv (pv_pick rfl (fun _ => rfl) (fun _ => rfl)) rfl ?_
      refine ln_cd ?_
      refine cd_ff rfl ?_
      refine cd_skip ?_
      refine at_cd ?_
      refine cd_seq ?_
      refine cd_sr ?_
      refine ln_pv (pv_move rfl) rfl ?_
      refine ln_cd ?_
      refine cd_ff rfl ?_
      refine cd_skip ?_
      refine at_cd ?_
      refine cd_seq ?_
      refine cd_sr ?_
      refine ln_pv (pv_fieldAddr (off := 0) (r := 0) Tryz.underlying51 rfl (tiint).size rfl rfl rfl) rfl ?_
      refine ln_pv (pv_ldo (i := 2) rfl Tryz.underlying3 rfl rfl rfl) rfl ?_
      refine ln_cd ?_
      refine cd_block ?_
      refine cd_seq ?_
      refine cd_sr ?_
      refine ln_pv (pv_ff (pv_eql rfl rfl) h8) rfl ?_
      refine ln_pv (pv_assign rfl) rfl ?_
      refine ln_cd ?_
      refine cd_ff rfl ?_
      refine cd_region ?_
      refine ln_pv (pv_ff (pv_eql rfl rfl) h9) rfl ?_
      refine ln_pv (pv_assign rfl) rfl ?_
      refine ln_nil ?_
      refine at_cd ?_
      refine cd_ff rfl ?_
      refine cd_sr ?_
      refine ln_pv (pv_ff (pv_eql rfl rfl) h7) rfl ?_
      refine ln_pv (pv_assign rfl) rfl ?_
      refine ln_cd ?_
      refine cd_ff rfl ?_
      refine cd_sr ?_
      refine ln_pv (pv_ff (pv_eql rfl rfl) h10) rfl ?_
      refine ln_pv (pv_assign rfl) rfl ?_
      refine ln_cd ?_
      refine cd_ff rfl ?_
      refine cd_sr ?_
      refine ln_pv (pv_tt (pv_eql rfl rfl) h11) rfl ?_
      refine ln_pv (pv_assign rfl) rfl ?_
      refine ln_cd ?_
      refine cd_tt rfl ?_
      refine cd_sr ?_
      refine ln_pv (pv_fieldAddr (off := 3) (r := 3) Tryz.underlying26 rfl (tiSl_spec_Tree).size rfl rfl rfl) rfl ?_
      refine ln_pv (pv_ldo (i := 1) rfl Tryz.underlying23 rfl rfl rfl) rfl ?_
      refine ln_callA en_134 rfl (fun u hu => spec_things u _ x.l lc (RS.mv hL hu) (RTs.mv hLs hu)) rfl (fun u1 v1 ht1 hR1 => ?_)
      have hf0 := hf0.mv ht1
      have hVf := hVf.mv ht1
      have hFf := hFf.mv ht1
      have hx := hx.mv ht1
      have hS := hS.mv ht1
      have hL := hL.mv ht1
      have hLs := hLs.mv ht1
      have hy := hy.mv ht1
      have hgS := hgS.mv ht1
      have hgL := hgL.mv ht1
      have hgLs := hgLs.mv ht1
      obtain ⟨lq, hQ, hQs⟩ := hR1
      obtain ⟨adq, cq, rfl, hleq⟩ := hQ.shape
      refine ln_pv (pv_assign rfl) rfl ?_
      refine ln_cd ?_
      refine cd_seq ?_
      refine cd_sr ?_
      refine ln_pv (pv_fieldAddr (off := 3) (r := 3) Tryz.underlying26 rfl (tiSl_spec_Tree).size rfl rfl rfl) rfl ?_
      refine ln_pv (pv_ldo (i := 0) rfl Tryz.underlying23 rfl rfl rfl) rfl ?_
      refine ln_pv (pv_len_slice Tryz.underlying23 rfl) rfl ?_
      refine ln_pv (pv_move rfl) rfl ?_
      refine ln_pv (pv_len_slice Tryz.underlying23 rfl) rfl ?_
      refine ln_pv (pv_ff (pv_neq rfl rfl) (fun q => q (by rw [hval.1]))) rfl ?_
      refine ln_cd ?_
      refine cd_ff rfl ?_
      refine cd_skip ?_
      refine at_cd ?_
      refine cd_sr ?_
      refine ln_pv (pv_ldO (i := 2) rfl Tryz.underlying51 rfl (tispec_Field).size rfl rfl) rfl ?_
      refine ln_alloc tispec_Field rfl rfl (fun b4 => ?_)
      refine ln_storeW (i := 0) rfl rfl rfl rfl (tispec_Field).size rfl (by simp [(RS.one hVf)]) ?_
      refine ln_cd ?_
      refine cd_sr ?_
      refine ln_pv (pv_fieldAddr (off := 6) (r := 6) Tryz.underlying51 rfl (tiint).size rfl rfl rfl) rfl ?_
      refine ln_pv (pv_ldo (i := 3) rfl Tryz.underlying3 rfl rfl rfl) rfl ?_
      refine ln_pv (pv_fieldAddr (off := 0) (r := 0) Tryz.underlying51 rfl (tiint).size rfl rfl rfl) rfl ?_
      refine ln_store1 (i := 0) rfl rfl rfl rfl (tiint).size rfl ?_
      refine ln_pv (pv_fieldAddr (off := 3) (r := 3) Tryz.underlying51 rfl (tiint).size rfl rfl rfl) rfl ?_
      refine ln_store1 (i := 0) rfl rfl rfl rfl (tiint).size rfl ?_
      refine ln_pv (pv_fieldAddr (off := 4) (r := 4) Tryz.underlying51 rfl (tiint).size rfl rfl rfl) rfl ?_
      refine ln_store1 (i := 0) rfl rfl rfl rfl (tiint).size rfl ?_
      refine ln_cd ?_
      refine cd_seq ?_
      refine cd_sr ?_
      refine ln_pv (pv_move rfl) rfl ?_
      refine ln_pv (pv_len_slice Tryz.underlying23 rfl) rfl ?_
      refine ln_pv (pv_move rfl) rfl ?_
      refine ln_cd ?_
      refine cd_block ?_
      refine cd_loop (⟨fun (z : Nat) => [(1, .int .i64 v), (2, .bool q), (9, .pointer (some ⟨b3, 0, none⟩)), (14, .slice adq (x.l.take 32767).length cq), (15, .pointer (some ⟨b4, 0, none⟩)), (97, .int .i64 ((x.l.take 32767).length : Int)), (98, .int .i64 ((z : Nat) : Int))], fun (z : Nat) => [.obj b4 (.cells [.int .i64 f.of_, .int .i64 f.frm, .int .i64 f.to, .int .i64 (-1), .int .i64 (-1), .int .i64 f.dflt, .int .i64 f.of_, .slice adf f.sub.length cf].toArray 51), .obj b3 (.cells [.int .i64 y.n, .slice agS y.s.length cgS, .bool y.z, .slice agL y.l.length cgL, .slice agU y.u.length cgU].toArray 26)], fun (z : Nat) s => z ≤ (x.l.take 32767).length, fun (z : Nat) => (x.l.take 32767).length - z⟩ : Lp (Nat)) 0 ?_ ?_ ?_ ?_
      · intro s0 hs0
        exact Nat.zero_le _
      · exact ⟨rfl, rfl, rfl, rfl, rfl, rfl, rfl,  trivial⟩
      · exact (.cons_cons _ (.cons_cons _ (.cons _ (.cons _ .slnil))))
      intro i s1 hl1 hI
      dsimp only at hI ⊢
      have hf0 := hf0.mv hl1
      have hVf := hVf.mv hl1
      have hFf := hFf.mv hl1
      have hx := hx.mv hl1
      have hS := hS.mv hl1
      have hL := hL.mv hl1
      have hLs := hLs.mv hl1
      have hy := hy.mv hl1
      have hgS := hgS.mv hl1
      have hgL := hgL.mv hl1
      have hgLs := hgLs.mv hl1
      have hQ := hQ.mv hl1
      have hQs := hQs.mv hl1
      refine cd_sr ?_
      refine ln_pv (pv_lss rfl rfl) rfl ?_
      refine ln_cd ?_
      refine cd_seq ?_
      refine cd_if rfl (fun hc9 => ?_) (fun hc9 => ?_)
      · -- yes
        refine cd_skip ?_
        refine at_cd ?_
        refine cd_seq ?_
        refine cd_block ?_
        refine cd_sr ?_
        refine ln_pv (pv_move rfl) rfl ?_
        refine ln_pv (pv_assign rfl) rfl ?_
        refine ln_cd ?_
        have hi : i < (x.l.take 32767).length := by omega
        have hig : i < y.l.length := by omega
        have hix : i < x.l.length := by rw [List.length_take] at hi; omega
        obtain ⟨b0, o0, rfl, hrc⟩ := hQ.pos (by omega) (by decide)
        obtain ⟨c1, c2, c3, he, hk, hr⟩ := RTs.at_ hi hQs
        have hsub := hrc.sub (i * 5) he hk
        obtain ⟨b5, o5, rfl, hrcg⟩ := hgL.pos (by omega) (by decide)
        obtain ⟨d1, d2, d3, heg, hkg, hrg⟩ := RTs.at_ hig hgLs
        have hsubg := hrcg.sub (i * 5) heg hkg
        have hel := hval.2 i hig
        rw [show x.at_ i = (x.l.take 32767)[i] by simp [Tre.at_, hix], show y.at_ i = y.l[i] by simp [Tre.at_, hig]] at hel
        refine cd_dr' [0, 1] [0, 1, 2, 3, 4, 5, 6, 7, 8, 9, 10, 11, 13] [0, 1, 2, 3, 4, 5, 6, 7, 8, 9, 10, 11, 12, 13] mixed (by kernel_rfl) ?_
        refine lo_pv rfl rfl (sk_js (Tr.refl _) [0, 1] rfl) (pv_ldO (i := 0) rfl Tryz.underlying51 rfl (tispec_Field).size rfl rfl) rfl ?_
        refine lo_pv rfl rfl (sk_js (Tr.refl _) [0, 1] rfl) (pv_move rfl) rfl ?_
        refine lo_pv rfl rfl (sk_js (Tr.refl _) [0, 1] rfl) (pv_move rfl) rfl ?_
        refine lo_pv rfl rfl (sk_js (Tr.refl _) [0, 1] rfl) (pv_move rfl) rfl ?_
        refine lo_pv rfl rfl (sk_js (Tr.refl _) [0, 1] rfl) (pv_move rfl) rfl ?_
        refine lo_pv rfl rfl (sk_js (Tr.refl _) [0, 1] rfl) (pv_ixN Tryz.underlying23 tispec_Tree.size rfl rfl hi) rfl ?_
        refine lo_pv rfl rfl (sk_js (Tr.refl _) [0, 1] rfl) (pv_ldR hsub Tryz.underlying26 rfl tispec_Tree.size rfl hr.len) rfl ?_
        refine lo_pv rfl rfl (sk_js (Tr.refl _) [0, 1] rfl) (pv_fieldAddr (off := 3) (r := 3) Tryz.underlying26 rfl (tiSl_spec_Tree).size rfl rfl rfl) rfl ?_
        refine lo_pv rfl rfl (sk_js (Tr.refl _) [0, 1] rfl) (pv_ldo (i := 1) rfl Tryz.underlying23 rfl rfl rfl) rfl ?_
        refine lo_pv rfl rfl (sk_js (Tr.refl _) [0, 1] rfl) (pv_move rfl) rfl ?_
        refine lo_pv rfl rfl (sk_js (Tr.refl _) [0, 1] rfl) (pv_ixN Tryz.underlying23 tispec_Tree.size rfl rfl hig) rfl ?_
        refine lo_pv rfl rfl (sk_js (Tr.refl _) [0, 1] rfl) (pv_ldR hsubg Tryz.underlying26 rfl tispec_Tree.size rfl hrg.len) rfl ?_
        refine lo_eff rfl rfl ?_
        refine ln_callS en_60 rfl (fun u hu => hone (.mk f.of_ f.frm f.to (-1) (-1) f.dflt f.of_ f.sub) hno rfl u _ _ _ v q _ _ (RF_mk (RS.mv hVf hu) (RFs.mv hFf hu)) (RT.mv hr hu) (smTs.take hz4 _ _ hi) (RT.mv hrg hu) (smTs.mem hw4 _ (List.getElem_mem hig)) (toP_one hno hel)) rfl ?_
        refine lo_back (sk_js (Tr.refl _) [0, 1] rfl) ?_
        refine lo_pv rfl rfl (sk_js (Tr.refl _) [0, 1] rfl) (pv_not rfl) rfl ?_
        refine lo_cd ?_
        refine cd_ff rfl ?_
        refine cd_skip ?_
        refine at_cd ?_
        refine cd_region ?_
        refine ln_pv (pv_add' rfl rfl (wrap_succ (by omega))) rfl ?_
        refine ln_pv (pv_move rfl) rfl ?_
        refine ln_nil ?_
        refine at_rnd (i + 1) hl1 ?_ ?_ ⟨rfl, rfl, rfl, rfl, rfl, rfl, rfl,  trivial⟩ (.cons_cons _ (.cons_cons _ .slnil))
        · intro s9 hs9
          show i + 1 ≤ _
          omega
        · dsimp only; omega
      · -- no
        refine cd_exit rfl ?_
        refine at_cd ?_
        refine cd_sr ?_
        refine ln_pv (pv_assign rfl) rfl ?_
        refine ln_cd ?_
        refine cd_ret ?_
        refine at_retA rfl rfl (fun w hS => ?_)
        rfl
  · exact absurd hk11 h11
  · exact absurd hk11 h11
theorem spec_told (f : Fld) (hno : ¬ f.of_ = 11) (hP : ToldC f.sub) : ToldF f := by
  by_cases h : f.kind = 11
  · exact spec_told2 f h hno fun g h1 h2 => spec_told1 g h1 (by rw [h2]; exact hP)
  · exact spec_told1 f h hP
theorem toL_get : ∀ {fs : List Fld} {v : Int} {q : Bool} {t g : Tre} {i : Nat}, toL fs v q t g i → ∀ j, (hj : j < fs.length) → if hereB fs[j] v q (t.at_ (i + j)) = true then toP fs[j] v q (t.at_ (i + j)) (g.at_ (i + j)) else usP fs[j] (g.at_ (i + j))
  | f :: r, v, q, t, g, i, h, 0, hj => by simp only [toL] at h; exact h.1
  | f :: r, v, q, t, g, i, h, j + 1, hj => by
    simp only [toL] at h
    have := toL_get h.2 j (by simpa using hj)
    rw [show i + 1 + j = i + (j + 1) by omega] at this
    exact this
theorem hcase (f : Fld) (v : Int) (t : Tre) : (f.tag < 0 ∧ hasB f v = true) ∨ (f.tag < 0 ∧ hasB f v = false) ∨ (¬ f.tag < 0 ∧ usualB f t = false) ∨ (¬ f.tag < 0 ∧ usualB f t = true) := by
  by_cases h : f.tag < 0
  · cases hasB f v <;> simp [h]
  · cases usualB f t <;> simp [h]
theorem RFs_one {s : Vw} {g : Fld} {c : List Value} (h : RF s g c) : RFs s [g] c := by
  simp only [RFs]
  exact ⟨c, [], by simp, h, rfl⟩
theorem RT_l1 {s : Vw} {v : Value} {y : Tre} {c : List Value} (h : RS s 5 v 1 c) (h2 : RT s y c) : RT s (.mk 0 [] false [y] []) [.int .i64 0, .slice none 0 0, .bool false, v, .slice none 0 0] :=
  RT.shut ⟨_, _, _, rfl, (show I64 0 from by unfold I64; omega), RS_nil 1, ⟨c, h, RTs.one h2⟩, ⟨[], RS_nil 2, rfl⟩⟩
theorem smT_l1 {y : Tre} (h : smT y) : smT (.mk 0 [] false [y] []) := ⟨by simp, by simp, by simp, by simp [smTs, h]⟩
theorem usL_l1 {g : Fld} {y : Tre} (h : usP g y) : usL [g] (.mk 0 [] false [y] []) 0 := by
  simp only [usL]
  exact ⟨h, trivial⟩
set_option maxHeartbeats 4000000 in
theorem spec_Told1 (fs : List Fld) (hok : okFs fs = true) (hnk : nkFs fs = true) (hlen : fs.length < 1000000) (hF : ∀ g ∈ fs, ToldF g) : ToldC fs := by
  intro t vf lcf cs gs v q x y hVf hFf hx hsm hy hsy hto
  obtain ⟨adf, cf, rfl, hlef⟩ := hVf.shape
  have hT := okFs.tags hok
  have hyl : y.l.length = fs.length := hto.1
  obtain ⟨sS, sL, sU, rfl, hn, hS, ⟨lc, hL, hLs⟩, hU⟩ := hx.open
  obtain ⟨adS, cS, rfl, hleS⟩ := hS.shape
  obtain ⟨adL, cL, rfl, hleL⟩ := hL.shape
  have hU0 := hU
  obtain ⟨uc, hU1, hUs⟩ := hU0
  obtain ⟨hz1, hz2, hz3, hz4⟩ := hsm.open
  obtain ⟨adU, cU, rfl, hleU⟩ := hU1.shape
  obtain ⟨gS, gL, gU, rfl, hgn, hgS, ⟨glc, hgL, hgLs⟩, hgU⟩ := hy.open
  obtain ⟨agS, cgS, rfl, hgleS⟩ := hgS.shape
  obtain ⟨agL, cgL, rfl, hgleL⟩ := hgL.shape
  obtain ⟨guc, hgU1, hgUs⟩ := hgU
  obtain ⟨agU, cgU, rfl, hgleU⟩ := hgU1.shape
  obtain ⟨hw1, hw2, hw3, hw4⟩ := hsy.open
  refine CA.cs ?_
  refine ca_enter Tryz.func19 rfl Tryz.ntmps19 rfl ?_
  cases q with
  | false =>
    have hyu : y.u = [] := hto.2.2
    refine cd_sr ?_
    refine ln_box rfl rfl rfl (fun b1 => ?_)
    refine ln_box rfl rfl rfl (fun b2 => ?_)
    refine ln_pv (pv_assign rfl) rfl ?_
    refine ln_cd ?_
    refine cd_seq ?_
    refine cd_sr ?_
    refine ln_pv (pv_fieldAddr (off := 3) (r := 3) Tryz.underlying26 rfl (tiSl_spec_Tree).size rfl rfl rfl) rfl ?_
    refine ln_pv (pv_ldo (i := 0) rfl Tryz.underlying23 rfl rfl rfl) rfl ?_
    refine ln_pv (pv_len_slice Tryz.underlying23 rfl) rfl ?_
    refine ln_pv (pv_move rfl) rfl ?_
    refine ln_pv (pv_len_slice Tryz.underlying29 rfl) rfl ?_
    refine ln_pv (pv_ff (pv_neq rfl rfl) (fun q => q (by rw [hto.1]))) rfl ?_
    refine ln_cd ?_
    refine cd_ff rfl ?_
    refine cd_skip ?_
    refine at_cd ?_
    refine cd_seq ?_
    refine cd_sr ?_
    refine ln_pv (pv_move rfl) rfl ?_
    refine ln_pv (pv_len_slice Tryz.underlying29 rfl) rfl ?_
    refine ln_pv (pv_move rfl) rfl ?_
    refine ln_cd ?_
    refine cd_block ?_
    refine cd_loop (⟨fun (z : Nat) => [(0, .slice adf fs.length cf), (1, .int .i64 v), (2, .bool false), (8, .pointer (some ⟨b1, 0, none⟩)), (9, .pointer (some ⟨b2, 0, none⟩)), (23, .slice adf fs.length cf), (24, .int .i64 (fs.length : Int)), (25, .int .i64 ((z : Nat) : Int))], fun (z : Nat) => [.obj b2 (.cells [.int .i64 y.n, .slice agS y.s.length cgS, .bool y.z, .slice agL y.l.length cgL, .slice agU y.u.length cgU].toArray 26), .obj b1 (.cells [.int .i64 x.n, .slice adS x.s.length cS, .bool x.z, .slice adL x.l.length cL, .slice adU x.u.length cU].toArray 26)], fun (z : Nat) s => z ≤ fs.length, fun (z : Nat) => fs.length - z⟩ : Lp (Nat)) 0 ?_ ?_ ?_ ?_
    · intro s0 hs0
      exact Nat.zero_le _
    · exact ⟨rfl, rfl, rfl, rfl, rfl, rfl, rfl, rfl,  trivial⟩
    · exact (.cons_cons _ (.cons_cons _ .slnil))
    intro i s1 hl1 hI
    dsimp only at hI ⊢
    have hVf := hVf.mv hl1
    have hFf := hFf.mv hl1
    have hx := hx.mv hl1
    have hU1 := hU1.mv hl1
    have hUs := hUs.mv hl1
    have hy := hy.mv hl1
    have hgL := hgL.mv hl1
    have hgLs := hgLs.mv hl1
    have hgU1 := hgU1.mv hl1
    have hgUs := hgUs.mv hl1
    refine cd_sr ?_
    refine ln_pv (pv_lss rfl rfl) rfl ?_
    refine ln_cd ?_
    refine cd_seq ?_
    refine cd_if rfl (fun hc2 => ?_) (fun hc2 => ?_)
    · -- yes
      refine cd_skip ?_
      refine at_cd ?_
      refine cd_seq ?_
      refine cd_block ?_
      have hi : i < fs.length := by omega
      obtain ⟨b0, o0, rfl, hrc⟩ := hVf.pos (by omega) (by decide)
      obtain ⟨c1, c2, c3, he, hk, hr⟩ := RFs.at_ hi hFf
      have hsub := hrc.sub (i * 8) he hk
      obtain ⟨svf, rfl, lf2, hVf2, hFf2⟩ := hr.open
      have hig : i < y.l.length := by omega
      obtain ⟨b5, o5, rfl, hrcg⟩ := hgL.pos (by omega) (by decide)
      obtain ⟨d1, d2, d3, heg, hkg, hrg⟩ := RTs.at_ hig hgLs
      have hsubgn : RCn _ b5 (o5 + i * 5) d2 := ⟨fun hn => by have h5 := hrg.len; rw [hn] at h5; simp at h5, hrcg.sub (i * 5) heg hkg⟩
      rw [← show y.at_ i = y.l[i] by simp [Tre.at_, hig]] at hrg
      refine cd_sr ?_
      refine ln_pv (pv_move rfl) rfl ?_
      refine ln_pv (pv_ixN Tryz.underlying29 tispec_Field.size rfl rfl hi) rfl ?_
      refine ln_pv (pv_ldR hsub Tryz.underlying51 rfl tispec_Field.size rfl rfl) rfl ?_
      refine ln_alloc tispec_Field rfl rfl (fun b3 => ?_)
      refine ln_pv (pv_assign rfl) rfl ?_
      refine ln_storeW (i := 0) rfl rfl rfl rfl (tispec_Field).size rfl (by simp [(RS.one hVf2)]) ?_
      refine ln_cd ?_
      refine cd_sr ?_
      refine ln_pv (pv_ldO (i := 2) rfl Tryz.underlying26 rfl (tispec_Tree).size rfl rfl) rfl ?_
      refine ln_pv (pv_move rfl) rfl ?_
      refine ln_callA en_57 rfl (fun u hu => spec_at u x _ i (RT.mv hx hu)) rfl (fun u1 v1 ht1 hR1 => ?_)
      have hVf := hVf.mv ht1
      have hFf := hFf.mv ht1
      have hx := hx.mv ht1
      have hU1 := hU1.mv ht1
      have hUs := hUs.mv ht1
      have hy := hy.mv ht1
      have hgL := hgL.mv ht1
      have hgLs := hgLs.mv ht1
      have hgU1 := hgU1.mv ht1
      have hgUs := hgUs.mv ht1
      have hr := hr.mv ht1
      have hVf2 := hVf2.mv ht1
      have hFf2 := hFf2.mv ht1
      have hrg := hrg.mv ht1
      have hsubgn := hsubgn.mv ht1
      obtain ⟨ds1, rfl, hds1⟩ := hR1
      refine ln_alloc tispec_Tree rfl rfl (fun b4 => ?_)
      refine ln_storeW (i := 0) rfl rfl rfl rfl (tispec_Tree).size hds1.len hds1.cells ?_
      refine ln_cd ?_
      refine cd_seq ?_
      rcases hcase fs[i] v (x.at_ i) with ⟨htag, hhas⟩ | ⟨htag, hhas⟩ | ⟨htag, hus⟩ | ⟨htag, hus⟩
      · skip
        have hfld := toL_get hto.2.1 i hi
        rw [Nat.zero_add, if_pos (by simp [hereB, htag, hhas])] at hfld
        refine cd_sr ?_
        refine ln_pv (pv_fieldAddr (off := 4) (r := 4) Tryz.underlying51 rfl (tiint).size rfl rfl rfl) rfl ?_
        refine ln_pv (pv_ldo (i := 1) rfl Tryz.underlying3 rfl rfl rfl) rfl ?_
        refine ln_pv (pv_tt (pv_lss rfl rfl) htag) rfl ?_
        refine ln_pv (pv_move rfl) rfl ?_
        refine ln_gt rfl rfl rfl (pv_ldO (i := 1) rfl Tryz.underlying51 rfl (tispec_Field).size rfl rfl) rfl ?_
        refine ln_gt rfl rfl rfl (pv_move rfl) rfl ?_
        refine ln_gE rfl rfl rfl ?_
        refine ln_callS en_58 rfl (fun u hu => by have h := spec_has u fs[i] _ v (RF.mv hr hu); rwa [hhas] at h) rfl ?_
        refine ln_pv (pv_pick rfl (fun _ => rfl) (fun _ => rfl)) rfl ?_
        refine ln_pv (pv_move rfl) rfl ?_
        refine ln_gf rfl rfl rfl rfl rfl ?_
        refine ln_gf rfl rfl rfl rfl rfl ?_
        refine ln_gf rfl rfl rfl rfl rfl ?_
        refine ln_gf rfl rfl rfl rfl rfl ?_
        refine ln_gu rfl rfl rfl rfl ?_
        refine ln_gf rfl rfl rfl rfl rfl ?_
        refine ln_gf rfl rfl rfl rfl rfl ?_
        refine ln_gu rfl rfl rfl rfl ?_
        refine ln_gu rfl rfl rfl rfl ?_
        refine ln_gu rfl rfl rfl rfl ?_
        refine ln_gu rfl rfl rfl rfl ?_
        refine ln_gf rfl rfl rfl rfl rfl ?_
        refine ln_pv (pv_pick rfl (fun _ => rfl) (fun _ => rfl)) rfl ?_
        refine ln_cd ?_
        refine cd_tt rfl ?_
        refine cd_seq ?_
        refine cd_dr' [0, 1, 2, 3] [0, 1, 2, 3, 4, 5, 6, 7, 8, 10] [0, 1, 2, 3, 4, 5, 6, 7, 8, 9, 10] mixed (by kernel_rfl) ?_
        refine lo_pv rfl rfl (sk_js (Tr.refl _) [0, 1, 2, 3] rfl) (pv_ldO (i := 1) rfl Tryz.underlying51 rfl (tispec_Field).size rfl rfl) rfl ?_
        refine lo_pv rfl rfl (sk_js (Tr.refl _) [0, 1, 2, 3] rfl) (pv_move rfl) rfl ?_
        refine lo_pv rfl rfl (sk_js (Tr.refl _) [0, 1, 2, 3] rfl) (pv_move rfl) rfl ?_
        refine lo_pv rfl rfl (sk_js (Tr.refl _) [0, 1, 2, 3] rfl) (pv_ldO (i := 0) rfl Tryz.underlying26 rfl (tispec_Tree).size rfl hds1.len) rfl ?_
        refine lo_pv rfl rfl (sk_js (Tr.refl _) [0, 1, 2, 3] rfl) (pv_fieldAddr (off := 3) (r := 3) Tryz.underlying26 rfl (tiSl_spec_Tree).size rfl rfl rfl) rfl ?_
        refine lo_pv rfl rfl (sk_js (Tr.refl _) [0, 1, 2, 3] rfl) (pv_ldo (i := 2) rfl Tryz.underlying23 rfl rfl rfl) rfl ?_
        refine lo_pv rfl rfl (sk_js (Tr.refl _) [0, 1, 2, 3] rfl) (pv_move rfl) rfl ?_
        refine lo_pv rfl rfl (sk_js (Tr.refl _) [0, 1, 2, 3] rfl) (pv_ixN Tryz.underlying23 tispec_Tree.size rfl rfl hig) rfl ?_
        refine lo_pv rfl rfl (sk_js (Tr.refl _) [0, 1, 2, 3] rfl) (pv_ldR hsubgn.2 Tryz.underlying26 rfl tispec_Tree.size rfl hrg.len) rfl ?_
        refine lo_eff rfl rfl ?_
        refine ln_callS en_60 rfl (fun u hu => hF _ (List.getElem_mem hi) u _ _ _ v _ (x.at_ i) (y.at_ i) (RF.mv hr hu) (RT.mv hds1 hu) (hsm.at_ i) (RT.mv hrg hu) (hsy.at_ i) hfld) rfl ?_
        refine lo_back (sk_js (Tr.refl _) [0, 1, 2, 3] rfl) ?_
        refine lo_pv rfl rfl (sk_js (Tr.refl _) [0, 1, 2, 3] rfl) (pv_not rfl) rfl ?_
        refine lo_cd ?_
        refine cd_ff rfl ?_
        refine cd_skip ?_
        refine at_cd ?_
        refine cd_exit rfl ?_
        refine at_cd ?_
        refine cd_region ?_
        refine ln_pv (pv_add' rfl rfl (wrap_succ (by omega))) rfl ?_
        refine ln_pv (pv_move rfl) rfl ?_
        refine ln_nil ?_
        refine at_rnd (i + 1) (hl1.trans ht1) ?_ ?_ ⟨rfl, rfl, rfl, rfl, rfl, rfl, rfl, rfl,  trivial⟩ (.cons _ (.cons _ (.cons_cons _ (.cons_cons _ .slnil))))
        · intro s9 hs9
          show i + 1 ≤ _
          omega
        · dsimp only; omega
      · skip
        have hfld := toL_get hto.2.1 i hi
        rw [Nat.zero_add, if_neg (by simp [hereB, htag, hhas])] at hfld
        refine cd_sr ?_
        refine ln_pv (pv_fieldAddr (off := 4) (r := 4) Tryz.underlying51 rfl (tiint).size rfl rfl rfl) rfl ?_
        refine ln_pv (pv_ldo (i := 1) rfl Tryz.underlying3 rfl rfl rfl) rfl ?_
        refine ln_pv (pv_tt (pv_lss rfl rfl) htag) rfl ?_
        refine ln_pv (pv_move rfl) rfl ?_
        refine ln_gt rfl rfl rfl (pv_ldO (i := 1) rfl Tryz.underlying51 rfl (tispec_Field).size rfl rfl) rfl ?_
        refine ln_gt rfl rfl rfl (pv_move rfl) rfl ?_
        refine ln_gE rfl rfl rfl ?_
        refine ln_callS en_58 rfl (fun u hu => by have h := spec_has u fs[i] _ v (RF.mv hr hu); rwa [hhas] at h) rfl ?_
        refine ln_pv (pv_pick rfl (fun _ => rfl) (fun _ => rfl)) rfl ?_
        refine ln_pv (pv_move rfl) rfl ?_
        refine ln_gt rfl rfl rfl (pv_fieldAddr (off := 4) (r := 4) Tryz.underlying51 rfl (tiint).size rfl rfl rfl) rfl ?_
        refine ln_gt rfl rfl rfl (pv_ldo (i := 1) rfl Tryz.underlying3 rfl rfl rfl) rfl ?_
        refine ln_gt rfl rfl rfl (pv_ff (pv_geq rfl rfl) (by omega)) rfl ?_
        refine ln_gt rfl rfl rfl (pv_move rfl) rfl ?_
        refine ln_gf rfl rfl rfl rfl rfl ?_
        refine ln_gt rfl rfl rfl (pv_pick rfl (fun _ => rfl) (fun _ => rfl)) rfl ?_
        refine ln_gt rfl rfl rfl (pv_move rfl) rfl ?_
        refine ln_gf rfl rfl rfl rfl rfl ?_
        refine ln_gf rfl rfl rfl rfl rfl ?_
        refine ln_gf rfl rfl rfl rfl rfl ?_
        refine ln_gf rfl rfl rfl rfl rfl ?_
        refine ln_gt rfl rfl rfl (pv_pick rfl (fun _ => rfl) (fun _ => rfl)) rfl ?_
        refine ln_pv (pv_pick rfl (fun _ => rfl) (fun _ => rfl)) rfl ?_
        refine ln_cd ?_
        refine cd_ff rfl ?_
        refine cd_skip ?_
        refine at_cd ?_
        refine cd_dr2 [0, 1, 2, 3] [0, 2, 3, 4, 5, 6, 8, 10] [0, 2, 3, 4, 5, 6] 1 7 [7, 8, 9, 10] [8, 1, 9, 10] mixed (by kernel_rfl) ?_
        refine lo_pv rfl rfl (sk_js (Tr.refl _) [0, 1, 2, 3] rfl) (pv_ldO (i := 1) rfl Tryz.underlying51 rfl (tispec_Field).size rfl rfl) rfl ?_
        refine lo_pv rfl rfl (sk_js (Tr.refl _) [0, 1, 2, 3] rfl) (pv_fieldAddr (off := 3) (r := 3) Tryz.underlying26 rfl (tiSl_spec_Tree).size rfl rfl rfl) rfl ?_
        refine lo_pv rfl rfl (sk_js (Tr.refl _) [0, 1, 2, 3] rfl) (pv_ldo (i := 2) rfl Tryz.underlying23 rfl rfl rfl) rfl ?_
        refine lo_pv rfl rfl (sk_js (Tr.refl _) [0, 1, 2, 3] rfl) (pv_move rfl) rfl ?_
        refine lo_pv rfl rfl (sk_js (Tr.refl _) [0, 1, 2, 3] rfl) (pv_ixN Tryz.underlying23 tispec_Tree.size rfl rfl hig) rfl ?_
        refine lo_pv rfl rfl (sk_js (Tr.refl _) [0, 1, 2, 3] rfl) (pv_ldR hsubgn.2 Tryz.underlying26 rfl tispec_Tree.size rfl hrg.len) rfl ?_
        refine lo_nil (at_two ?_ ?_)
        · skip
          refine lo_eff rfl rfl ?_
          refine ln_lit (vs := [_]) Tryz.underlying29 tispec_Field rfl (by decide) rfl rfl rfl rfl rfl rfl (fun bA => ?_)
          refine ln_free1 (fun q h => h.elim) (fun sA htA hKA => ?_)
          have hFA : RS sA 8 (.slice (some ⟨bA, 0, none⟩) 1 1) 1 [.int .i64 fs[i].kind, .int .i64 fs[i].frm, .int .i64 fs[i].to, .int .i64 fs[i].nul, .int .i64 fs[i].tag, .int .i64 fs[i].dflt, .int .i64 fs[i].of_, svf] := ob_rs hKA rfl (by simp [RS.one hVf2])
          have hVf := hVf.mv htA
          have hFf := hFf.mv htA
          have hx := hx.mv htA
          have hU1 := hU1.mv htA
          have hUs := hUs.mv htA
          have hy := hy.mv htA
          have hgL := hgL.mv htA
          have hgLs := hgLs.mv htA
          have hgU1 := hgU1.mv htA
          have hgUs := hgUs.mv htA
          have hr := hr.mv htA
          have hVf2 := hVf2.mv htA
          have hFf2 := hFf2.mv htA
          have hrg := hrg.mv htA
          have hsubgn := hsubgn.mv htA
          have hds1 := hds1.mv htA
          refine lo_back (sk_js htA [0, 1, 2, 3] rfl) ?_
          refine lo_eff rfl rfl ?_
          refine ln_lit (vs := [_]) Tryz.underlying23 tispec_Tree rfl (by decide) rfl rfl rfl (by simp [partsOk, Value.cells, hrg.len]; try exact .inl rfl) rfl rfl (fun bB => ?_)
          refine ln_free1 (fun q h => h.elim) (fun sB htB hKB => ?_)
          have hKB : Known sB (Ent.obj bB (.cells d2.toArray 26)) := by simpa [flat, Value.cells] using hKB
          have hKB : OB sB bB (.cells d2.toArray 26) := hKB
          have hTB : RS sB 5 (.slice (some ⟨bB, 0, none⟩) 1 1) 1 d2 := ob_rs hKB (by rw [hrg.len]) hrg.cells
          have hVf := hVf.mv htB
          have hFf := hFf.mv htB
          have hx := hx.mv htB
          have hU1 := hU1.mv htB
          have hUs := hUs.mv htB
          have hy := hy.mv htB
          have hgL := hgL.mv htB
          have hgLs := hgLs.mv htB
          have hgU1 := hgU1.mv htB
          have hgUs := hgUs.mv htB
          have hr := hr.mv htB
          have hVf2 := hVf2.mv htB
          have hFf2 := hFf2.mv htB
          have hrg := hrg.mv htB
          have hsubgn := hsubgn.mv htB
          have hds1 := hds1.mv htB
          have hFA := hFA.mv htB
          refine lo_back (sk_js (htA.trans htB) [0, 1, 2, 3] rfl) ?_
          refine lo_pv rfl rfl (sk_js (htA.trans htB) [0, 1, 2, 3] rfl) (pv_struct [(0, 1), (1, 1), (2, 1), (3, 1), (4, 1)] (l := [_, _, _, _, _]) rfl Tryz.underlying26 tispec_Tree (by kernel_rfl) rfl (by simp [okL, Nat.ble_eq, Value.cells, (RS.one hTB)])) rfl ?_
          refine lo_eff rfl rfl ?_
          refine ln_callS en_61 rfl (fun u hu => spec_Usual [fs[i]] (by simp [nkFs, nkFs.mem hnk _ (List.getElem_mem hi)]) (by simp [okFs, okFs.mem hok _ (List.getElem_mem hi)]) (by simp) u _ _ _ (.mk 0 [] false [y.at_ i] []) (RS.mv hFA hu) (RFs_one (RF.mv hr hu)) (RT_l1 (RS.mv hTB hu) (RT.mv hrg hu)) (smT_l1 (hsy.at_ i)) rfl (usL_l1 hfld)) rfl ?_
          refine lo_back (sk_js (htA.trans htB) [0, 1, 2, 3] rfl) ?_
          refine lo_pv rfl rfl (sk_js (htA.trans htB) [0, 1, 2, 3] rfl) (pv_not rfl) rfl ?_
          refine lo_cd ?_
          refine cd_ff rfl ?_
          refine cd_skip ?_
          refine at_cd ?_
          refine cd_region ?_
          refine ln_pv (pv_add' rfl rfl (wrap_succ (by omega))) rfl ?_
          refine ln_pv (pv_move rfl) rfl ?_
          refine ln_nil ?_
          refine at_rnd (i + 1) (((hl1.trans ht1).trans htA).trans htB) ?_ ?_ ⟨rfl, rfl, rfl, rfl, rfl, rfl, rfl, rfl,  trivial⟩ (.cons _ (.cons _ (.cons_cons _ (.cons_cons _ .slnil))))
          · intro s9 hs9
            show i + 1 ≤ _
            omega
          · dsimp only; omega
        · skip
          refine lo_eff rfl rfl ?_
          refine ln_lit (vs := [_]) Tryz.underlying23 tispec_Tree rfl (by decide) rfl rfl rfl (by simp [partsOk, Value.cells, hrg.len]; try exact .inl rfl) rfl rfl (fun bB => ?_)
          refine ln_free1 (fun q h => h.elim) (fun sB htB hKB => ?_)
          have hKB : Known sB (Ent.obj bB (.cells d2.toArray 26)) := by simpa [flat, Value.cells] using hKB
          have hKB : OB sB bB (.cells d2.toArray 26) := hKB
          have hTB : RS sB 5 (.slice (some ⟨bB, 0, none⟩) 1 1) 1 d2 := ob_rs hKB (by rw [hrg.len]) hrg.cells
          have hVf := hVf.mv htB
          have hFf := hFf.mv htB
          have hx := hx.mv htB
          have hU1 := hU1.mv htB
          have hUs := hUs.mv htB
          have hy := hy.mv htB
          have hgL := hgL.mv htB
          have hgLs := hgLs.mv htB
          have hgU1 := hgU1.mv htB
          have hgUs := hgUs.mv htB
          have hr := hr.mv htB
          have hVf2 := hVf2.mv htB
          have hFf2 := hFf2.mv htB
          have hrg := hrg.mv htB
          have hsubgn := hsubgn.mv htB
          have hds1 := hds1.mv htB
          refine lo_back (sk_js htB [0, 1, 2, 3] rfl) ?_
          refine lo_pv rfl rfl (sk_js htB [0, 1, 2, 3] rfl) (pv_struct [(0, 1), (1, 1), (2, 1), (3, 1), (4, 1)] (l := [_, _, _, _, _]) rfl Tryz.underlying26 tispec_Tree (by kernel_rfl) rfl (by simp [okL, Nat.ble_eq, Value.cells, (RS.one hTB)])) rfl ?_
          refine lo_eff rfl rfl ?_
          refine ln_lit (vs := [_]) Tryz.underlying29 tispec_Field rfl (by decide) rfl rfl rfl rfl rfl rfl (fun bA => ?_)
          refine ln_free1 (fun q h => h.elim) (fun sA htA hKA => ?_)
          have hFA : RS sA 8 (.slice (some ⟨bA, 0, none⟩) 1 1) 1 [.int .i64 fs[i].kind, .int .i64 fs[i].frm, .int .i64 fs[i].to, .int .i64 fs[i].nul, .int .i64 fs[i].tag, .int .i64 fs[i].dflt, .int .i64 fs[i].of_, svf] := ob_rs hKA rfl (by simp [RS.one hVf2])
          have hVf := hVf.mv htA
          have hFf := hFf.mv htA
          have hx := hx.mv htA
          have hU1 := hU1.mv htA
          have hUs := hUs.mv htA
          have hy := hy.mv htA
          have hgL := hgL.mv htA
          have hgLs := hgLs.mv htA
          have hgU1 := hgU1.mv htA
          have hgUs := hgUs.mv htA
          have hr := hr.mv htA
          have hVf2 := hVf2.mv htA
          have hFf2 := hFf2.mv htA
          have hrg := hrg.mv htA
          have hsubgn := hsubgn.mv htA
          have hds1 := hds1.mv htA
          have hTB := hTB.mv htA
          refine lo_back (sk_js (htB.trans htA) [0, 1, 2, 3] rfl) ?_
          refine lo_eff rfl rfl ?_
          refine ln_callS en_61 rfl (fun u hu => spec_Usual [fs[i]] (by simp [nkFs, nkFs.mem hnk _ (List.getElem_mem hi)]) (by simp [okFs, okFs.mem hok _ (List.getElem_mem hi)]) (by simp) u _ _ _ (.mk 0 [] false [y.at_ i] []) (RS.mv hFA hu) (RFs_one (RF.mv hr hu)) (RT_l1 (RS.mv hTB hu) (RT.mv hrg hu)) (smT_l1 (hsy.at_ i)) rfl (usL_l1 hfld)) rfl ?_
          refine lo_back (sk_js (htB.trans htA) [0, 1, 2, 3] rfl) ?_
          refine lo_pv rfl rfl (sk_js (htB.trans htA) [0, 1, 2, 3] rfl) (pv_not rfl) rfl ?_
          refine lo_cd ?_
          refine cd_ff rfl ?_
          refine cd_skip ?_
          refine at_cd ?_
          refine cd_region ?_
          refine ln_pv (pv_add' rfl rfl (wrap_succ (by omega))) rfl ?_
          refine ln_pv (pv_move rfl) rfl ?_
          refine ln_nil ?_
          refine at_rnd (i + 1) (((hl1.trans ht1).trans htB).trans htA) ?_ ?_ ⟨rfl, rfl, rfl, rfl, rfl, rfl, rfl, rfl,  trivial⟩ (.cons _ (.cons _ (.cons_cons _ (.cons_cons _ .slnil))))
          · intro s9 hs9
            show i + 1 ≤ _
            omega
          · dsimp only; omega
      · skip
        have hfld := toL_get hto.2.1 i hi
        rw [Nat.zero_add, if_neg (by simp [hereB, htag, hus])] at hfld
        refine cd_sr ?_
        refine ln_pv (pv_fieldAddr (off := 4) (r := 4) Tryz.underlying51 rfl (tiint).size rfl rfl rfl) rfl ?_
        refine ln_pv (pv_ldo (i := 1) rfl Tryz.underlying3 rfl rfl rfl) rfl ?_
        refine ln_pv (pv_ff (pv_lss rfl rfl) htag) rfl ?_
        refine ln_pv (pv_move rfl) rfl ?_
        refine ln_gf rfl rfl rfl rfl rfl ?_
        refine ln_gf rfl rfl rfl rfl rfl ?_
        refine ln_gf rfl rfl rfl rfl rfl ?_
        refine ln_pv (pv_pick rfl (fun _ => rfl) (fun _ => rfl)) rfl ?_
        refine ln_pv (pv_move rfl) rfl ?_
        refine ln_gt rfl rfl rfl (pv_fieldAddr (off := 4) (r := 4) Tryz.underlying51 rfl (tiint).size rfl rfl rfl) rfl ?_
        refine ln_gt rfl rfl rfl (pv_ldo (i := 1) rfl Tryz.underlying3 rfl rfl rfl) rfl ?_
        refine ln_gt rfl rfl rfl (pv_tt (pv_geq rfl rfl) (by omega)) rfl ?_
        refine ln_gt rfl rfl rfl (pv_move rfl) rfl ?_
        refine ln_gt rfl rfl rfl (pv_move rfl) rfl ?_
        refine ln_gt rfl rfl rfl (pv_pick rfl (fun _ => rfl) (fun _ => rfl)) rfl ?_
        refine ln_gt rfl rfl rfl (pv_move rfl) rfl ?_
        refine ln_gf rfl rfl rfl rfl rfl ?_
        refine ln_gf rfl rfl rfl rfl rfl ?_
        refine ln_gf rfl rfl rfl rfl rfl ?_
        refine ln_gf rfl rfl rfl rfl rfl ?_
        refine ln_gt rfl rfl rfl (pv_pick rfl (fun _ => rfl) (fun _ => rfl)) rfl ?_
        refine ln_pv (pv_pick rfl (fun _ => rfl) (fun _ => rfl)) rfl ?_
        refine ln_cd ?_
        refine cd_ff rfl ?_
        refine cd_skip ?_
        refine at_cd ?_
        refine cd_dr2 [0, 1, 2, 3] [0, 2, 3, 4, 5, 6, 8, 10] [0, 2, 3, 4, 5, 6] 1 7 [7, 8, 9, 10] [8, 1, 9, 10] mixed (by kernel_rfl) ?_
        refine lo_pv rfl rfl (sk_js (Tr.refl _) [0, 1, 2, 3] rfl) (pv_ldO (i := 1) rfl Tryz.underlying51 rfl (tispec_Field).size rfl rfl) rfl ?_
        refine lo_pv rfl rfl (sk_js (Tr.refl _) [0, 1, 2, 3] rfl) (pv_fieldAddr (off := 3) (r := 3) Tryz.underlying26 rfl (tiSl_spec_Tree).size rfl rfl rfl) rfl ?_
        refine lo_pv rfl rfl (sk_js (Tr.refl _) [0, 1, 2, 3] rfl) (pv_ldo (i := 2) rfl Tryz.underlying23 rfl rfl rfl) rfl ?_
        refine lo_pv rfl rfl (sk_js (Tr.refl _) [0, 1, 2, 3] rfl) (pv_move rfl) rfl ?_
        refine lo_pv rfl rfl (sk_js (Tr.refl _) [0, 1, 2, 3] rfl) (pv_ixN Tryz.underlying23 tispec_Tree.size rfl rfl hig) rfl ?_
        refine lo_pv rfl rfl (sk_js (Tr.refl _) [0, 1, 2, 3] rfl) (pv_ldR hsubgn.2 Tryz.underlying26 rfl tispec_Tree.size rfl hrg.len) rfl ?_
        refine lo_nil (at_two ?_ ?_)
        · skip
          refine lo_eff rfl rfl ?_
          refine ln_lit (vs := [_]) Tryz.underlying29 tispec_Field rfl (by decide) rfl rfl rfl rfl rfl rfl (fun bA => ?_)
          refine ln_free1 (fun q h => h.elim) (fun sA htA hKA => ?_)
          have hFA : RS sA 8 (.slice (some ⟨bA, 0, none⟩) 1 1) 1 [.int .i64 fs[i].kind, .int .i64 fs[i].frm, .int .i64 fs[i].to, .int .i64 fs[i].nul, .int .i64 fs[i].tag, .int .i64 fs[i].dflt, .int .i64 fs[i].of_, svf] := ob_rs hKA rfl (by simp [RS.one hVf2])
          have hVf := hVf.mv htA
          have hFf := hFf.mv htA
          have hx := hx.mv htA
          have hU1 := hU1.mv htA
          have hUs := hUs.mv htA
          have hy := hy.mv htA
          have hgL := hgL.mv htA
          have hgLs := hgLs.mv htA
          have hgU1 := hgU1.mv htA
          have hgUs := hgUs.mv htA
          have hr := hr.mv htA
          have hVf2 := hVf2.mv htA
          have hFf2 := hFf2.mv htA
          have hrg := hrg.mv htA
          have hsubgn := hsubgn.mv htA
          have hds1 := hds1.mv htA
          refine lo_back (sk_js htA [0, 1, 2, 3] rfl) ?_
          refine lo_eff rfl rfl ?_
          refine ln_lit (vs := [_]) Tryz.underlying23 tispec_Tree rfl (by decide) rfl rfl rfl (by simp [partsOk, Value.cells, hrg.len]; try exact .inl rfl) rfl rfl (fun bB => ?_)
          refine ln_free1 (fun q h => h.elim) (fun sB htB hKB => ?_)
          have hKB : Known sB (Ent.obj bB (.cells d2.toArray 26)) := by simpa [flat, Value.cells] using hKB
          have hKB : OB sB bB (.cells d2.toArray 26) := hKB
          have hTB : RS sB 5 (.slice (some ⟨bB, 0, none⟩) 1 1) 1 d2 := ob_rs hKB (by rw [hrg.len]) hrg.cells
          have hVf := hVf.mv htB
          have hFf := hFf.mv htB
          have hx := hx.mv htB
          have hU1 := hU1.mv htB
          have hUs := hUs.mv htB
          have hy := hy.mv htB
          have hgL := hgL.mv htB
          have hgLs := hgLs.mv htB
          have hgU1 := hgU1.mv htB
          have hgUs := hgUs.mv htB
          have hr := hr.mv htB
          have hVf2 := hVf2.mv htB
          have hFf2 := hFf2.mv htB
          have hrg := hrg.mv htB
          have hsubgn := hsubgn.mv htB
          have hds1 := hds1.mv htB
          have hFA := hFA.mv htB
          refine lo_back (sk_js (htA.trans htB) [0, 1, 2, 3] rfl) ?_
          refine lo_pv rfl rfl (sk_js (htA.trans htB) [0, 1, 2, 3] rfl) (pv_struct [(0, 1), (1, 1), (2, 1), (3, 1), (4, 1)] (l := [_, _, _, _, _]) rfl Tryz.underlying26 tispec_Tree (by kernel_rfl) rfl (by simp [okL, Nat.ble_eq, Value.cells, (RS.one hTB)])) rfl ?_
          refine lo_eff rfl rfl ?_
          refine ln_callS en_61 rfl (fun u hu => spec_Usual [fs[i]] (by simp [nkFs, nkFs.mem hnk _ (List.getElem_mem hi)]) (by simp [okFs, okFs.mem hok _ (List.getElem_mem hi)]) (by simp) u _ _ _ (.mk 0 [] false [y.at_ i] []) (RS.mv hFA hu) (RFs_one (RF.mv hr hu)) (RT_l1 (RS.mv hTB hu) (RT.mv hrg hu)) (smT_l1 (hsy.at_ i)) rfl (usL_l1 hfld)) rfl ?_
          refine lo_back (sk_js (htA.trans htB) [0, 1, 2, 3] rfl) ?_
          refine lo_pv rfl rfl (sk_js (htA.trans htB) [0, 1, 2, 3] rfl) (pv_not rfl) rfl ?_
          refine lo_cd ?_
          refine cd_ff rfl ?_
          refine cd_skip ?_
          refine at_cd ?_
          refine cd_region ?_
          refine ln_pv (pv_add' rfl rfl (wrap_succ (by omega))) rfl ?_
          refine ln_pv (pv_move rfl) rfl ?_
          refine ln_nil ?_
          refine at_rnd (i + 1) (((hl1.trans ht1).trans htA).trans htB) ?_ ?_ ⟨rfl, rfl, rfl, rfl, rfl, rfl, rfl, rfl,  trivial⟩ (.cons _ (.cons _ (.cons_cons _ (.cons_cons _ .slnil))))
          · intro s9 hs9
            show i + 1 ≤ _
            omega
          · dsimp only; omega
        · skip
          refine lo_eff rfl rfl ?_
          refine ln_lit (vs := [_]) Tryz.underlying23 tispec_Tree rfl (by decide) rfl rfl rfl (by simp [partsOk, Value.cells, hrg.len]; try exact .inl rfl) rfl rfl (fun bB => ?_)
          refine ln_free1 (fun q h => h.elim) (fun sB htB hKB => ?_)
          have hKB : Known sB (Ent.obj bB (.cells d2.toArray 26)) := by simpa [flat, Value.cells] using hKB
          have hKB : OB sB bB (.cells d2.toArray 26) := hKB
          have hTB : RS sB 5 (.slice (some ⟨bB, 0, none⟩) 1 1) 1 d2 := ob_rs hKB (by rw [hrg.len]) hrg.cells
          have hVf := hVf.mv htB
          have hFf := hFf.mv htB
          have hx := hx.mv htB
          have hU1 := hU1.mv htB
          have hUs := hUs.mv htB
          have hy := hy.mv htB
          have hgL := hgL.mv htB
          have hgLs := hgLs.mv htB
          have hgU1 := hgU1.mv htB
          have hgUs := hgUs.mv htB
          have hr := hr.mv htB
          have hVf2 := hVf2.mv htB
          have hFf2 := hFf2.mv htB
          have hrg := hrg.mv htB
          have hsubgn := hsubgn.mv htB
          have hds1 := hds1.mv htB
          refine lo_back (sk_js htB [0, 1, 2, 3] rfl) ?_
          refine lo_pv rfl rfl (sk_js htB [0, 1, 2, 3] rfl) (pv_struct [(0, 1), (1, 1), (2, 1), (3, 1), (4, 1)] (l := [_, _, _, _, _]) rfl Tryz.underlying26 tispec_Tree (by kernel_rfl) rfl (by simp [okL, Nat.ble_eq, Value.cells, (RS.one hTB)])) rfl ?_
          refine lo_eff rfl rfl ?_
          refine ln_lit (vs := [_]) Tryz.underlying29 tispec_Field rfl (by decide) rfl rfl rfl rfl rfl rfl (fun bA => ?_)
          refine ln_free1 (fun q h => h.elim) (fun sA htA hKA => ?_)
          have hFA : RS sA 8 (.slice (some ⟨bA, 0, none⟩) 1 1) 1 [.int .i64 fs[i].kind, .int .i64 fs[i].frm, .int .i64 fs[i].to, .int .i64 fs[i].nul, .int .i64 fs[i].tag, .int .i64 fs[i].dflt, .int .i64 fs[i].of_, svf] := ob_rs hKA rfl (by simp [RS.one hVf2])
          have hVf := hVf.mv htA
          have hFf := hFf.mv htA
          have hx := hx.mv htA
          have hU1 := hU1.mv htA
          have hUs := hUs.mv htA
          have hy := hy.mv htA
          have hgL := hgL.mv htA
          have hgLs := hgLs.mv htA
          have hgU1 := hgU1.mv htA
          have hgUs := hgUs.mv htA
          have hr := hr.mv htA
          have hVf2 := hVf2.mv htA
          have hFf2 := hFf2.mv htA
          have hrg := hrg.mv htA
          have hsubgn := hsubgn.mv htA
          have hds1 := hds1.mv htA
          have hTB := hTB.mv htA
          refine lo_back (sk_js (htB.trans htA) [0, 1, 2, 3] rfl) ?_
          refine lo_eff rfl rfl ?_
          refine ln_callS en_61 rfl (fun u hu => spec_Usual [fs[i]] (by simp [nkFs, nkFs.mem hnk _ (List.getElem_mem hi)]) (by simp [okFs, okFs.mem hok _ (List.getElem_mem hi)]) (by simp) u _ _ _ (.mk 0 [] false [y.at_ i] []) (RS.mv hFA hu) (RFs_one (RF.mv hr hu)) (RT_l1 (RS.mv hTB hu) (RT.mv hrg hu)) (smT_l1 (hsy.at_ i)) rfl (usL_l1 hfld)) rfl ?_
          refine lo_back (sk_js (htB.trans htA) [0, 1, 2, 3] rfl) ?_
          refine lo_pv rfl rfl (sk_js (htB.trans htA) [0, 1, 2, 3] rfl) (pv_not rfl) rfl ?_
          refine lo_cd ?_
          refine cd_ff rfl ?_
          refine cd_skip ?_
          refine at_cd ?_
          refine cd_region ?_
          refine ln_pv (pv_add' rfl rfl (wrap_succ (by omega))) rfl ?_
          refine ln_pv (pv_move rfl) rfl ?_
          refine ln_nil ?_
          refine at_rnd (i + 1) (((hl1.trans ht1).trans htB).trans htA) ?_ ?_ ⟨rfl, rfl, rfl, rfl, rfl, rfl, rfl, rfl,  trivial⟩ (.cons _ (.cons _ (.cons_cons _ (.cons_cons _ .slnil))))
          · intro s9 hs9
            show i + 1 ≤ _
            omega
          · dsimp only; omega
      · skip
        have hfld := toL_get hto.2.1 i hi
        rw [Nat.zero_add, if_neg (by simp [hereB, htag, hus])] at hfld
        refine cd_sr ?_
        refine ln_pv (pv_fieldAddr (off := 4) (r := 4) Tryz.underlying51 rfl (tiint).size rfl rfl rfl) rfl ?_
        refine ln_pv (pv_ldo (i := 1) rfl Tryz.underlying3 rfl rfl rfl) rfl ?_
        refine ln_pv (pv_ff (pv_lss rfl rfl) htag) rfl ?_
        refine ln_pv (pv_move rfl) rfl ?_
        refine ln_gf rfl rfl rfl rfl rfl ?_
        refine ln_gf rfl rfl rfl rfl rfl ?_
        refine ln_gf rfl rfl rfl rfl rfl ?_
        refine ln_pv (pv_pick rfl (fun _ => rfl) (fun _ => rfl)) rfl ?_
        refine ln_pv (pv_move rfl) rfl ?_
        refine ln_gt rfl rfl rfl (pv_fieldAddr (off := 4) (r := 4) Tryz.underlying51 rfl (tiint).size rfl rfl rfl) rfl ?_
        refine ln_gt rfl rfl rfl (pv_ldo (i := 1) rfl Tryz.underlying3 rfl rfl rfl) rfl ?_
        refine ln_gt rfl rfl rfl (pv_tt (pv_geq rfl rfl) (by omega)) rfl ?_
        refine ln_gt rfl rfl rfl (pv_move rfl) rfl ?_
        refine ln_gt rfl rfl rfl (pv_move rfl) rfl ?_
        refine ln_gt rfl rfl rfl (pv_pick rfl (fun _ => rfl) (fun _ => rfl)) rfl ?_
        refine ln_gt rfl rfl rfl (pv_move rfl) rfl ?_
        refine ln_gf rfl rfl rfl rfl rfl ?_
        refine ln_gf rfl rfl rfl rfl rfl ?_
        refine ln_gf rfl rfl rfl rfl rfl ?_
        refine ln_gf rfl rfl rfl rfl rfl ?_
        refine ln_gt rfl rfl rfl (pv_pick rfl (fun _ => rfl) (fun _ => rfl)) rfl ?_
        refine ln_pv (pv_pick rfl (fun _ => rfl) (fun _ => rfl)) rfl ?_
        refine ln_cd ?_
        refine cd_ff rfl ?_
        refine cd_skip ?_
        refine at_cd ?_
        refine cd_dr2 [0, 1, 2, 3] [0, 2, 3, 4, 5, 6, 8, 10] [0, 2, 3, 4, 5, 6] 1 7 [7, 8, 9, 10] [8, 1, 9, 10] mixed (by kernel_rfl) ?_
        refine lo_pv rfl rfl (sk_js (Tr.refl _) [0, 1, 2, 3] rfl) (pv_ldO (i := 1) rfl Tryz.underlying51 rfl (tispec_Field).size rfl rfl) rfl ?_
        refine lo_pv rfl rfl (sk_js (Tr.refl _) [0, 1, 2, 3] rfl) (pv_fieldAddr (off := 3) (r := 3) Tryz.underlying26 rfl (tiSl_spec_Tree).size rfl rfl rfl) rfl ?_
        refine lo_pv rfl rfl (sk_js (Tr.refl _) [0, 1, 2, 3] rfl) (pv_ldo (i := 2) rfl Tryz.underlying23 rfl rfl rfl) rfl ?_
        refine lo_pv rfl rfl (sk_js (Tr.refl _) [0, 1, 2, 3] rfl) (pv_move rfl) rfl ?_
        refine lo_pv rfl rfl (sk_js (Tr.refl _) [0, 1, 2, 3] rfl) (pv_ixN Tryz.underlying23 tispec_Tree.size rfl rfl hig) rfl ?_
        refine lo_pv rfl rfl (sk_js (Tr.refl _) [0, 1, 2, 3] rfl) (pv_ldR hsubgn.2 Tryz.underlying26 rfl tispec_Tree.size rfl hrg.len) rfl ?_
        refine lo_nil (at_two ?_ ?_)
        · skip
          refine lo_eff rfl rfl ?_
          refine ln_lit (vs := [_]) Tryz.underlying29 tispec_Field rfl (by decide) rfl rfl rfl rfl rfl rfl (fun bA => ?_)
          refine ln_free1 (fun q h => h.elim) (fun sA htA hKA => ?_)
          have hFA : RS sA 8 (.slice (some ⟨bA, 0, none⟩) 1 1) 1 [.int .i64 fs[i].kind, .int .i64 fs[i].frm, .int .i64 fs[i].to, .int .i64 fs[i].nul, .int .i64 fs[i].tag, .int .i64 fs[i].dflt, .int .i64 fs[i].of_, svf] := ob_rs hKA rfl (by simp [RS.one hVf2])
          have hVf := hVf.mv htA
          have hFf := hFf.mv htA
          have hx := hx.mv htA
          have hU1 := hU1.mv htA
          have hUs := hUs.mv htA
          have hy := hy.mv htA
          have hgL := hgL.mv htA
          have hgLs := hgLs.mv htA
          have hgU1 := hgU1.mv htA
          have hgUs := hgUs.mv htA
          have hr := hr.mv htA
          have hVf2 := hVf2.mv htA
          have hFf2 := hFf2.mv htA
          have hrg := hrg.mv htA
          have hsubgn := hsubgn.mv htA
          have hds1 := hds1.mv htA
          refine lo_back (sk_js htA [0, 1, 2, 3] rfl) ?_
          refine lo_eff rfl rfl ?_
          refine ln_lit (vs := [_]) Tryz.underlying23 tispec_Tree rfl (by decide) rfl rfl rfl (by simp [partsOk, Value.cells, hrg.len]; try exact .inl rfl) rfl rfl (fun bB => ?_)
          refine ln_free1 (fun q h => h.elim) (fun sB htB hKB => ?_)
          have hKB : Known sB (Ent.obj bB (.cells d2.toArray 26)) := by simpa [flat, Value.cells] using hKB
          have hKB : OB sB bB (.cells d2.toArray 26) := hKB
          have hTB : RS sB 5 (.slice (some ⟨bB, 0, none⟩) 1 1) 1 d2 := ob_rs hKB (by rw [hrg.len]) hrg.cells
          have hVf := hVf.mv htB
          have hFf := hFf.mv htB
          have hx := hx.mv htB
          have hU1 := hU1.mv htB
          have hUs := hUs.mv htB
          have hy := hy.mv htB
          have hgL := hgL.mv htB
          have hgLs := hgLs.mv htB
          have hgU1 := hgU1.mv htB
          have hgUs := hgUs.mv htB
          have hr := hr.mv htB
          have hVf2 := hVf2.mv htB
          have hFf2 := hFf2.mv htB
          have hrg := hrg.mv htB
          have hsubgn := hsubgn.mv htB
          have hds1 := hds1.mv htB
          have hFA := hFA.mv htB
          refine lo_back (sk_js (htA.trans htB) [0, 1, 2, 3] rfl) ?_
          refine lo_pv rfl rfl (sk_js (htA.trans htB) [0, 1, 2, 3] rfl) (pv_struct [(0, 1), (1, 1), (2, 1), (3, 1), (4, 1)] (l := [_, _, _, _, _]) rfl Tryz.underlying26 tispec_Tree (by kernel_rfl) rfl (by simp [okL, Nat.ble_eq, Value.cells, (RS.one hTB)])) rfl ?_
          refine lo_eff rfl rfl ?_
          refine ln_callS en_61 rfl (fun u hu => spec_Usual [fs[i]] (by simp [nkFs, nkFs.mem hnk _ (List.getElem_mem hi)]) (by simp [okFs, okFs.mem hok _ (List.getElem_mem hi)]) (by simp) u _ _ _ (.mk 0 [] false [y.at_ i] []) (RS.mv hFA hu) (RFs_one (RF.mv hr hu)) (RT_l1 (RS.mv hTB hu) (RT.mv hrg hu)) (smT_l1 (hsy.at_ i)) rfl (usL_l1 hfld)) rfl ?_
          refine lo_back (sk_js (htA.trans htB) [0, 1, 2, 3] rfl) ?_
          refine lo_pv rfl rfl (sk_js (htA.trans htB) [0, 1, 2, 3] rfl) (pv_not rfl) rfl ?_
          refine lo_cd ?_
          refine cd_ff rfl ?_
          refine cd_skip ?_
          refine at_cd ?_
          refine cd_region ?_
          refine ln_pv (pv_add' rfl rfl (wrap_succ (by omega))) rfl ?_
          refine ln_pv (pv_move rfl) rfl ?_
          refine ln_nil ?_
          refine at_rnd (i + 1) (((hl1.trans ht1).trans htA).trans htB) ?_ ?_ ⟨rfl, rfl, rfl, rfl, rfl, rfl, rfl, rfl,  trivial⟩ (.cons _ (.cons _ (.cons_cons _ (.cons_cons _ .slnil))))
          · intro s9 hs9
            show i + 1 ≤ _
            omega
          · dsimp only; omega
        · skip
          refine lo_eff rfl rfl ?_
          refine ln_lit (vs := [_]) Tryz.underlying23 tispec_Tree rfl (by decide) rfl rfl rfl (by simp [partsOk, Value.cells, hrg.len]; try exact .inl rfl) rfl rfl (fun bB => ?_)
          refine ln_free1 (fun q h => h.elim) (fun sB htB hKB => ?_)
          have hKB : Known sB (Ent.obj bB (.cells d2.toArray 26)) := by simpa [flat, Value.cells] using hKB
          have hKB : OB sB bB (.cells d2.toArray 26) := hKB
          have hTB : RS sB 5 (.slice (some ⟨bB, 0, none⟩) 1 1) 1 d2 := ob_rs hKB (by rw [hrg.len]) hrg.cells
          have hVf := hVf.mv htB
          have hFf := hFf.mv htB
          have hx := hx.mv htB
          have hU1 := hU1.mv htB
          have hUs := hUs.mv htB
          have hy := hy.mv htB
          have hgL := hgL.mv htB
          have hgLs := hgLs.mv htB
          have hgU1 := hgU1.mv htB
          have hgUs := hgUs.mv htB
          have hr := hr.mv htB
          have hVf2 := hVf2.mv htB
          have hFf2 := hFf2.mv htB
          have hrg := hrg.mv htB
          have hsubgn := hsubgn.mv htB
          have hds1 := hds1.mv htB
          refine lo_back (sk_js htB [0, 1, 2, 3] rfl) ?_
          refine lo_pv rfl rfl (sk_js htB [0, 1, 2, 3] rfl) (pv_struct [(0, 1), (1, 1), (2, 1), (3, 1), (4, 1)] (l := [_, _, _, _, _]) rfl Tryz.underlying26 tispec_Tree (by kernel_rfl) rfl (by simp [okL, Nat.ble_eq, Value.cells, (RS.one hTB)])) rfl ?_
          refine lo_eff rfl rfl ?_
          refine ln_lit (vs := [_]) Tryz.underlying29 tispec_Field rfl (by decide) rfl rfl rfl rfl rfl rfl (fun bA => ?_)
          refine ln_free1 (fun q h => h.elim) (fun sA htA hKA => ?_)
          have hFA : RS sA 8 (.slice (some ⟨bA, 0, none⟩) 1 1) 1 [.int .i64 fs[i].kind, .int .i64 fs[i].frm, .int .i64 fs[i].to, .int .i64 fs[i].nul, .int .i64 fs[i].tag, .int .i64 fs[i].dflt, .int .i64 fs[i].of_, svf] := ob_rs hKA rfl (by simp [RS.one hVf2])
          have hVf := hVf.mv htA
          have hFf := hFf.mv htA
          have hx := hx.mv htA
          have hU1 := hU1.mv htA
          have hUs := hUs.mv htA
          have hy := hy.mv htA
          have hgL := hgL.mv htA
          have hgLs := hgLs.mv htA
          have hgU1 := hgU1.mv htA
          have hgUs := hgUs.mv htA
          have hr := hr.mv htA
          have hVf2 := hVf2.mv htA
          have hFf2 := hFf2.mv htA
          have hrg := hrg.mv htA
          have hsubgn := hsubgn.mv htA
          have hds1 := hds1.mv htA
          have hTB := hTB.mv htA
          refine lo_back (sk_js (htB.trans htA) [0, 1, 2, 3] rfl) ?_
          refine lo_eff rfl rfl ?_
          refine ln_callS en_61 rfl (fun u hu => spec_Usual [fs[i]] (by simp [nkFs, nkFs.mem hnk _ (List.getElem_mem hi)]) (by simp [okFs, okFs.mem hok _ (List.getElem_mem hi)]) (by simp) u _ _ _ (.mk 0 [] false [y.at_ i] []) (RS.mv hFA hu) (RFs_one (RF.mv hr hu)) (RT_l1 (RS.mv hTB hu) (RT.mv hrg hu)) (smT_l1 (hsy.at_ i)) rfl (usL_l1 hfld)) rfl ?_
          refine lo_back (sk_js (htB.trans htA) [0, 1, 2, 3] rfl) ?_
          refine lo_pv rfl rfl (sk_js (htB.trans htA) [0, 1, 2, 3] rfl) (pv_not rfl) rfl ?_
          refine lo_cd ?_
          refine cd_ff rfl ?_
          refine cd_skip ?_
          refine at_cd ?_
          refine cd_region ?_
          refine ln_pv (pv_add' rfl rfl (wrap_succ (by omega))) rfl ?_
          refine ln_pv (pv_move rfl) rfl ?_
          refine ln_nil ?_
          refine at_rnd (i + 1) (((hl1.trans ht1).trans htB).trans htA) ?_ ?_ ⟨rfl, rfl, rfl, rfl, rfl, rfl, rfl, rfl,  trivial⟩ (.cons _ (.cons _ (.cons_cons _ (.cons_cons _ .slnil))))
          · intro s9 hs9
            show i + 1 ≤ _
            omega
          · dsimp only; omega
    · -- no
      refine cd_exit rfl ?_
      refine at_cd ?_
      refine cd_sr ?_
      refine ln_pv (pv_move rfl) rfl ?_
      refine ln_pv (pv_fieldAddr (off := 4) (r := 4) Tryz.underlying26 rfl (tiSl_spec_Tag).size rfl rfl rfl) rfl ?_
      refine ln_pv (pv_ldo (i := 1) rfl Tryz.underlying24 rfl rfl rfl) rfl ?_
      refine ln_callA en_62 rfl (fun u hu => spec_unknown u _ _ fs lcf uc x.u (RS.mv hVf hu) (RFs.mv hFf hu) hT (by omega) (RS.mv hU1 hu) (RUs.mv hu hUs)) rfl (fun u2 v2 ht2 hR2 => ?_)
      have hVf := hVf.mv ht2
      have hFf := hFf.mv ht2
      have hx := hx.mv ht2
      have hU1 := hU1.mv ht2
      have hUs := hUs.mv ht2
      have hy := hy.mv ht2
      have hgL := hgL.mv ht2
      have hgLs := hgLs.mv ht2
      have hgU1 := hgU1.mv ht2
      have hgUs := hgUs.mv ht2
      obtain ⟨uq, hq, hqs⟩ := hR2
      obtain ⟨adq, cq, rfl, hleq⟩ := hq.shape
      refine ln_pv (pv_assign rfl) rfl ?_
      refine ln_cd ?_
      refine cd_seq ?_
      refine cd_sr ?_
      refine ln_pv (pv_move rfl) rfl ?_
      refine ln_pv (pv_not rfl) rfl ?_
      refine ln_cd ?_
      refine cd_tt rfl ?_
      refine cd_region ?_
      refine ln_pv (pv_assign rfl) rfl ?_
      refine ln_nil ?_
      refine at_cd ?_
      refine cd_seq ?_
      refine cd_sr ?_
      refine ln_pv (pv_fieldAddr (off := 4) (r := 4) Tryz.underlying26 rfl (tiSl_spec_Tag).size rfl rfl rfl) rfl ?_
      refine ln_pv (pv_ldo (i := 0) rfl Tryz.underlying24 rfl rfl rfl) rfl ?_
      refine ln_pv (pv_len_slice Tryz.underlying24 rfl) rfl ?_
      refine ln_pv (pv_move rfl) rfl ?_
      refine ln_pv (pv_len_slice Tryz.underlying24 rfl) rfl ?_
      refine ln_pv (pv_ff (pv_neq rfl rfl) (fun q => q (by rw [hyu]; rfl))) rfl ?_
      refine ln_cd ?_
      refine cd_ff rfl ?_
      refine cd_skip ?_
      refine at_cd ?_
      refine cd_seq ?_
      refine cd_sr ?_
      refine ln_pv (pv_move rfl) rfl ?_
      refine ln_pv (pv_len_slice Tryz.underlying24 rfl) rfl ?_
      refine ln_pv (pv_move rfl) rfl ?_
      refine ln_cd ?_
      refine cd_block ?_
      refine cd_loop (⟨fun (z : Nat) => [(9, .pointer (some ⟨b2, 0, none⟩)), (90, .slice none 0 0), (91, .int .i64 0), (92, .int .i64 ((z : Nat) : Int))], fun (z : Nat) => [.obj b2 (.cells [.int .i64 y.n, .slice agS y.s.length cgS, .bool y.z, .slice agL y.l.length cgL, .slice agU y.u.length cgU].toArray 26)], fun (z : Nat) s => z ≤ 0, fun (z : Nat) => 0 - z⟩ : Lp (Nat)) 0 ?_ ?_ ?_ ?_
      · intro s0 hs0
        exact Nat.zero_le _
      · exact ⟨rfl, rfl, rfl, rfl,  trivial⟩
      · exact (.cons_cons _ (.cons _ .slnil))
      intro j s2 hl2 hI
      dsimp only at hI ⊢
      have hVf := hVf.mv hl2
      have hFf := hFf.mv hl2
      have hx := hx.mv hl2
      have hU1 := hU1.mv hl2
      have hUs := hUs.mv hl2
      have hy := hy.mv hl2
      have hgL := hgL.mv hl2
      have hgLs := hgLs.mv hl2
      have hgU1 := hgU1.mv hl2
      have hgUs := hgUs.mv hl2
      have hq := hq.mv hl2
      have hqs := hqs.mv hl2
      refine cd_sr ?_
      refine ln_pv (pv_lss rfl rfl) rfl ?_
      refine ln_cd ?_
      refine cd_seq ?_
      refine cd_if rfl (fun hc5 => ?_) (fun hc5 => ?_)
      · -- yes
        refine cd_skip ?_
        refine at_cd ?_
        refine cd_seq ?_
        refine cd_block ?_
        exact absurd hc5 (by omega)
      · -- no
        refine cd_exit rfl ?_
        refine at_cd ?_
        refine cd_sr ?_
        refine ln_pv (pv_assign rfl) rfl ?_
        refine ln_cd ?_
        refine cd_ret ?_
        refine at_retA rfl rfl (fun w hS => ?_)
        rfl
  | true =>
    have hyu : y.u = (unkn (known fs) x.u).map cut := hto.2.2
    refine cd_sr ?_
    refine ln_box rfl rfl rfl (fun b1 => ?_)
    refine ln_box rfl rfl rfl (fun b2 => ?_)
    refine ln_pv (pv_assign rfl) rfl ?_
    refine ln_cd ?_
    refine cd_seq ?_
    refine cd_sr ?_
    refine ln_pv (pv_fieldAddr (off := 3) (r := 3) Tryz.underlying26 rfl (tiSl_spec_Tree).size rfl rfl rfl) rfl ?_
    refine ln_pv (pv_ldo (i := 0) rfl Tryz.underlying23 rfl rfl rfl) rfl ?_
    refine ln_pv (pv_len_slice Tryz.underlying23 rfl) rfl ?_
    refine ln_pv (pv_move rfl) rfl ?_
    refine ln_pv (pv_len_slice Tryz.underlying29 rfl) rfl ?_
    refine ln_pv (pv_ff (pv_neq rfl rfl) (fun q => q (by rw [hto.1]))) rfl ?_
    refine ln_cd ?_
    refine cd_ff rfl ?_
    refine cd_skip ?_
    refine at_cd ?_
    refine cd_seq ?_
    refine cd_sr ?_
    refine ln_pv (pv_move rfl) rfl ?_
    refine ln_pv (pv_len_slice Tryz.underlying29 rfl) rfl ?_
    refine ln_pv (pv_move rfl) rfl ?_
    refine ln_cd ?_
    refine cd_block ?_
    refine cd_loop (⟨fun (z : Nat) => [(0, .slice adf fs.length cf), (1, .int .i64 v), (2, .bool true), (8, .pointer (some ⟨b1, 0, none⟩)), (9, .pointer (some ⟨b2, 0, none⟩)), (23, .slice adf fs.length cf), (24, .int .i64 (fs.length : Int)), (25, .int .i64 ((z : Nat) : Int))], fun (z : Nat) => [.obj b2 (.cells [.int .i64 y.n, .slice agS y.s.length cgS, .bool y.z, .slice agL y.l.length cgL, .slice agU y.u.length cgU].toArray 26), .obj b1 (.cells [.int .i64 x.n, .slice adS x.s.length cS, .bool x.z, .slice adL x.l.length cL, .slice adU x.u.length cU].toArray 26)], fun (z : Nat) s => z ≤ fs.length, fun (z : Nat) => fs.length - z⟩ : Lp (Nat)) 0 ?_ ?_ ?_ ?_
    · intro s0 hs0
      exact Nat.zero_le _
    · exact ⟨rfl, rfl, rfl, rfl, rfl, rfl, rfl, rfl,  trivial⟩
    · exact (.cons_cons _ (.cons_cons _ .slnil))
    intro i s1 hl1 hI
    dsimp only at hI ⊢
    have hVf := hVf.mv hl1
    have hFf := hFf.mv hl1
    have hx := hx.mv hl1
    have hU1 := hU1.mv hl1
    have hUs := hUs.mv hl1
    have hy := hy.mv hl1
    have hgL := hgL.mv hl1
    have hgLs := hgLs.mv hl1
    have hgU1 := hgU1.mv hl1
    have hgUs := hgUs.mv hl1
    refine cd_sr ?_
    refine ln_pv (pv_lss rfl rfl) rfl ?_
    refine ln_cd ?_
    refine cd_seq ?_
    refine cd_if rfl (fun hc2 => ?_) (fun hc2 => ?_)
    · -- yes
      refine cd_skip ?_
      refine at_cd ?_
      refine cd_seq ?_
      refine cd_block ?_
      have hi : i < fs.length := by omega
      obtain ⟨b0, o0, rfl, hrc⟩ := hVf.pos (by omega) (by decide)
      obtain ⟨c1, c2, c3, he, hk, hr⟩ := RFs.at_ hi hFf
      have hsub := hrc.sub (i * 8) he hk
      obtain ⟨svf, rfl, lf2, hVf2, hFf2⟩ := hr.open
      have hig : i < y.l.length := by omega
      obtain ⟨b5, o5, rfl, hrcg⟩ := hgL.pos (by omega) (by decide)
      obtain ⟨d1, d2, d3, heg, hkg, hrg⟩ := RTs.at_ hig hgLs
      have hsubgn : RCn _ b5 (o5 + i * 5) d2 := ⟨fun hn => by have h5 := hrg.len; rw [hn] at h5; simp at h5, hrcg.sub (i * 5) heg hkg⟩
      rw [← show y.at_ i = y.l[i] by simp [Tre.at_, hig]] at hrg
      refine cd_sr ?_
      refine ln_pv (pv_move rfl) rfl ?_
      refine ln_pv (pv_ixN Tryz.underlying29 tispec_Field.size rfl rfl hi) rfl ?_
      refine ln_pv (pv_ldR hsub Tryz.underlying51 rfl tispec_Field.size rfl rfl) rfl ?_
      refine ln_alloc tispec_Field rfl rfl (fun b3 => ?_)
      refine ln_pv (pv_assign rfl) rfl ?_
      refine ln_storeW (i := 0) rfl rfl rfl rfl (tispec_Field).size rfl (by simp [(RS.one hVf2)]) ?_
      refine ln_cd ?_
      refine cd_sr ?_
      refine ln_pv (pv_ldO (i := 2) rfl Tryz.underlying26 rfl (tispec_Tree).size rfl rfl) rfl ?_
      refine ln_pv (pv_move rfl) rfl ?_
      refine ln_callA en_57 rfl (fun u hu => spec_at u x _ i (RT.mv hx hu)) rfl (fun u1 v1 ht1 hR1 => ?_)
      have hVf := hVf.mv ht1
      have hFf := hFf.mv ht1
      have hx := hx.mv ht1
      have hU1 := hU1.mv ht1
      have hUs := hUs.mv ht1
      have hy := hy.mv ht1
      have hgL := hgL.mv ht1
      have hgLs := hgLs.mv ht1
      have hgU1 := hgU1.mv ht1
      have hgUs := hgUs.mv ht1
      have hr := hr.mv ht1
      have hVf2 := hVf2.mv ht1
      have hFf2 := hFf2.mv ht1
      have hrg := hrg.mv ht1
      have hsubgn := hsubgn.mv ht1
      obtain ⟨ds1, rfl, hds1⟩ := hR1
      refine ln_alloc tispec_Tree rfl rfl (fun b4 => ?_)
      refine ln_storeW (i := 0) rfl rfl rfl rfl (tispec_Tree).size hds1.len hds1.cells ?_
      refine ln_cd ?_
      refine cd_seq ?_
      rcases hcase fs[i] v (x.at_ i) with ⟨htag, hhas⟩ | ⟨htag, hhas⟩ | ⟨htag, hus⟩ | ⟨htag, hus⟩
      · skip
        have hfld := toL_get hto.2.1 i hi
        rw [Nat.zero_add, if_pos (by simp [hereB, htag, hhas])] at hfld
        refine cd_sr ?_
        refine ln_pv (pv_fieldAddr (off := 4) (r := 4) Tryz.underlying51 rfl (tiint).size rfl rfl rfl) rfl ?_
        refine ln_pv (pv_ldo (i := 1) rfl Tryz.underlying3 rfl rfl rfl) rfl ?_
        refine ln_pv (pv_tt (pv_lss rfl rfl) htag) rfl ?_
        refine ln_pv (pv_move rfl) rfl ?_
        refine ln_gt rfl rfl rfl (pv_ldO (i := 1) rfl Tryz.underlying51 rfl (tispec_Field).size rfl rfl) rfl ?_
        refine ln_gt rfl rfl rfl (pv_move rfl) rfl ?_
        refine ln_gE rfl rfl rfl ?_
        refine ln_callS en_58 rfl (fun u hu => by have h := spec_has u fs[i] _ v (RF.mv hr hu); rwa [hhas] at h) rfl ?_
        refine ln_pv (pv_pick rfl (fun _ => rfl) (fun _ => rfl)) rfl ?_
        refine ln_pv (pv_move rfl) rfl ?_
        refine ln_gf rfl rfl rfl rfl rfl ?_
        refine ln_gf rfl rfl rfl rfl rfl ?_
        refine ln_gf rfl rfl rfl rfl rfl ?_
        refine ln_gf rfl rfl rfl rfl rfl ?_
        refine ln_gu rfl rfl rfl rfl ?_
        refine ln_gf rfl rfl rfl rfl rfl ?_
        refine ln_gf rfl rfl rfl rfl rfl ?_
        refine ln_gu rfl rfl rfl rfl ?_
        refine ln_gu rfl rfl rfl rfl ?_
        refine ln_gu rfl rfl rfl rfl ?_
        refine ln_gu rfl rfl rfl rfl ?_
        refine ln_gf rfl rfl rfl rfl rfl ?_
        refine ln_pv (pv_pick rfl (fun _ => rfl) (fun _ => rfl)) rfl ?_
        refine ln_cd ?_
        refine cd_tt rfl ?_
        refine cd_seq ?_
        refine cd_dr' [0, 1, 2, 3] [0, 1, 2, 3, 4, 5, 6, 7, 8, 10] [0, 1, 2, 3, 4, 5, 6, 7, 8, 9, 10] mixed (by kernel_rfl) ?_
        refine lo_pv rfl rfl (sk_js (Tr.refl _) [0, 1, 2, 3] rfl) (pv_ldO (i := 1) rfl Tryz.underlying51 rfl (tispec_Field).size rfl rfl) rfl ?_
        refine lo_pv rfl rfl (sk_js (Tr.refl _) [0, 1, 2, 3] rfl) (pv_move rfl) rfl ?_
        refine lo_pv rfl rfl (sk_js (Tr.refl _) [0, 1, 2, 3] rfl) (pv_move rfl) rfl ?_
        refine lo_pv rfl rfl (sk_js (Tr.refl _) [0, 1, 2, 3] rfl) (pv_ldO (i := 0) rfl Tryz.underlying26 rfl (tispec_Tree).size rfl hds1.len) rfl ?_
        refine lo_pv rfl rfl (sk_js (Tr.refl _) [0, 1, 2, 3] rfl) (pv_fieldAddr (off := 3) (r := 3) Tryz.underlying26 rfl (tiSl_spec_Tree).size rfl rfl rfl) rfl ?_
        refine lo_pv rfl rfl (sk_js (Tr.refl _) [0, 1, 2, 3] rfl) (pv_ldo (i := 2) rfl Tryz.underlying23 rfl rfl rfl) rfl ?_
        refine lo_pv rfl rfl (sk_js (Tr.refl _) [0, 1, 2, 3] rfl) (pv_move rfl) rfl ?_
        refine lo_pv rfl rfl (sk_js (Tr.refl _) [0, 1, 2, 3] rfl) (pv_ixN Tryz.underlying23 tispec_Tree.size rfl rfl hig) rfl ?_
        refine lo_pv rfl rfl (sk_js (Tr.refl _) [0, 1, 2, 3] rfl) (pv_ldR hsubgn.2 Tryz.underlying26 rfl tispec_Tree.size rfl hrg.len) rfl ?_
        refine lo_eff rfl rfl ?_
        refine ln_callS en_60 rfl (fun u hu => hF _ (List.getElem_mem hi) u _ _ _ v _ (x.at_ i) (y.at_ i) (RF.mv hr hu) (RT.mv hds1 hu) (hsm.at_ i) (RT.mv hrg hu) (hsy.at_ i) hfld) rfl ?_
        refine lo_back (sk_js (Tr.refl _) [0, 1, 2, 3] rfl) ?_
        refine lo_pv rfl rfl (sk_js (Tr.refl _) [0, 1, 2, 3] rfl) (pv_not rfl) rfl ?_
        refine lo_cd ?_
        refine cd_ff rfl ?_
        refine cd_skip ?_
        refine at_cd ?_
        refine cd_exit rfl ?_
        refine at_cd ?_
        refine cd_region ?_
        refine ln_pv (pv_add' rfl rfl (wrap_succ (by omega))) rfl ?_
        refine ln_pv (pv_move rfl) rfl ?_
        refine ln_nil ?_
        refine at_rnd (i + 1) (hl1.trans ht1) ?_ ?_ ⟨rfl, rfl, rfl, rfl, rfl, rfl, rfl, rfl,  trivial⟩ (.cons _ (.cons _ (.cons_cons _ (.cons_cons _ .slnil))))
        · intro s9 hs9
          show i + 1 ≤ _
          omega
        · dsimp only; omega
      · skip
        have hfld := toL_get hto.2.1 i hi
        rw [Nat.zero_add, if_neg (by simp [hereB, htag, hhas])] at hfld
        refine cd_sr ?_
        refine ln_pv (pv_fieldAddr (off := 4) (r := 4) Tryz.underlying51 rfl (tiint).size rfl rfl rfl) rfl ?_
        refine ln_pv (pv_ldo (i := 1) rfl Tryz.underlying3 rfl rfl rfl) rfl ?_
        refine ln_pv (pv_tt (pv_lss rfl rfl) htag) rfl ?_
        refine ln_pv (pv_move rfl) rfl ?_
        refine ln_gt rfl rfl rfl (pv_ldO (i := 1) rfl Tryz.underlying51 rfl (tispec_Field).size rfl rfl) rfl ?_
        refine ln_gt rfl rfl rfl (pv_move rfl) rfl ?_
        refine ln_gE rfl rfl rfl ?_
        refine ln_callS en_58 rfl (fun u hu => by have h := spec_has u fs[i] _ v (RF.mv hr hu); rwa [hhas] at h) rfl ?_
        refine ln_pv (pv_pick rfl (fun _ => rfl) (fun _ => rfl)) rfl ?_
        refine ln_pv (pv_move rfl) rfl ?_
        refine ln_gt rfl rfl rfl (pv_fieldAddr (off := 4) (r := 4) Tryz.underlying51 rfl (tiint).size rfl rfl rfl) rfl ?_
        refine ln_gt rfl rfl rfl (pv_ldo (i := 1) rfl Tryz.underlying3 rfl rfl rfl) rfl ?_
        refine ln_gt rfl rfl rfl (pv_ff (pv_geq rfl rfl) (by omega)) rfl ?_
        refine ln_gt rfl rfl rfl (pv_move rfl) rfl ?_
        refine ln_gf rfl rfl rfl rfl rfl ?_
        refine ln_gt rfl rfl rfl (pv_pick rfl (fun _ => rfl) (fun _ => rfl)) rfl ?_
        refine ln_gt rfl rfl rfl (pv_move rfl) rfl ?_
        refine ln_gf rfl rfl rfl rfl rfl ?_
        refine ln_gf rfl rfl rfl rfl rfl ?_
        refine ln_gf rfl rfl rfl rfl rfl ?_
        refine ln_gf rfl rfl rfl rfl rfl ?_
        refine ln_gt rfl rfl rfl (pv_pick rfl (fun _ => rfl) (fun _ => rfl)) rfl ?_
        refine ln_pv (pv_pick rfl (fun _ => rfl) (fun _ => rfl)) rfl ?_
        refine ln_cd ?_
        refine cd_ff rfl ?_
        refine cd_skip ?_
        refine at_cd ?_
        refine cd_dr2 [0, 1, 2, 3] [0, 2, 3, 4, 5, 6, 8, 10] [0, 2, 3, 4, 5, 6] 1 7 [7, 8, 9, 10] [8, 1, 9, 10] mixed (by kernel_rfl) ?_
        refine lo_pv rfl rfl (sk_js (Tr.refl _) [0, 1, 2, 3] rfl) (pv_ldO (i := 1) rfl Tryz.underlying51 rfl (tispec_Field).size rfl rfl) rfl ?_
        refine lo_pv rfl rfl (sk_js (Tr.refl _) [0, 1, 2, 3] rfl) (pv_fieldAddr (off := 3) (r := 3) Tryz.underlying26 rfl (tiSl_spec_Tree).size rfl rfl rfl) rfl ?_
        refine lo_pv rfl rfl (sk_js (Tr.refl _) [0, 1, 2, 3] rfl) (pv_ldo (i := 2) rfl Tryz.underlying23 rfl rfl rfl) rfl ?_
        refine lo_pv rfl rfl (sk_js (Tr.refl _) [0, 1, 2, 3] rfl) (pv_move rfl) rfl ?_
        refine lo_pv rfl rfl (sk_js (Tr.refl _) [0, 1, 2, 3] rfl) (pv_ixN Tryz.underlying23 tispec_Tree.size rfl rfl hig) rfl ?_
        refine lo_pv rfl rfl (sk_js (Tr.refl _) [0, 1, 2, 3] rfl) (pv_ldR hsubgn.2 Tryz.underlying26 rfl tispec_Tree.size rfl hrg.len) rfl ?_
        refine lo_nil (at_two ?_ ?_)
        · skip
          refine lo_eff rfl rfl ?_
          refine ln_lit (vs := [_]) Tryz.underlying29 tispec_Field rfl (by decide) rfl rfl rfl rfl rfl rfl (fun bA => ?_)
          refine ln_free1 (fun q h => h.elim) (fun sA htA hKA => ?_)
          have hFA : RS sA 8 (.slice (some ⟨bA, 0, none⟩) 1 1) 1 [.int .i64 fs[i].kind, .int .i64 fs[i].frm, .int .i64 fs[i].to, .int .i64 fs[i].nul, .int .i64 fs[i].tag, .int .i64 fs[i].dflt, .int .i64 fs[i].of_, svf] := ob_rs hKA rfl (by simp [RS.one hVf2])
          have hVf := hVf.mv htA
          have hFf := hFf.mv htA
          have hx := hx.mv htA
          have hU1 := hU1.mv htA
          have hUs := hUs.mv htA
          have hy := hy.mv htA
          have hgL := hgL.mv htA
          have hgLs := hgLs.mv htA
          have hgU1 := hgU1.mv htA
          have hgUs := hgUs.mv htA
          have hr := hr.mv htA
          have hVf2 := hVf2.mv htA
          have hFf2 := hFf2.mv htA
          have hrg := hrg.mv htA
          have hsubgn := hsubgn.mv htA
          have hds1 := hds1.mv htA
          refine lo_back (sk_js htA [0, 1, 2, 3] rfl) ?_
          refine lo_eff rfl rfl ?_
          refine ln_lit (vs := [_]) Tryz.underlying23 tispec_Tree rfl (by decide) rfl rfl rfl (by simp [partsOk, Value.cells, hrg.len]; try exact .inl rfl) rfl rfl (fun bB => ?_)
          refine ln_free1 (fun q h => h.elim) (fun sB htB hKB => ?_)
          have hKB : Known sB (Ent.obj bB (.cells d2.toArray 26)) := by simpa [flat, Value.cells] using hKB
          have hKB : OB sB bB (.cells d2.toArray 26) := hKB
          have hTB : RS sB 5 (.slice (some ⟨bB, 0, none⟩) 1 1) 1 d2 := ob_rs hKB (by rw [hrg.len]) hrg.cells
          have hVf := hVf.mv htB
          have hFf := hFf.mv htB
          have hx := hx.mv htB
          have hU1 := hU1.mv htB
          have hUs := hUs.mv htB
          have hy := hy.mv htB
          have hgL := hgL.mv htB
          have hgLs := hgLs.mv htB
          have hgU1 := hgU1.mv htB
          have hgUs := hgUs.mv htB
          have hr := hr.mv htB
          have hVf2 := hVf2.mv htB
          have hFf2 := hFf2.mv htB
          have hrg := hrg.mv htB
          have hsubgn := hsubgn.mv htB
          have hds1 := hds1.mv htB
          have hFA := hFA.mv htB
          refine lo_back (sk_js (htA.trans htB) [0, 1, 2, 3] rfl) ?_
          refine lo_pv rfl rfl (sk_js (htA.trans htB) [0, 1, 2, 3] rfl) (pv_struct [(0, 1), (1, 1), (2, 1), (3, 1), (4, 1)] (l := [_, _, _, _, _]) rfl Tryz.underlying26 tispec_Tree (by kernel_rfl) rfl (by simp [okL, Nat.ble_eq, Value.cells, (RS.one hTB)])) rfl ?_
          refine lo_eff rfl rfl ?_
          refine ln_callS en_61 rfl (fun u hu => spec_Usual [fs[i]] (by simp [nkFs, nkFs.mem hnk _ (List.getElem_mem hi)]) (by simp [okFs, okFs.mem hok _ (List.getElem_mem hi)]) (by simp) u _ _ _ (.mk 0 [] false [y.at_ i] []) (RS.mv hFA hu) (RFs_one (RF.mv hr hu)) (RT_l1 (RS.mv hTB hu) (RT.mv hrg hu)) (smT_l1 (hsy.at_ i)) rfl (usL_l1 hfld)) rfl ?_
          refine lo_back (sk_js (htA.trans htB) [0, 1, 2, 3] rfl) ?_
          refine lo_pv rfl rfl (sk_js (htA.trans htB) [0, 1, 2, 3] rfl) (pv_not rfl) rfl ?_
          refine lo_cd ?_
          refine cd_ff rfl ?_
          refine cd_skip ?_
          refine at_cd ?_
          refine cd_region ?_
          refine ln_pv (pv_add' rfl rfl (wrap_succ (by omega))) rfl ?_
          refine ln_pv (pv_move rfl) rfl ?_
          refine ln_nil ?_
          refine at_rnd (i + 1) (((hl1.trans ht1).trans htA).trans htB) ?_ ?_ ⟨rfl, rfl, rfl, rfl, rfl, rfl, rfl, rfl,  trivial⟩ (.cons _ (.cons _ (.cons_cons _ (.cons_cons _ .slnil))))
          · intro s9 hs9
            show i + 1 ≤ _
            omega
          · dsimp only; omega
        · skip
          refine lo_eff rfl rfl ?_
          refine ln_lit (vs := [_]) Tryz.underlying23 tispec_Tree rfl (by decide) rfl rfl rfl (by simp [partsOk, Value.cells, hrg.len]; try exact .inl rfl) rfl rfl (fun bB => ?_)
          refine ln_free1 (fun q h => h.elim) (fun sB htB hKB => ?_)
          have hKB : Known sB (Ent.obj bB (.cells d2.toArray 26)) := by simpa [flat, Value.cells] using hKB
          have hKB : OB sB bB (.cells d2.toArray 26) := hKB
          have hTB : RS sB 5 (.slice (some ⟨bB, 0, none⟩) 1 1) 1 d2 := ob_rs hKB (by rw [hrg.len]) hrg.cells
          have hVf := hVf.mv htB
          have hFf := hFf.mv htB
          have hx := hx.mv htB
          have hU1 := hU1.mv htB
          have hUs := hUs.mv htB
          have hy := hy.mv htB
          have hgL := hgL.mv htB
          have hgLs := hgLs.mv htB
          have hgU1 := hgU1.mv htB
          have hgUs := hgUs.mv htB
          have hr := hr.mv htB
          have hVf2 := hVf2.mv htB
          have hFf2 := hFf2.mv htB
          have hrg := hrg.mv htB
          have hsubgn := hsubgn.mv htB
          have hds1 := hds1.mv htB
          refine lo_back (sk_js htB [0, 1, 2, 3] rfl) ?_
          refine lo_pv rfl rfl (sk_js htB [0, 1, 2, 3] rfl) (pv_struct [(0, 1), (1, 1), (2, 1), (3, 1), (4, 1)] (l := [_, _, _, _, _]) rfl Tryz.underlying26 tispec_Tree (by kernel_rfl) rfl (by simp [okL, Nat.ble_eq, Value.cells, (RS.one hTB)])) rfl ?_
          refine lo_eff rfl rfl ?_
          refine ln_lit (vs := [_]) Tryz.underlying29 tispec_Field rfl (by decide) rfl rfl rfl rfl rfl rfl (fun bA => ?_)
          refine ln_free1 (fun q h => h.elim) (fun sA htA hKA => ?_)
          have hFA : RS sA 8 (.slice (some ⟨bA, 0, none⟩) 1 1) 1 [.int .i64 fs[i].kind, .int .i64 fs[i].frm, .int .i64 fs[i].to, .int .i64 fs[i].nul, .int .i64 fs[i].tag, .int .i64 fs[i].dflt, .int .i64 fs[i].of_, svf] := ob_rs hKA rfl (by simp [RS.one hVf2])
          have hVf := hVf.mv htA
          have hFf := hFf.mv htA
          have hx := hx.mv htA
          have hU1 := hU1.mv htA
          have hUs := hUs.mv htA
          have hy := hy.mv htA
          have hgL := hgL.mv htA
          have hgLs := hgLs.mv htA
          have hgU1 := hgU1.mv htA
          have hgUs := hgUs.mv htA
          have hr := hr.mv htA
          have hVf2 := hVf2.mv htA
          have hFf2 := hFf2.mv htA
          have hrg := hrg.mv htA
          have hsubgn := hsubgn.mv htA
          have hds1 := hds1.mv htA
          have hTB := hTB.mv htA
          refine lo_back (sk_js (htB.trans htA) [0, 1, 2, 3] rfl) ?_
          refine lo_eff rfl rfl ?_
          refine ln_callS en_61 rfl (fun u hu => spec_Usual [fs[i]] (by simp [nkFs, nkFs.mem hnk _ (List.getElem_mem hi)]) (by simp [okFs, okFs.mem hok _ (List.getElem_mem hi)]) (by simp) u _ _ _ (.mk 0 [] false [y.at_ i] []) (RS.mv hFA hu) (RFs_one (RF.mv hr hu)) (RT_l1 (RS.mv hTB hu) (RT.mv hrg hu)) (smT_l1 (hsy.at_ i)) rfl (usL_l1 hfld)) rfl ?_
          refine lo_back (sk_js (htB.trans htA) [0, 1, 2, 3] rfl) ?_
          refine lo_pv rfl rfl (sk_js (htB.trans htA) [0, 1, 2, 3] rfl) (pv_not rfl) rfl ?_
          refine lo_cd ?_
          refine cd_ff rfl ?_
          refine cd_skip ?_
          refine at_cd ?_
          refine cd_region ?_
          refine ln_pv (pv_add' rfl rfl (wrap_succ (by omega))) rfl ?_
          refine ln_pv (pv_move rfl) rfl ?_
          refine ln_nil ?_
          refine at_rnd (i + 1) (((hl1.trans ht1).trans htB).trans htA) ?_ ?_ ⟨rfl, rfl, rfl, rfl, rfl, rfl, rfl, rfl,  trivial⟩ (.cons _ (.cons _ (.cons_cons _ (.cons_cons _ .slnil))))
          · intro s9 hs9
            show i + 1 ≤ _
            omega
          · dsimp only; omega
      · skip
        have hfld := toL_get hto.2.1 i hi
        rw [Nat.zero_add, if_pos (by simp [hereB, htag, hus])] at hfld
        refine cd_sr ?_
        refine ln_pv (pv_fieldAddr (off := 4) (r := 4) Tryz.underlying51 rfl (tiint).size rfl rfl rfl) rfl ?_
        refine ln_pv (pv_ldo (i := 1) rfl Tryz.underlying3 rfl rfl rfl) rfl ?_
        refine ln_pv (pv_ff (pv_lss rfl rfl) htag) rfl ?_
        refine ln_pv (pv_move rfl) rfl ?_
        refine ln_gf rfl rfl rfl rfl rfl ?_
        refine ln_gf rfl rfl rfl rfl rfl ?_
        refine ln_gf rfl rfl rfl rfl rfl ?_
        refine ln_pv (pv_pick rfl (fun _ => rfl) (fun _ => rfl)) rfl ?_
        refine ln_pv (pv_move rfl) rfl ?_
        refine ln_gt rfl rfl rfl (pv_fieldAddr (off := 4) (r := 4) Tryz.underlying51 rfl (tiint).size rfl rfl rfl) rfl ?_
        refine ln_gt rfl rfl rfl (pv_ldo (i := 1) rfl Tryz.underlying3 rfl rfl rfl) rfl ?_
        refine ln_gt rfl rfl rfl (pv_tt (pv_geq rfl rfl) (by omega)) rfl ?_
        refine ln_gt rfl rfl rfl (pv_move rfl) rfl ?_
        refine ln_gt rfl rfl rfl (pv_move rfl) rfl ?_
        refine ln_gt rfl rfl rfl (pv_pick rfl (fun _ => rfl) (fun _ => rfl)) rfl ?_
        refine ln_gt rfl rfl rfl (pv_move rfl) rfl ?_
        refine ln_gt rfl rfl rfl (pv_ldO (i := 1) rfl Tryz.underlying51 rfl (tispec_Field).size rfl rfl) rfl ?_
        refine ln_gt rfl rfl rfl (pv_ldO (i := 0) rfl Tryz.underlying26 rfl (tispec_Tree).size rfl hds1.len) rfl ?_
        refine ln_gE rfl rfl rfl ?_
        refine ln_callS en_59 rfl (fun u hu => by have h := spec_usual fs[i] (okFs.mem hok _ (List.getElem_mem hi)) u _ _ (x.at_ i) (RF.mv hr hu) (RT.mv hds1 hu) (hsm.at_ i); rwa [hus] at h) rfl ?_
        refine ln_gt rfl rfl rfl (pv_not rfl) rfl ?_
        refine ln_gt rfl rfl rfl (pv_pick rfl (fun _ => rfl) (fun _ => rfl)) rfl ?_
        refine ln_pv (pv_pick rfl (fun _ => rfl) (fun _ => rfl)) rfl ?_
        refine ln_cd ?_
        refine cd_tt rfl ?_
        refine cd_seq ?_
        refine cd_dr' [0, 1, 2, 3] [0, 1, 2, 3, 4, 5, 6, 7, 8, 10] [0, 1, 2, 3, 4, 5, 6, 7, 8, 9, 10] mixed (by kernel_rfl) ?_
        refine lo_pv rfl rfl (sk_js (Tr.refl _) [0, 1, 2, 3] rfl) (pv_ldO (i := 1) rfl Tryz.underlying51 rfl (tispec_Field).size rfl rfl) rfl ?_
        refine lo_pv rfl rfl (sk_js (Tr.refl _) [0, 1, 2, 3] rfl) (pv_move rfl) rfl ?_
        refine lo_pv rfl rfl (sk_js (Tr.refl _) [0, 1, 2, 3] rfl) (pv_move rfl) rfl ?_
        refine lo_pv rfl rfl (sk_js (Tr.refl _) [0, 1, 2, 3] rfl) (pv_ldO (i := 0) rfl Tryz.underlying26 rfl (tispec_Tree).size rfl hds1.len) rfl ?_
        refine lo_pv rfl rfl (sk_js (Tr.refl _) [0, 1, 2, 3] rfl) (pv_fieldAddr (off := 3) (r := 3) Tryz.underlying26 rfl (tiSl_spec_Tree).size rfl rfl rfl) rfl ?_
        refine lo_pv rfl rfl (sk_js (Tr.refl _) [0, 1, 2, 3] rfl) (pv_ldo (i := 2) rfl Tryz.underlying23 rfl rfl rfl) rfl ?_
        refine lo_pv rfl rfl (sk_js (Tr.refl _) [0, 1, 2, 3] rfl) (pv_move rfl) rfl ?_
        refine lo_pv rfl rfl (sk_js (Tr.refl _) [0, 1, 2, 3] rfl) (pv_ixN Tryz.underlying23 tispec_Tree.size rfl rfl hig) rfl ?_
        refine lo_pv rfl rfl (sk_js (Tr.refl _) [0, 1, 2, 3] rfl) (pv_ldR hsubgn.2 Tryz.underlying26 rfl tispec_Tree.size rfl hrg.len) rfl ?_
        refine lo_eff rfl rfl ?_
        refine ln_callS en_60 rfl (fun u hu => hF _ (List.getElem_mem hi) u _ _ _ v _ (x.at_ i) (y.at_ i) (RF.mv hr hu) (RT.mv hds1 hu) (hsm.at_ i) (RT.mv hrg hu) (hsy.at_ i) hfld) rfl ?_
        refine lo_back (sk_js (Tr.refl _) [0, 1, 2, 3] rfl) ?_
        refine lo_pv rfl rfl (sk_js (Tr.refl _) [0, 1, 2, 3] rfl) (pv_not rfl) rfl ?_
        refine lo_cd ?_
        refine cd_ff rfl ?_
        refine cd_skip ?_
        refine at_cd ?_
        refine cd_exit rfl ?_
        refine at_cd ?_
        refine cd_region ?_
        refine ln_pv (pv_add' rfl rfl (wrap_succ (by omega))) rfl ?_
        refine ln_pv (pv_move rfl) rfl ?_
        refine ln_nil ?_
        refine at_rnd (i + 1) (hl1.trans ht1) ?_ ?_ ⟨rfl, rfl, rfl, rfl, rfl, rfl, rfl, rfl,  trivial⟩ (.cons _ (.cons _ (.cons_cons _ (.cons_cons _ .slnil))))
        · intro s9 hs9
          show i + 1 ≤ _
          omega
        · dsimp only; omega
      · skip
        have hfld := toL_get hto.2.1 i hi
        rw [Nat.zero_add, if_neg (by simp [hereB, htag, hus])] at hfld
        refine cd_sr ?_
        refine ln_pv (pv_fieldAddr (off := 4) (r := 4) Tryz.underlying51 rfl (tiint).size rfl rfl rfl) rfl ?_
        refine ln_pv (pv_ldo (i := 1) rfl Tryz.underlying3 rfl rfl rfl) rfl ?_
        refine ln_pv (pv_ff (pv_lss rfl rfl) htag) rfl ?_
        refine ln_pv (pv_move rfl) rfl ?_
        refine ln_gf rfl rfl rfl rfl rfl ?_
        refine ln_gf rfl rfl rfl rfl rfl ?_
        refine ln_gf rfl rfl rfl rfl rfl ?_
        refine ln_pv (pv_pick rfl (fun _ => rfl) (fun _ => rfl)) rfl ?_
        refine ln_pv (pv_move rfl) rfl ?_
        refine ln_gt rfl rfl rfl (pv_fieldAddr (off := 4) (r := 4) Tryz.underlying51 rfl (tiint).size rfl rfl rfl) rfl ?_
        refine ln_gt rfl rfl rfl (pv_ldo (i := 1) rfl Tryz.underlying3 rfl rfl rfl) rfl ?_
        refine ln_gt rfl rfl rfl (pv_tt (pv_geq rfl rfl) (by omega)) rfl ?_
        refine ln_gt rfl rfl rfl (pv_move rfl) rfl ?_
        refine ln_gt rfl rfl rfl (pv_move rfl) rfl ?_
        refine ln_gt rfl rfl rfl (pv_pick rfl (fun _ => rfl) (fun _ => rfl)) rfl ?_
        refine ln_gt rfl rfl rfl (pv_move rfl) rfl ?_
        refine ln_gt rfl rfl rfl (pv_ldO (i := 1) rfl Tryz.underlying51 rfl (tispec_Field).size rfl rfl) rfl ?_
        refine ln_gt rfl rfl rfl (pv_ldO (i := 0) rfl Tryz.underlying26 rfl (tispec_Tree).size rfl hds1.len) rfl ?_
        refine ln_gE rfl rfl rfl ?_
        refine ln_callS en_59 rfl (fun u hu => by have h := spec_usual fs[i] (okFs.mem hok _ (List.getElem_mem hi)) u _ _ (x.at_ i) (RF.mv hr hu) (RT.mv hds1 hu) (hsm.at_ i); rwa [hus] at h) rfl ?_
        refine ln_gt rfl rfl rfl (pv_not rfl) rfl ?_
        refine ln_gt rfl rfl rfl (pv_pick rfl (fun _ => rfl) (fun _ => rfl)) rfl ?_
        refine ln_pv (pv_pick rfl (fun _ => rfl) (fun _ => rfl)) rfl ?_
        refine ln_cd ?_
        refine cd_ff rfl ?_
        refine cd_skip ?_
        refine at_cd ?_
        refine cd_dr2 [0, 1, 2, 3] [0, 2, 3, 4, 5, 6, 8, 10] [0, 2, 3, 4, 5, 6] 1 7 [7, 8, 9, 10] [8, 1, 9, 10] mixed (by kernel_rfl) ?_
        refine lo_pv rfl rfl (sk_js (Tr.refl _) [0, 1, 2, 3] rfl) (pv_ldO (i := 1) rfl Tryz.underlying51 rfl (tispec_Field).size rfl rfl) rfl ?_
        refine lo_pv rfl rfl (sk_js (Tr.refl _) [0, 1, 2, 3] rfl) (pv_fieldAddr (off := 3) (r := 3) Tryz.underlying26 rfl (tiSl_spec_Tree).size rfl rfl rfl) rfl ?_
        refine lo_pv rfl rfl (sk_js (Tr.refl _) [0, 1, 2, 3] rfl) (pv_ldo (i := 2) rfl Tryz.underlying23 rfl rfl rfl) rfl ?_
        refine lo_pv rfl rfl (sk_js (Tr.refl _) [0, 1, 2, 3] rfl) (pv_move rfl) rfl ?_
        refine lo_pv rfl rfl (sk_js (Tr.refl _) [0, 1, 2, 3] rfl) (pv_ixN Tryz.underlying23 tispec_Tree.size rfl rfl hig) rfl ?_
        refine lo_pv rfl rfl (sk_js (Tr.refl _) [0, 1, 2, 3] rfl) (pv_ldR hsubgn.2 Tryz.underlying26 rfl tispec_Tree.size rfl hrg.len) rfl ?_
        refine lo_nil (at_two ?_ ?_)
        · skip
          refine lo_eff rfl rfl ?_
          refine ln_lit (vs := [_]) Tryz.underlying29 tispec_Field rfl (by decide) rfl rfl rfl rfl rfl rfl (fun bA => ?_)
          refine ln_free1 (fun q h => h.elim) (fun sA htA hKA => ?_)
          have hFA : RS sA 8 (.slice (some ⟨bA, 0, none⟩) 1 1) 1 [.int .i64 fs[i].kind, .int .i64 fs[i].frm, .int .i64 fs[i].to, .int .i64 fs[i].nul, .int .i64 fs[i].tag, .int .i64 fs[i].dflt, .int .i64 fs[i].of_, svf] := ob_rs hKA rfl (by simp [RS.one hVf2])
          have hVf := hVf.mv htA
          have hFf := hFf.mv htA
          have hx := hx.mv htA
          have hU1 := hU1.mv htA
          have hUs := hUs.mv htA
          have hy := hy.mv htA
          have hgL := hgL.mv htA
          have hgLs := hgLs.mv htA
          have hgU1 := hgU1.mv htA
          have hgUs := hgUs.mv htA
          have hr := hr.mv htA
          have hVf2 := hVf2.mv htA
          have hFf2 := hFf2.mv htA
          have hrg := hrg.mv htA
          have hsubgn := hsubgn.mv htA
          have hds1 := hds1.mv htA
          refine lo_back (sk_js htA [0, 1, 2, 3] rfl) ?_
          refine lo_eff rfl rfl ?_
          refine ln_lit (vs := [_]) Tryz.underlying23 tispec_Tree rfl (by decide) rfl rfl rfl (by simp [partsOk, Value.cells, hrg.len]; try exact .inl rfl) rfl rfl (fun bB => ?_)
          refine ln_free1 (fun q h => h.elim) (fun sB htB hKB => ?_)
          have hKB : Known sB (Ent.obj bB (.cells d2.toArray 26)) := by simpa [flat, Value.cells] using hKB
          have hKB : OB sB bB (.cells d2.toArray 26) := hKB
          have hTB : RS sB 5 (.slice (some ⟨bB, 0, none⟩) 1 1) 1 d2 := ob_rs hKB (by rw [hrg.len]) hrg.cells
          have hVf := hVf.mv htB
          have hFf := hFf.mv htB
          have hx := hx.mv htB
          have hU1 := hU1.mv htB
          have hUs := hUs.mv htB
          have hy := hy.mv htB
          have hgL := hgL.mv htB
          have hgLs := hgLs.mv htB
          have hgU1 := hgU1.mv htB
          have hgUs := hgUs.mv htB
          have hr := hr.mv htB
          have hVf2 := hVf2.mv htB
          have hFf2 := hFf2.mv htB
          have hrg := hrg.mv htB
          have hsubgn := hsubgn.mv htB
          have hds1 := hds1.mv htB
          have hFA := hFA.mv htB
          refine lo_back (sk_js (htA.trans htB) [0, 1, 2, 3] rfl) ?_
          refine lo_pv rfl rfl (sk_js (htA.trans htB) [0, 1, 2, 3] rfl) (pv_struct [(0, 1), (1, 1), (2, 1), (3, 1), (4, 1)] (l := [_, _, _, _, _]) rfl Tryz.underlying26 tispec_Tree (by kernel_rfl) rfl (by simp [okL, Nat.ble_eq, Value.cells, (RS.one hTB)])) rfl ?_
          refine lo_eff rfl rfl ?_
          refine ln_callS en_61 rfl (fun u hu => spec_Usual [fs[i]] (by simp [nkFs, nkFs.mem hnk _ (List.getElem_mem hi)]) (by simp [okFs, okFs.mem hok _ (List.getElem_mem hi)]) (by simp) u _ _ _ (.mk 0 [] false [y.at_ i] []) (RS.mv hFA hu) (RFs_one (RF.mv hr hu)) (RT_l1 (RS.mv hTB hu) (RT.mv hrg hu)) (smT_l1 (hsy.at_ i)) rfl (usL_l1 hfld)) rfl ?_
          refine lo_back (sk_js (htA.trans htB) [0, 1, 2, 3] rfl) ?_
          refine lo_pv rfl rfl (sk_js (htA.trans htB) [0, 1, 2, 3] rfl) (pv_not rfl) rfl ?_
          refine lo_cd ?_
          refine cd_ff rfl ?_
          refine cd_skip ?_
          refine at_cd ?_
          refine cd_region ?_
          refine ln_pv (pv_add' rfl rfl (wrap_succ (by omega))) rfl ?_
          refine ln_pv (pv_move rfl) rfl ?_
          refine ln_nil ?_
          refine at_rnd (i + 1) (((hl1.trans ht1).trans htA).trans htB) ?_ ?_ ⟨rfl, rfl, rfl, rfl, rfl, rfl, rfl, rfl,  trivial⟩ (.cons _ (.cons _ (.cons_cons _ (.cons_cons _ .slnil))))
          · intro s9 hs9
            show i + 1 ≤ _
            omega
          · dsimp only; omega
        · skip
          refine lo_eff rfl rfl ?_
          refine ln_lit (vs := [_]) Tryz.underlying23 tispec_Tree rfl (by decide) rfl rfl rfl (by simp [partsOk, Value.cells, hrg.len]; try exact .inl rfl) rfl rfl (fun bB => ?_)
          refine ln_free1 (fun q h => h.elim) (fun sB htB hKB => ?_)
          have hKB : Known sB (Ent.obj bB (.cells d2.toArray 26)) := by simpa [flat, Value.cells] using hKB
          have hKB : OB sB bB (.cells d2.toArray 26) := hKB
          have hTB : RS sB 5 (.slice (some ⟨bB, 0, none⟩) 1 1) 1 d2 := ob_rs hKB (by rw [hrg.len]) hrg.cells
          have hVf := hVf.mv htB
          have hFf := hFf.mv htB
          have hx := hx.mv htB
          have hU1 := hU1.mv htB
          have hUs := hUs.mv htB
          have hy := hy.mv htB
          have hgL := hgL.mv htB
          have hgLs := hgLs.mv htB
          have hgU1 := hgU1.mv htB
          have hgUs := hgUs.mv htB
          have hr := hr.mv htB
          have hVf2 := hVf2.mv htB
          have hFf2 := hFf2.mv htB
          have hrg := hrg.mv htB
          have hsubgn := hsubgn.mv htB
          have hds1 := hds1.mv htB
          refine lo_back (sk_js htB [0, 1, 2, 3] rfl) ?_
          refine lo_pv rfl rfl (sk_js htB [0, 1, 2, 3] rfl) (pv_struct [(0, 1), (1, 1), (2, 1), (3, 1), (4, 1)] (l := [_, _, _, _, _]) rfl Tryz.underlying26 tispec_Tree (by kernel_rfl) rfl (by simp [okL, Nat.ble_eq, Value.cells, (RS.one hTB)])) rfl ?_
          refine lo_eff rfl rfl ?_
          refine ln_lit (vs := [_]) Tryz.underlying29 tispec_Field rfl (by decide) rfl rfl rfl rfl rfl rfl (fun bA => ?_)
          refine ln_free1 (fun q h => h.elim) (fun sA htA hKA => ?_)
          have hFA : RS sA 8 (.slice (some ⟨bA, 0, none⟩) 1 1) 1 [.int .i64 fs[i].kind, .int .i64 fs[i].frm, .int .i64 fs[i].to, .int .i64 fs[i].nul, .int .i64 fs[i].tag, .int .i64 fs[i].dflt, .int .i64 fs[i].of_, svf] := ob_rs hKA rfl (by simp [RS.one hVf2])
          have hVf := hVf.mv htA
          have hFf := hFf.mv htA
          have hx := hx.mv htA
          have hU1 := hU1.mv htA
          have hUs := hUs.mv htA
          have hy := hy.mv htA
          have hgL := hgL.mv htA
          have hgLs := hgLs.mv htA
          have hgU1 := hgU1.mv htA
          have hgUs := hgUs.mv htA
          have hr := hr.mv htA
          have hVf2 := hVf2.mv htA
          have hFf2 := hFf2.mv htA
          have hrg := hrg.mv htA
          have hsubgn := hsubgn.mv htA
          have hds1 := hds1.mv htA
          have hTB := hTB.mv htA
          refine lo_back (sk_js (htB.trans htA) [0, 1, 2, 3] rfl) ?_
          refine lo_eff rfl rfl ?_
          refine ln_callS en_61 rfl (fun u hu => spec_Usual [fs[i]] (by simp [nkFs, nkFs.mem hnk _ (List.getElem_mem hi)]) (by simp [okFs, okFs.mem hok _ (List.getElem_mem hi)]) (by simp) u _ _ _ (.mk 0 [] false [y.at_ i] []) (RS.mv hFA hu) (RFs_one (RF.mv hr hu)) (RT_l1 (RS.mv hTB hu) (RT.mv hrg hu)) (smT_l1 (hsy.at_ i)) rfl (usL_l1 hfld)) rfl ?_
          refine lo_back (sk_js (htB.trans htA) [0, 1, 2, 3] rfl) ?_
          refine lo_pv rfl rfl (sk_js (htB.trans htA) [0, 1, 2, 3] rfl) (pv_not rfl) rfl ?_
          refine lo_cd ?_
          refine cd_ff rfl ?_
          refine cd_skip ?_
          refine at_cd ?_
          refine cd_region ?_
          refine ln_pv (pv_add' rfl rfl (wrap_succ (by omega))) rfl ?_
          refine ln_pv (pv_move rfl) rfl ?_
          refine ln_nil ?_
          refine at_rnd (i + 1) (((hl1.trans ht1).trans htB).trans htA) ?_ ?_ ⟨rfl, rfl, rfl, rfl, rfl, rfl, rfl, rfl,  trivial⟩ (.cons _ (.cons _ (.cons_cons _ (.cons_cons _ .slnil))))
          · intro s9 hs9
            show i + 1 ≤ _
            omega
          · dsimp only; omega
    · -- no
      refine cd_exit rfl ?_
      refine at_cd ?_
      refine cd_sr ?_
      refine ln_pv (pv_move rfl) rfl ?_
      refine ln_pv (pv_fieldAddr (off := 4) (r := 4) Tryz.underlying26 rfl (tiSl_spec_Tag).size rfl rfl rfl) rfl ?_
      refine ln_pv (pv_ldo (i := 1) rfl Tryz.underlying24 rfl rfl rfl) rfl ?_
      refine ln_callA en_62 rfl (fun u hu => spec_unknown u _ _ fs lcf uc x.u (RS.mv hVf hu) (RFs.mv hFf hu) hT (by omega) (RS.mv hU1 hu) (RUs.mv hu hUs)) rfl (fun u2 v2 ht2 hR2 => ?_)
      have hVf := hVf.mv ht2
      have hFf := hFf.mv ht2
      have hx := hx.mv ht2
      have hU1 := hU1.mv ht2
      have hUs := hUs.mv ht2
      have hy := hy.mv ht2
      have hgL := hgL.mv ht2
      have hgLs := hgLs.mv ht2
      have hgU1 := hgU1.mv ht2
      have hgUs := hgUs.mv ht2
      obtain ⟨uq, hq, hqs⟩ := hR2
      obtain ⟨adq, cq, rfl, hleq⟩ := hq.shape
      refine ln_pv (pv_assign rfl) rfl ?_
      refine ln_cd ?_
      refine cd_seq ?_
      refine cd_sr ?_
      refine ln_pv (pv_move rfl) rfl ?_
      refine ln_pv (pv_not rfl) rfl ?_
      refine ln_cd ?_
      refine cd_ff rfl ?_
      refine cd_skip ?_
      refine at_cd ?_
      refine cd_seq ?_
      refine cd_sr ?_
      refine ln_pv (pv_fieldAddr (off := 4) (r := 4) Tryz.underlying26 rfl (tiSl_spec_Tag).size rfl rfl rfl) rfl ?_
      refine ln_pv (pv_ldo (i := 0) rfl Tryz.underlying24 rfl rfl rfl) rfl ?_
      refine ln_pv (pv_len_slice Tryz.underlying24 rfl) rfl ?_
      refine ln_pv (pv_move rfl) rfl ?_
      refine ln_pv (pv_len_slice Tryz.underlying24 rfl) rfl ?_
      refine ln_pv (pv_ff (pv_neq rfl rfl) (fun q => q (by rw [hyu, List.length_map]))) rfl ?_
      refine ln_cd ?_
      refine cd_ff rfl ?_
      refine cd_skip ?_
      refine at_cd ?_
      refine cd_seq ?_
      refine cd_sr ?_
      refine ln_pv (pv_move rfl) rfl ?_
      refine ln_pv (pv_len_slice Tryz.underlying24 rfl) rfl ?_
      refine ln_pv (pv_move rfl) rfl ?_
      refine ln_cd ?_
      refine cd_block ?_
      refine cd_loop (⟨fun (z : Nat) => [(9, .pointer (some ⟨b2, 0, none⟩)), (90, .slice adq (unkn (known fs) x.u).length cq), (91, .int .i64 ((unkn (known fs) x.u).length : Int)), (92, .int .i64 ((z : Nat) : Int))], fun (z : Nat) => [.obj b2 (.cells [.int .i64 y.n, .slice agS y.s.length cgS, .bool y.z, .slice agL y.l.length cgL, .slice agU y.u.length cgU].toArray 26)], fun (z : Nat) s => z ≤ (unkn (known fs) x.u).length, fun (z : Nat) => (unkn (known fs) x.u).length - z⟩ : Lp (Nat)) 0 ?_ ?_ ?_ ?_
      · intro s0 hs0
        exact Nat.zero_le _
      · exact ⟨rfl, rfl, rfl, rfl,  trivial⟩
      · exact (.cons_cons _ (.cons _ .slnil))
      intro j s2 hl2 hI
      dsimp only at hI ⊢
      have hVf := hVf.mv hl2
      have hFf := hFf.mv hl2
      have hx := hx.mv hl2
      have hU1 := hU1.mv hl2
      have hUs := hUs.mv hl2
      have hy := hy.mv hl2
      have hgL := hgL.mv hl2
      have hgLs := hgLs.mv hl2
      have hgU1 := hgU1.mv hl2
      have hgUs := hgUs.mv hl2
      have hq := hq.mv hl2
      have hqs := hqs.mv hl2
      refine cd_sr ?_
      refine ln_pv (pv_lss rfl rfl) rfl ?_
      refine ln_cd ?_
      refine cd_seq ?_
      refine cd_if rfl (fun hc5 => ?_) (fun hc5 => ?_)
      · -- yes
        refine cd_skip ?_
        refine at_cd ?_
        refine cd_seq ?_
        refine cd_block ?_
        have hj : j < (unkn (known fs) x.u).length := by omega
        obtain ⟨b0, o0, rfl, hrc⟩ := hq.pos (by omega) (by decide)
        obtain ⟨c1, tv, c3, he, hk, hkk, hTv⟩ := RUs.at_ hj hqs
        have hsub := hrc.sub (j * 2) he hk
        have hjg : j < y.u.length := by rw [hyu, List.length_map]; exact hj
        obtain ⟨b5, o5, rfl, hrcg⟩ := hgU1.pos (by omega) (by decide)
        obtain ⟨e1, tg, e3, heg, hkg, hkkg, hTg⟩ := RUs.at_ hjg hgUs
        have hsubg := hrcg.sub (j * 2) heg hkg
        have hyj : y.u[j] = cut (unkn (known fs) x.u)[j] := by simp only [hyu, List.getElem_map]
        have hv2 : y.u[j].2 = (unkn (known fs) x.u)[j].2.take 32767 := by rw [hyj]; rfl
        refine cd_sr ?_
        refine ln_pv (pv_move rfl) rfl ?_
        refine ln_pv (pv_ixN Tryz.underlying24 tispec_Tag.size rfl rfl hj) rfl ?_
        refine ln_pv (pv_ldR hsub Tryz.underlying66 rfl (tispec_Tag).size rfl rfl) rfl ?_
        refine ln_alloc tispec_Tag rfl rfl (fun b5 => ?_)
        refine ln_pv (pv_assign rfl) rfl ?_
        refine ln_storeW (i := 0) rfl rfl rfl rfl (tispec_Tag).size rfl (by simp [(RS.one hTv)]) ?_
        refine ln_cd ?_
        refine cd_dr' [0, 1] [0, 1, 2, 3, 4, 5, 6, 7, 9, 10, 11, 12, 13, 14, 15, 16, 17, 20, 21] [0, 1, 2, 3, 4, 5, 6, 7, 8, 9, 10, 11, 12, 13, 14, 15, 16, 17, 18, 19, 20, 21] mixed (by kernel_rfl) ?_
        refine lo_pv rfl rfl (sk_js (Tr.refl _) [0, 1] rfl) (pv_fieldAddr (off := 4) (r := 4) Tryz.underlying26 rfl (tiSl_spec_Tag).size rfl rfl rfl) rfl ?_
        refine lo_pv rfl rfl (sk_js (Tr.refl _) [0, 1] rfl) (pv_ldo (i := 1) rfl Tryz.underlying24 rfl rfl rfl) rfl ?_
        refine lo_pv rfl rfl (sk_js (Tr.refl _) [0, 1] rfl) (pv_move rfl) rfl ?_
        refine lo_pv rfl rfl (sk_js (Tr.refl _) [0, 1] rfl) (pv_ixN Tryz.underlying24 tispec_Tag.size rfl rfl hjg) rfl ?_
        refine lo_pv rfl rfl (sk_js (Tr.refl _) [0, 1] rfl) (pv_fieldAddr (off := 0)  Tryz.underlying66 rfl (tiuint32).size rfl rfl rfl) rfl ?_
        refine lo_pv rfl rfl (sk_js (Tr.refl _) [0, 1] rfl) (pv_ldr (j := 0) hsubg Tryz.underlying64 rfl rfl rfl) rfl ?_
        refine lo_pv rfl rfl (sk_js (Tr.refl _) [0, 1] rfl) (pv_fieldAddr (off := 0) (r := 0) Tryz.underlying66 rfl (tiuint32).size rfl rfl rfl) rfl ?_
        refine lo_pv rfl rfl (sk_js (Tr.refl _) [0, 1] rfl) (pv_ldo (i := 0) rfl Tryz.underlying64 rfl rfl rfl) rfl ?_
        refine lo_eff rfl rfl ?_
        refine ln_pv (pv_ff (pv_neq rfl rfl) (fun q => q (by rw [hyj]; rfl))) rfl ?_
        refine lo_back (sk_js (Tr.refl _) [0, 1] rfl) ?_
        refine lo_pv rfl rfl (sk_js (Tr.refl _) [0, 1] rfl) (pv_move rfl) rfl ?_
        refine lo_gt rfl rfl (sk_js (Tr.refl _) [0, 1] rfl) rfl rfl rfl (pv_fieldAddr (off := 4) (r := 4) Tryz.underlying26 rfl (tiSl_spec_Tag).size rfl rfl rfl) rfl ?_
        refine lo_gt rfl rfl (sk_js (Tr.refl _) [0, 1] rfl) rfl rfl rfl (pv_ldo (i := 1) rfl Tryz.underlying24 rfl rfl rfl) rfl ?_
        refine lo_gt rfl rfl (sk_js (Tr.refl _) [0, 1] rfl) rfl rfl rfl (pv_move rfl) rfl ?_
        refine lo_gt rfl rfl (sk_js (Tr.refl _) [0, 1] rfl) rfl rfl rfl (pv_ixN Tryz.underlying24 tispec_Tag.size rfl rfl hjg) rfl ?_
        refine lo_gt rfl rfl (sk_js (Tr.refl _) [0, 1] rfl) rfl rfl rfl (pv_fieldAddr (off := 1)  Tryz.underlying66 rfl (tiSl_uint8).size rfl rfl rfl) rfl ?_
        refine lo_gt rfl rfl (sk_js (Tr.refl _) [0, 1] rfl) rfl rfl rfl (pv_ldr (j := 1) hsubg Tryz.underlying22 rfl rfl rfl) rfl ?_
        refine lo_gt rfl rfl (sk_js (Tr.refl _) [0, 1] rfl) rfl rfl rfl (pv_fieldAddr (off := 1) (r := 1) Tryz.underlying66 rfl (tiSl_uint8).size rfl rfl rfl) rfl ?_
        refine lo_gt rfl rfl (sk_js (Tr.refl _) [0, 1] rfl) rfl rfl rfl (pv_ldo (i := 0) rfl Tryz.underlying22 rfl rfl rfl) rfl ?_
        refine lo_eff rfl rfl ?_
        refine ln_gE rfl rfl rfl ?_
        refine ln_callA en_64 rfl (fun u hu => spec_whole u _ _ (RSv.mv hTv hu)) rfl (fun u3 v3 ht3 hR3 => ?_)
        have hVf := hVf.mv ht3
        have hFf := hFf.mv ht3
        have hx := hx.mv ht3
        have hU1 := hU1.mv ht3
        have hUs := hUs.mv ht3
        have hy := hy.mv ht3
        have hgL := hgL.mv ht3
        have hgLs := hgLs.mv ht3
        have hgU1 := hgU1.mv ht3
        have hgUs := hgUs.mv ht3
        have hq := hq.mv ht3
        have hqs := hqs.mv ht3
        have hTv := hTv.mv ht3
        have hTg := hTg.mv ht3
        refine lo_back (sk_js ht3 [0, 1] rfl) ?_
        refine lo_eff rfl rfl ?_
        refine ln_gE rfl rfl rfl ?_
        refine ln_callS en_63 rfl (fun u hu => by have h := spec_Same u _ _ _ _ (RSv.mv hTg hu) (RSv.mv hR3 hu) (by rw [hv2]; simp only [List.length_take]; omega); rwa [decide_eq_true hv2] at h) rfl ?_
        refine lo_back (sk_js ht3 [0, 1] rfl) ?_
        refine lo_gt rfl rfl (sk_js ht3 [0, 1] rfl) rfl rfl rfl (pv_not rfl) rfl ?_
        refine lo_pv rfl rfl (sk_js ht3 [0, 1] rfl) (pv_pick rfl (fun _ => rfl) (fun _ => rfl)) rfl ?_
        refine lo_cd ?_
        refine cd_ff rfl ?_
        refine cd_skip ?_
        refine at_cd ?_
        refine cd_region ?_
        refine ln_pv (pv_add' rfl rfl (wrap_succ (by omega))) rfl ?_
        refine ln_pv (pv_move rfl) rfl ?_
        refine ln_nil ?_
        refine at_rnd (j + 1) (hl2.trans ht3) ?_ ?_ ⟨rfl, rfl, rfl, rfl,  trivial⟩ (.cons _ (.cons_cons _ .slnil))
        · intro s9 hs9
          show j + 1 ≤ _
          omega
        · dsimp only; omega
      · -- no
        refine cd_exit rfl ?_
        refine at_cd ?_
        refine cd_sr ?_
        refine ln_pv (pv_assign rfl) rfl ?_
        refine ln_cd ?_
        refine cd_ret ?_
        refine at_retA rfl rfl (fun w hS => ?_)
        rfl
theorem spec_Told_n : ∀ (n : Nat) (fs : List Fld), SizeOf.sizeOf fs < n → okFs fs = true → nkFs fs = true → fs.length < 1000000 → ToldC fs
  | 0, _, h, _, _, _ => absurd h (by omega)
  | n + 1, fs, h, hok, hnk, hl => spec_Told1 fs hok hnk hl fun g hg => spec_told g (nkF.open (nkFs.mem hnk g hg)).2.2.1 (spec_Told_n n g.sub (by
      have h1 := List.sizeOf_lt_of_mem hg
      cases g
      simp only [Fld.sub]
      simp only [Fld.mk.sizeOf_spec] at h1
      omega) (okF.sub (okFs.mem hok g hg)) (nkF.open (nkFs.mem hnk g hg)).2.2.2 (okF.len (okFs.mem hok g hg)))
theorem spec_Told (fs : List Fld) (hok : okFs fs = true) (hnk : nkFs fs = true) (hl : fs.length < 1000000) : ToldC fs := spec_Told_n _ fs (Nat.lt_succ_self _) hok hnk hl
end K
end Go.Proofs.YtekafeogilbjmaaGreatDoor
