import Derived.Test.YtmknncmdbmnmgabGreatS8
set_option linter.unusedVariables false
set_option linter.unusedSimpArgs false
namespace Go.Proofs.YtmknncmdbmnmgabGreat
namespace K
open Go Go.Lib
theorem spec_fittedA (f : Fld) (ho : f.of_ ≠ 11) (h11 : f.kind ≠ 11) (hP : FitC f.sub) : FittedC f := by
  intro t fc cs v x hf hx hsm
  have hf0 := hf
  obtain ⟨sv, rfl, lf, hVf, hFf⟩ := hf.open
  obtain ⟨adf, cf, rfl, hlef⟩ := hVf.shape
  obtain ⟨sS, sL, sU, rfl, hn, hS, ⟨lc, hL, hLs⟩, hU⟩ := hx.open
  obtain ⟨adS, cS, rfl, hleS⟩ := hS.shape
  obtain ⟨adL, cL, rfl, hleL⟩ := hL.shape
  have hU0 := hU
  obtain ⟨uc, hU1, hUs⟩ := hU0
  obtain ⟨hz1, hz2, hz3, hz4⟩ := hsm.open
  refine ca_enter Tryz.func32 rfl Tryz.ntmps32 rfl ?_
  by_cases h8 : f.kind = 8
  · skip
    refine cd_sr ?_
    refine ln_box rfl rfl rfl (fun b1 => ?_)
    refine ln_box rfl rfl rfl (fun b2 => ?_)
    refine ln_alloc tispec_Tree rfl rfl (fun b3 => ?_)
    refine ln_cd ?_
    refine cd_sr ?_
    refine ln_pv (pv_ldO (i := 2) rfl Tryz.underlying50 rfl (tispec_Field).size rfl rfl) rfl ?_
    refine ln_pv (pv_move rfl) rfl ?_
    refine ln_pv (pv_ldO (i := 1) rfl Tryz.underlying26 rfl (tispec_Tree).size rfl rfl) rfl ?_
    refine ln_callS en_76 rfl (fun u hu => spec_null u f _ v x _ (RF.mv hf0 hu) (RT.mv hx hu)) rfl ?_
    refine ln_pv (pv_assign rfl) rfl ?_
    refine ln_cd ?_
    refine cd_seq ?_
    refine cd_sr ?_
    refine ln_pv (pv_fieldAddr (off := 0) (r := 0) Tryz.underlying50 rfl (tiint).size rfl rfl rfl) rfl ?_
    refine ln_pv (pv_ldo (i := 2) rfl Tryz.underlying3 rfl rfl rfl) rfl ?_
    refine ln_cd ?_
    refine cd_block ?_
    refine cd_seq ?_
    refine cd_sr ?_
    refine ln_pv (pv_tt (pv_eql rfl rfl) h8) rfl ?_
    refine ln_pv (pv_assign rfl) rfl ?_
    refine ln_cd ?_
    refine cd_tt rfl ?_
    refine cd_skip ?_
    refine at_cd ?_
    refine cd_tt rfl ?_
    refine cd_sr ?_
    refine ln_pv (pv_fieldAddr (off := 1) (r := 1) Tryz.underlying26 rfl (tiSl_uint8).size rfl rfl rfl) rfl ?_
    refine ln_pv (pv_ldo (i := 1) rfl Tryz.underlying22 rfl rfl rfl) rfl ?_
    refine ln_callA en_35 rfl (fun u hu => spec_whole u _ _ (RSv.mv hS hu)) rfl (fun u1 v1 ht1 hR1 => ?_)
    have hVf := hVf.mv ht1
    have hFf := hFf.mv ht1
    have hf0 := hf0.mv ht1
    have hx := hx.mv ht1
    have hS := hS.mv ht1
    have hU := hU.mv ht1
    have hU1 := hU1.mv ht1
    have hUs := hUs.mv ht1
    have hL := hL.mv ht1
    have hLs := hLs.mv ht1
    refine ln_pv (pv_move rfl) rfl ?_
    refine ln_pv (pv_struct [(0, 1), (1, 1), (2, 1), (3, 1), (4, 1)] (l := [_, _, _, _, _]) rfl Tryz.underlying26 tispec_Tree (by kernel_rfl) rfl (by simp [okL, Nat.ble_eq, Value.cells, (RS.one hR1)])) rfl ?_
    refine ln_storeW (i := 0) rfl rfl rfl rfl (tispec_Tree).size rfl (by simp [(RS.one hR1)]) ?_
    refine ln_cd ?_
    refine cd_ret ?_
    refine at_retC (i := 0) rfl rfl rfl Tryz.underlying26 rfl tispec_Tree.size rfl (fun w hS => ?_)
    rw [fitF_eq f v x ho, if_pos (.inl h8)]
    exact ⟨_, rfl, RT.shut ⟨_, _, _, rfl, by simp [Tre.n, I64], RSv.mv hR1 hS.trFin, ⟨[], rs_nil _ 5, rfl⟩, ⟨[], rs_nil _ 2, rfl⟩⟩⟩
  by_cases h9 : f.kind = 9
  · skip
    refine cd_sr ?_
    refine ln_box rfl rfl rfl (fun b1 => ?_)
    refine ln_box rfl rfl rfl (fun b2 => ?_)
    refine ln_alloc tispec_Tree rfl rfl (fun b3 => ?_)
    refine ln_cd ?_
    refine cd_sr ?_
    refine ln_pv (pv_ldO (i := 2) rfl Tryz.underlying50 rfl (tispec_Field).size rfl rfl) rfl ?_
    refine ln_pv (pv_move rfl) rfl ?_
    refine ln_pv (pv_ldO (i := 1) rfl Tryz.underlying26 rfl (tispec_Tree).size rfl rfl) rfl ?_
    refine ln_callS en_76 rfl (fun u hu => spec_null u f _ v x _ (RF.mv hf0 hu) (RT.mv hx hu)) rfl ?_
    refine ln_pv (pv_assign rfl) rfl ?_
    refine ln_cd ?_
    refine cd_seq ?_
    refine cd_sr ?_
    refine ln_pv (pv_fieldAddr (off := 0) (r := 0) Tryz.underlying50 rfl (tiint).size rfl rfl rfl) rfl ?_
    refine ln_pv (pv_ldo (i := 2) rfl Tryz.underlying3 rfl rfl rfl) rfl ?_
    refine ln_cd ?_
    refine cd_block ?_
    refine cd_seq ?_
    refine cd_sr ?_
    refine ln_pv (pv_ff (pv_eql rfl rfl) h8) rfl ?_
    refine ln_pv (pv_assign rfl) rfl ?_
    refine ln_cd ?_
    refine cd_ff rfl ?_
    refine cd_region ?_
    refine ln_pv (pv_tt (pv_eql rfl rfl) h9) rfl ?_
    refine ln_pv (pv_assign rfl) rfl ?_
    refine ln_nil ?_
    refine at_cd ?_
    refine cd_tt rfl ?_
    refine cd_sr ?_
    refine ln_pv (pv_fieldAddr (off := 1) (r := 1) Tryz.underlying26 rfl (tiSl_uint8).size rfl rfl rfl) rfl ?_
    refine ln_pv (pv_ldo (i := 1) rfl Tryz.underlying22 rfl rfl rfl) rfl ?_
    refine ln_callA en_35 rfl (fun u hu => spec_whole u _ _ (RSv.mv hS hu)) rfl (fun u1 v1 ht1 hR1 => ?_)
    have hVf := hVf.mv ht1
    have hFf := hFf.mv ht1
    have hf0 := hf0.mv ht1
    have hx := hx.mv ht1
    have hS := hS.mv ht1
    have hU := hU.mv ht1
    have hU1 := hU1.mv ht1
    have hUs := hUs.mv ht1
    have hL := hL.mv ht1
    have hLs := hLs.mv ht1
    refine ln_pv (pv_move rfl) rfl ?_
    refine ln_pv (pv_struct [(0, 1), (1, 1), (2, 1), (3, 1), (4, 1)] (l := [_, _, _, _, _]) rfl Tryz.underlying26 tispec_Tree (by kernel_rfl) rfl (by simp [okL, Nat.ble_eq, Value.cells, (RS.one hR1)])) rfl ?_
    refine ln_storeW (i := 0) rfl rfl rfl rfl (tispec_Tree).size rfl (by simp [(RS.one hR1)]) ?_
    refine ln_cd ?_
    refine cd_ret ?_
    refine at_retC (i := 0) rfl rfl rfl Tryz.underlying26 rfl tispec_Tree.size rfl (fun w hS => ?_)
    rw [fitF_eq f v x ho, if_pos (.inr h9)]
    exact ⟨_, rfl, RT.shut ⟨_, _, _, rfl, by simp [Tre.n, I64], RSv.mv hR1 hS.trFin, ⟨[], rs_nil _ 5, rfl⟩, ⟨[], rs_nil _ 2, rfl⟩⟩⟩
  by_cases h10 : f.kind = 10
  · skip
    refine cd_sr ?_
    refine ln_box rfl rfl rfl (fun b1 => ?_)
    refine ln_box rfl rfl rfl (fun b2 => ?_)
    refine ln_alloc tispec_Tree rfl rfl (fun b3 => ?_)
    refine ln_cd ?_
    refine cd_sr ?_
    refine ln_pv (pv_ldO (i := 2) rfl Tryz.underlying50 rfl (tispec_Field).size rfl rfl) rfl ?_
    refine ln_pv (pv_move rfl) rfl ?_
    refine ln_pv (pv_ldO (i := 1) rfl Tryz.underlying26 rfl (tispec_Tree).size rfl rfl) rfl ?_
    refine ln_callS en_76 rfl (fun u hu => spec_null u f _ v x _ (RF.mv hf0 hu) (RT.mv hx hu)) rfl ?_
    refine ln_pv (pv_assign rfl) rfl ?_
    refine ln_cd ?_
    refine cd_seq ?_
    refine cd_sr ?_
    refine ln_pv (pv_fieldAddr (off := 0) (r := 0) Tryz.underlying50 rfl (tiint).size rfl rfl rfl) rfl ?_
    refine ln_pv (pv_ldo (i := 2) rfl Tryz.underlying3 rfl rfl rfl) rfl ?_
    refine ln_cd ?_
    refine cd_block ?_
    refine cd_seq ?_
    refine cd_sr ?_
    refine ln_pv (pv_ff (pv_eql rfl rfl) h8) rfl ?_
    refine ln_pv (pv_assign rfl) rfl ?_
    refine ln_cd ?_
    refine cd_ff rfl ?_
    refine cd_region ?_
    refine ln_pv (pv_ff (pv_eql rfl rfl) h9) rfl ?_
    refine ln_pv (pv_assign rfl) rfl ?_
    refine ln_nil ?_
    refine at_cd ?_
    refine cd_ff rfl ?_
    refine cd_sr ?_
    refine ln_pv (pv_tt (pv_eql rfl rfl) h10) rfl ?_
    refine ln_pv (pv_assign rfl) rfl ?_
    refine ln_cd ?_
    refine cd_tt rfl ?_
    refine cd_sr ?_
    refine ln_pv (pv_fieldAddr (off := 7) (r := 7) Tryz.underlying50 rfl (tiSl_spec_Field).size rfl rfl rfl) rfl ?_
    refine ln_pv (pv_ldo (i := 2) rfl Tryz.underlying29 rfl rfl rfl) rfl ?_
    refine ln_pv (pv_move rfl) rfl ?_
    refine ln_pv (pv_ldO (i := 1) rfl Tryz.underlying26 rfl (tispec_Tree).size rfl rfl) rfl ?_
    refine ln_callA en_14 rfl (fun u hu => hP u _ _ _ v x (RS.mv hVf hu) (RFs.mv hFf hu) (RT.mv hx hu) hsm) rfl (fun u1 v1 ht1 hR1 => ?_)
    have hVf := hVf.mv ht1
    have hFf := hFf.mv ht1
    have hf0 := hf0.mv ht1
    have hx := hx.mv ht1
    have hS := hS.mv ht1
    have hU := hU.mv ht1
    have hU1 := hU1.mv ht1
    have hUs := hUs.mv ht1
    have hL := hL.mv ht1
    have hLs := hLs.mv ht1
    obtain ⟨dsF, rfl, hdsF⟩ := hR1
    obtain ⟨sA, sB, sC, rfl, hnA, hSA, ⟨lcB, hLB, hLsB⟩, ucC, hUC, hUsC⟩ := hdsF.open
    refine ln_alloc tispec_Tree rfl rfl (fun b4 => ?_)
    refine ln_storeW (i := 0) rfl rfl rfl rfl (tispec_Tree).size rfl (by simp [(RS.one hLB), (RS.one hSA), (RS.one hUC)]) ?_
    refine ln_cd ?_
    refine cd_sr ?_
    refine ln_pv (pv_move rfl) rfl ?_
    refine ln_pv (pv_fieldAddr (off := 2) (r := 2) Tryz.underlying26 rfl (tibool).size rfl rfl rfl) rfl ?_
    refine ln_store1 (i := 0) rfl rfl rfl rfl (tibool).size rfl ?_
    refine ln_cd ?_
    refine cd_sr ?_
    refine ln_pv (pv_ldO (i := 0) rfl Tryz.underlying26 rfl (tispec_Tree).size rfl rfl) rfl ?_
    refine ln_storeW (i := 1) rfl rfl rfl rfl (tispec_Tree).size rfl (by simp [(RS.one hLB), (RS.one hSA), (RS.one hUC)]) ?_
    refine ln_cd ?_
    refine cd_ret ?_
    refine at_retC (i := 1) rfl rfl rfl Tryz.underlying26 rfl tispec_Tree.size rfl (fun w hS => ?_)
    rw [fitF_eq f v x ho, if_neg (not_or.2 ⟨h8, h9⟩), if_pos h10]
    exact ⟨_, rfl, RT.shut ⟨_, _, _, rfl, by simp [Tre.n, I64], RSv.mv hSA hS.trFin, ⟨lcB, RS.mv hLB hS.trFin, RTs.mv hLsB hS.trFin⟩, ⟨ucC, RS.mv hUC hS.trFin, RUs.mv hS.trFin hUsC⟩⟩⟩
  refine cd_sr ?_
  refine ln_box rfl rfl rfl (fun b1 => ?_)
  refine ln_box rfl rfl rfl (fun b2 => ?_)
  refine ln_alloc tispec_Tree rfl rfl (fun b3 => ?_)
  refine ln_cd ?_
  refine cd_sr ?_
  refine ln_pv (pv_ldO (i := 2) rfl Tryz.underlying50 rfl (tispec_Field).size rfl rfl) rfl ?_
  refine ln_pv (pv_move rfl) rfl ?_
  refine ln_pv (pv_ldO (i := 1) rfl Tryz.underlying26 rfl (tispec_Tree).size rfl rfl) rfl ?_
  refine ln_callS en_76 rfl (fun u hu => spec_null u f _ v x _ (RF.mv hf0 hu) (RT.mv hx hu)) rfl ?_
  refine ln_pv (pv_assign rfl) rfl ?_
  refine ln_cd ?_
  refine cd_seq ?_
  refine cd_sr ?_
  refine ln_pv (pv_fieldAddr (off := 0) (r := 0) Tryz.underlying50 rfl (tiint).size rfl rfl rfl) rfl ?_
  refine ln_pv (pv_ldo (i := 2) rfl Tryz.underlying3 rfl rfl rfl) rfl ?_
  refine ln_cd ?_
  refine cd_block ?_
  refine cd_seq ?_
  refine cd_sr ?_
  refine ln_pv (pv_ff (pv_eql rfl rfl) h8) rfl ?_
  refine ln_pv (pv_assign rfl) rfl ?_
  refine ln_cd ?_
  refine cd_ff rfl ?_
  refine cd_region ?_
  refine ln_pv (pv_ff (pv_eql rfl rfl) h9) rfl ?_
  refine ln_pv (pv_assign rfl) rfl ?_
  refine ln_nil ?_
  refine at_cd ?_
  refine cd_ff rfl ?_
  refine cd_sr ?_
  refine ln_pv (pv_ff (pv_eql rfl rfl) h10) rfl ?_
  refine ln_pv (pv_assign rfl) rfl ?_
  refine ln_cd ?_
  refine cd_ff rfl ?_
  refine cd_sr ?_
  refine ln_pv (pv_ff (pv_eql rfl rfl) h11) rfl ?_
  refine ln_pv (pv_assign rfl) rfl ?_
  refine ln_cd ?_
  refine cd_ff rfl ?_
  refine cd_skip ?_
  refine at_cd ?_
  have hSx := hS
  refine cd_sr ?_
  refine ln_pv (pv_fieldAddr (off := 0) (r := 0) Tryz.underlying26 rfl (tiint64).size rfl rfl rfl) rfl ?_
  refine ln_pv (pv_ldo (i := 1) rfl Tryz.underlying2 rfl rfl rfl) rfl ?_
  refine ln_pv (pv_fieldAddr (off := 1) (r := 1) Tryz.underlying26 rfl (tiSl_uint8).size rfl rfl rfl) rfl ?_
  refine ln_pv (pv_ldo (i := 1) rfl Tryz.underlying22 rfl rfl rfl) rfl ?_
  refine ln_pv (pv_struct [(0, 1), (1, 1), (2, 1), (3, 1), (4, 1)] (l := [_, _, _, _, _]) rfl Tryz.underlying26 tispec_Tree (by kernel_rfl) rfl (by simp [okL, Nat.ble_eq, Value.cells, (RS.one hS)])) rfl ?_
  refine ln_storeW (i := 0) rfl rfl rfl rfl (tispec_Tree).size rfl (by simp [(RS.one hS)]) ?_
  refine ln_cd ?_
  refine cd_ret ?_
  refine at_retC (i := 0) rfl rfl rfl Tryz.underlying26 rfl tispec_Tree.size rfl (fun w hS => ?_)
  rw [fitF_eq f v x ho, if_neg (not_or.2 ⟨h8, h9⟩), if_neg h10, if_neg h11]
  exact ⟨_, rfl, RT.shut ⟨_, _, _, rfl, hn, RSv.mv hSx hS.trFin, ⟨[], rs_nil _ 5, rfl⟩, ⟨[], rs_nil _ 2, rfl⟩⟩⟩
theorem RF.one_ {s : Vw} {f : Fld} {sv : Value} (h : RF s f [.int .i64 f.kind, .int .i64 f.frm, .int .i64 f.to, .int .i64 f.nul, .int .i64 f.tag, .int .i64 f.dflt, .int .i64 f.of_, sv]) : RF s f.one [.int .i64 f.of_, .int .i64 f.frm, .int .i64 f.to, .int .i64 (-1), .int .i64 (-1), .int .i64 f.dflt, .int .i64 f.of_, sv] := by
  obtain ⟨sv', he, lc, h1, h2⟩ := h.open
  simp only [List.cons.injEq, and_true, true_and] at he
  subst he
  cases f
  simp only [RF, Fld.one, Fld.kind, Fld.frm, Fld.to, Fld.nul, Fld.tag, Fld.dflt, Fld.of_, Fld.sub] at h1 h2 ⊢
  exact ⟨_, rfl, lc, h1, h2⟩
theorem spec_fittedB (f : Fld) (ho : f.of_ ≠ 11) (h11 : f.kind = 11) (hO : FittedC f.one) : FittedC f := by
  intro t fc cs v x hf hx hsm
  have hf0 := hf
  obtain ⟨sv, rfl, lf, hVf, hFf⟩ := hf.open
  obtain ⟨adf, cf, rfl, hlef⟩ := hVf.shape
  obtain ⟨sS, sL, sU, rfl, hn, hS, ⟨lc, hL, hLs⟩, hU⟩ := hx.open
  obtain ⟨adS, cS, rfl, hleS⟩ := hS.shape
  obtain ⟨adL, cL, rfl, hleL⟩ := hL.shape
  have hU0 := hU
  obtain ⟨uc, hU1, hUs⟩ := hU0
  obtain ⟨hz1, hz2, hz3, hz4⟩ := hsm.open
  have h8 : ¬ f.kind = 8 := by omega
  have h9 : ¬ f.kind = 9 := by omega
  have h10 : ¬ f.kind = 10 := by omega
  refine ca_enter Tryz.func32 rfl Tryz.ntmps32 rfl ?_
  cases hnb : nullB f v x with
  | true =>
    refine cd_sr ?_
    refine ln_box rfl rfl rfl (fun b1 => ?_)
    refine ln_box rfl rfl rfl (fun b2 => ?_)
    refine ln_alloc tispec_Tree rfl rfl (fun b3 => ?_)
    refine ln_cd ?_
    refine cd_sr ?_
    refine ln_pv (pv_ldO (i := 2) rfl Tryz.underlying50 rfl (tispec_Field).size rfl rfl) rfl ?_
    refine ln_pv (pv_move rfl) rfl ?_
    refine ln_pv (pv_ldO (i := 1) rfl Tryz.underlying26 rfl (tispec_Tree).size rfl rfl) rfl ?_
    refine ln_callS en_76 rfl (fun u hu => by have h := spec_null u f _ v x _ (RF.mv hf0 hu) (RT.mv hx hu); rwa [hnb] at h) rfl ?_
    refine ln_pv (pv_assign rfl) rfl ?_
    refine ln_cd ?_
    refine cd_seq ?_
    refine cd_sr ?_
    refine ln_pv (pv_fieldAddr (off := 0) (r := 0) Tryz.underlying50 rfl (tiint).size rfl rfl rfl) rfl ?_
    refine ln_pv (pv_ldo (i := 2) rfl Tryz.underlying3 rfl rfl rfl) rfl ?_
    refine ln_cd ?_
    refine cd_block ?_
    refine cd_seq ?_
    refine cd_sr ?_
    refine ln_pv (pv_ff (pv_eql rfl rfl) h8) rfl ?_
    refine ln_pv (pv_assign rfl) rfl ?_
    refine ln_cd ?_
    refine cd_ff rfl ?_
    refine cd_region ?_
    refine ln_pv (pv_ff (pv_eql rfl rfl) h9) rfl ?_
    refine ln_pv (pv_assign rfl) rfl ?_
    refine ln_nil ?_
    refine at_cd ?_
    refine cd_ff rfl ?_
    refine cd_sr ?_
    refine ln_pv (pv_ff (pv_eql rfl rfl) h10) rfl ?_
    refine ln_pv (pv_assign rfl) rfl ?_
    refine ln_cd ?_
    refine cd_ff rfl ?_
    refine cd_sr ?_
    refine ln_pv (pv_tt (pv_eql rfl rfl) h11) rfl ?_
    refine ln_pv (pv_assign rfl) rfl ?_
    refine ln_cd ?_
    refine cd_tt rfl ?_
    refine cd_sr ?_
    refine ln_pv (pv_move rfl) rfl ?_
    refine ln_pv (pv_move rfl) rfl ?_
    refine ln_gf rfl rfl rfl rfl rfl ?_
    refine ln_gf rfl rfl rfl rfl rfl ?_
    refine ln_gf rfl rfl rfl rfl rfl ?_
    refine ln_gf rfl rfl rfl rfl rfl ?_
    refine ln_gu rfl rfl rfl rfl ?_
    refine ln_gu rfl rfl rfl rfl ?_
    refine ln_gu rfl rfl rfl rfl ?_
    refine ln_gu rfl rfl rfl rfl ?_
    refine ln_gf rfl rfl rfl rfl rfl ?_
    refine ln_pv (pv_pick rfl (fun _ => rfl) (fun _ => rfl)) rfl ?_
    refine ln_pv (pv_struct [(0, 1), (1, 1), (2, 1), (3, 1), (4, 1)] (l := [_, _, _, _, _]) rfl Tryz.underlying26 tispec_Tree (by kernel_rfl) rfl rfl) rfl ?_
    refine ln_alloc tispec_Tree rfl rfl (fun b4 => ?_)
    refine ln_storeW (i := 0) rfl rfl rfl rfl (tispec_Tree).size rfl (by simp []) ?_
    refine ln_cd ?_
    refine cd_sr ?_
    refine ln_pv (pv_ldO (i := 3) rfl Tryz.underlying50 rfl (tispec_Field).size rfl rfl) rfl ?_
    refine ln_alloc tispec_Field rfl rfl (fun b5 => ?_)
    refine ln_storeW (i := 0) rfl rfl rfl rfl (tispec_Field).size rfl (by simp [(RS.one hVf)]) ?_
    refine ln_cd ?_
    refine cd_sr ?_
    refine ln_pv (pv_fieldAddr (off := 6) (r := 6) Tryz.underlying50 rfl (tiint).size rfl rfl rfl) rfl ?_
    refine ln_pv (pv_ldo (i := 4) rfl Tryz.underlying3 rfl rfl rfl) rfl ?_
    refine ln_pv (pv_fieldAddr (off := 0) (r := 0) Tryz.underlying50 rfl (tiint).size rfl rfl rfl) rfl ?_
    refine ln_store1 (i := 0) rfl rfl rfl rfl (tiint).size rfl ?_
    refine ln_pv (pv_fieldAddr (off := 3) (r := 3) Tryz.underlying50 rfl (tiint).size rfl rfl rfl) rfl ?_
    refine ln_store1 (i := 0) rfl rfl rfl rfl (tiint).size rfl ?_
    refine ln_pv (pv_fieldAddr (off := 4) (r := 4) Tryz.underlying50 rfl (tiint).size rfl rfl rfl) rfl ?_
    refine ln_store1 (i := 0) rfl rfl rfl rfl (tiint).size rfl ?_
    refine ln_cd ?_
    refine cd_seq ?_
    refine cd_nilrow 26 5 ?_
    refine cd_sr ?_
    refine ln_pv (pv_fieldAddr (off := 3) (r := 3) Tryz.underlying26 rfl (tiSl_spec_Tree).size rfl rfl rfl) rfl ?_
    refine ln_pv (pv_ldo (i := 4) rfl Tryz.underlying23 rfl rfl rfl) rfl ?_
    refine ln_callA en_77 rfl (fun u hu => spec_things u _ x.l lc (RS.mv hL hu) (RTs.mv hLs hu)) rfl (fun u1 v1 ht1 hR1 => ?_)
    have hVf := hVf.mv ht1
    have hFf := hFf.mv ht1
    have hf0 := hf0.mv ht1
    have hx := hx.mv ht1
    have hS := hS.mv ht1
    have hU := hU.mv ht1
    have hU1 := hU1.mv ht1
    have hUs := hUs.mv ht1
    have hL := hL.mv ht1
    have hLs := hLs.mv ht1
    obtain ⟨lq, hQ, hQs⟩ := hR1
    obtain ⟨adq, cq, rfl, hleq⟩ := hQ.shape
    have hll := List.length_take_le 32767 x.l
    refine ln_pv (pv_len_slice Tryz.underlying23 rfl) rfl ?_
    refine ln_pv (pv_move rfl) rfl ?_
    refine ln_cd ?_
    refine cd_block ?_
    refine cd_loop (⟨fun (z : Nat × List Value × Value) => [(1, .int .i64 v), (6, .pointer (some ⟨b3, 0, none⟩)), (9, .pointer (some ⟨b4, 0, none⟩)), (10, .pointer (some ⟨b5, 0, none⟩)), (60, .slice adq (x.l.take 32767).length cq), (61, .int .i64 ((x.l.take 32767).length : Int)), (62, .int .i64 ((z.1 : Nat) : Int))], fun (z : Nat × List Value × Value) => [.row z.2.2 26 5 (((x.l.take 32767).take z.1).map (fitF f.one v)).length (z.2.1), .obj b5 (.cells [.int .i64 f.of_, .int .i64 f.frm, .int .i64 f.to, .int .i64 (-1), .int .i64 (-1), .int .i64 f.dflt, .int .i64 f.of_, .slice adf f.sub.length cf].toArray 50), .obj b4 (.cells [.int .i64 0, .slice none 0 0, .bool true, z.2.2, .slice none 0 0].toArray 26), .obj b3 (.cells [.int .i64 0, .slice none 0 0, .bool false, .slice none 0 0, .slice none 0 0].toArray 26)], fun (z : Nat × List Value × Value) s => z.1 ≤ (x.l.take 32767).length ∧ RTs s (((x.l.take 32767).take z.1).map (fitF f.one v)) z.2.1, fun (z : Nat × List Value × Value) => (x.l.take 32767).length - z.1⟩ : Lp (Nat × List Value × Value)) (0, [], .slice none 0 0) ?_ ?_ ?_ ?_
    · intro s0 hs0
      exact ⟨Nat.zero_le _, rfl⟩
    · exact ⟨rfl, rfl, rfl, rfl, rfl, rfl, rfl,  trivial⟩
    · exact (.cons_cons _ (.cons_cons _ (.cons_cons _ (.cons_cons _ (.cons _ (.cons _ .slnil))))))
    intro z s1 hl1 hI
    obtain ⟨i, ys, vv⟩ := z
    dsimp only at hI ⊢
    have hVf := hVf.mv hl1
    have hFf := hFf.mv hl1
    have hf0 := hf0.mv hl1
    have hx := hx.mv hl1
    have hS := hS.mv hl1
    have hU := hU.mv hl1
    have hU1 := hU1.mv hl1
    have hUs := hUs.mv hl1
    have hL := hL.mv hl1
    have hLs := hLs.mv hl1
    have hQ := hQ.mv hl1
    have hQs := hQs.mv hl1
    obtain ⟨hI, hIr⟩ := hI
    refine cd_sr ?_
    refine ln_pv (pv_lss rfl rfl) rfl ?_
    refine ln_cd ?_
    refine cd_seq ?_
    refine cd_if rfl (fun hc5 => ?_) (fun hc5 => ?_)
    · -- yes
      refine cd_skip ?_
      refine at_cd ?_
      refine cd_seq ?_
      refine cd_block ?_
      have hi : i < (x.l.take 32767).length := by omega
      obtain ⟨b0, o0, rfl, hrc⟩ := hQ.pos (by omega) (by decide)
      obtain ⟨c1, c2, c3, he, hk, hr⟩ := RTs.at_ hi hQs
      have hsub := hrc.sub (i * 5) he hk
      have hsn : (((x.l.take 32767).take (i + 1)).map (fitF f.one v)) = (((x.l.take 32767).take i).map (fitF f.one v)) ++ [(fitF f.one v) (x.l.take 32767)[i]] := by rw [take_snoc' hi, List.map_append]; rfl
      have hsl : (((x.l.take 32767).take (i + 1)).map (fitF f.one v)).length = (((x.l.take 32767).take i).map (fitF f.one v)).length + 1 := by rw [hsn]; simp
      have hil : (((x.l.take 32767).take i).map (fitF f.one v)).length = i := by rw [List.length_map, List.length_take]; omega
      refine cd_sr ?_
      refine ln_pv (pv_ixN Tryz.underlying23 tispec_Tree.size rfl rfl hi) rfl ?_
      refine ln_pv (pv_ldR hsub Tryz.underlying26 rfl tispec_Tree.size rfl hr.len) rfl ?_
      refine ln_alloc tispec_Tree rfl rfl (fun b6 => ?_)
      refine ln_storeW (i := 0) rfl rfl rfl rfl (tispec_Tree).size hr.len hr.cells ?_
      refine ln_cd ?_
      refine cd_draw' [0, 2, 3, 4] [0, 1, 2, 3, 4, 8] [0, 1, 2, 3, 4, 5, 6, 7, 8, 9] mixed (by kernel_rfl) ?_
      refine lo_pv rfl rfl (sk_js (Tr.refl _) [0, 2, 3, 4] rfl) (pv_fieldAddr (off := 3) (r := 3) Tryz.underlying26 rfl (tiSl_spec_Tree).size rfl rfl rfl) rfl ?_
      refine lo_pv rfl rfl (sk_js (Tr.refl _) [0, 2, 3, 4] rfl) (pv_ldo (i := 2) rfl Tryz.underlying23 rfl rfl rfl) rfl ?_
      refine lo_pv rfl rfl (sk_js (Tr.refl _) [0, 2, 3, 4] rfl) (pv_ldO (i := 1) rfl Tryz.underlying50 rfl (tispec_Field).size rfl rfl) rfl ?_
      refine lo_pv rfl rfl (sk_js (Tr.refl _) [0, 2, 3, 4] rfl) (pv_move rfl) rfl ?_
      refine lo_pv rfl rfl (sk_js (Tr.refl _) [0, 2, 3, 4] rfl) (pv_ldO (i := 0) rfl Tryz.underlying26 rfl (tispec_Tree).size rfl hr.len) rfl ?_
      refine lo_eff rfl rfl ?_
      refine ln_callA en_32 rfl (fun u hu => hO u _ _ v (x.l.take 32767)[i] (RF.one_ (RF.mv hf0 hu)) (RT.mv hr hu) (smTs.take hz4 _ _ hi)) rfl (fun u2 v2 ht2 hR2 => ?_)
      have hVf := hVf.mv ht2
      have hFf := hFf.mv ht2
      have hf0 := hf0.mv ht2
      have hx := hx.mv ht2
      have hS := hS.mv ht2
      have hU := hU.mv ht2
      have hU1 := hU1.mv ht2
      have hUs := hUs.mv ht2
      have hL := hL.mv ht2
      have hLs := hLs.mv ht2
      have hQ := hQ.mv ht2
      have hQs := hQs.mv ht2
      have hIr := hIr.mv ht2
      have hr := hr.mv ht2
      obtain ⟨dsF, rfl, hdsF⟩ := hR2
      refine lo_back (sk_js ht2 [0, 2, 3, 4] rfl) ?_
      refine lo_eff rfl rfl ?_
      refine ln_lit (vs := [_]) Tryz.underlying23 tispec_Tree rfl (by decide) rfl rfl rfl (by simp [partsOk, Value.cells, hdsF.len]; try exact .inl rfl) rfl rfl (fun b7 => ?_)
      refine lo_back (sk_js ht2 [1, 3, 4, 5] rfl) ?_
      refine lo_eff rfl rfl ?_
      refine ln_append (i := 2) rfl Tryz.underlying23 tispec_Tree rfl (by decide) rfl rfl (src_obj (j := 0) rfl (by simp [flat, Value.cells, hdsF.len]) (List.all_eq_true.2 (by simpa [flat, Value.cells] using hdsF.cells))) (by rw [hil]; first | omega | (simp only [maxLen]; omega)) (by rw [hil]; first | omega | (simp only [maxLen]; omega)) rfl (k' := (((x.l.take 32767).take (i + 1)).map (fitF f.one v)).length) (xs' := ys ++ dsF) hsl.symm (by simp [flat, Value.cells]) (fun v3 hv3 => ?_)
      refine lo_back (sk_js ht2 [1, 3, 4, 5] rfl) ?_
      refine lo_pv rfl rfl (sk_js ht2 [1, 3, 4, 5] rfl) (pv_fieldAddr (off := 3) (r := 3) Tryz.underlying26 rfl (tiSl_spec_Tree).size rfl rfl rfl) rfl ?_
      refine lo_eff rfl rfl ?_
      refine ln_store1 (i := 4) rfl rfl rfl hv3.2 (tiSl_spec_Tree).size rfl ?_
      refine lo_last (by kernel_rfl) ?_
      refine lo_nil ?_
      refine at_cd ?_
      refine cd_region ?_
      refine ln_pv (pv_add' rfl rfl (wrap_succ (by omega))) rfl ?_
      refine ln_pv (pv_move rfl) rfl ?_
      refine ln_nil ?_
      refine at_rnd (i + 1, ys ++ dsF, v3) (hl1.trans ht2) ?_ ?_ ⟨rfl, rfl, rfl, rfl, rfl, rfl, rfl,  trivial⟩ (.cons _ (.cons _ (.cons_cons _ (.cons_cons _ (.cons_cons _ (.cons_cons _ .slnil))))))
      · intro s9 hs9
        exact ⟨by dsimp only; omega, by rw [hsn]; exact RTs.append (RTs.mv hIr hs9) (RTs.one (RT.mv hdsF hs9))⟩
      · dsimp only; omega
    · -- no
      refine cd_exit rfl ?_
      refine at_cd ?_
      refine cd_rowone (i := 0) rfl (fun hoL => ?_)
      refine cd_sr ?_
      refine ln_pv (pv_ldO (i := 2) rfl Tryz.underlying26 rfl (tispec_Tree).size rfl rfl) rfl ?_
      refine ln_storeW (i := 3) rfl rfl rfl rfl (tispec_Tree).size rfl (by simp [hoL]) ?_
      refine ln_cd ?_
      refine cd_ret ?_
      refine at_retC (i := 3) rfl rfl rfl Tryz.underlying26 rfl tispec_Tree.size rfl (fun w hS => ?_)
      have hi2 : i = (x.l.take 32767).length := by omega
      subst hi2
      rw [fitF_eq f v x ho, if_neg (not_or.2 ⟨h8, h9⟩), if_neg h10, if_pos h11, hnb]
      rw [List.take_length] at hIr
      refine ⟨_, rfl, RT.shut ⟨_, _, _, rfl, by simp [Tre.n, I64], rs_nil _ 1, ⟨ys, ?_, RTs.mv hIr hS.trFin⟩, ⟨[], rs_nil _ 2, rfl⟩⟩⟩
      have h := row_rs hS (j := 0) rfl (RTs.cells hIr)
      have e : (List.map (fitF f.one v) (x.l.take 32767)).length = (((x.l.take 32767).take (x.l.take 32767).length).map (fitF f.one v)).length := by rw [List.take_length]
      show RS _ 5 _ (List.map (fitF f.one v) (x.l.take 32767)).length _
      rw [e]
      exact h
  | false =>
    by_cases htg : f.tag ≥ 0
    · skip
      refine cd_sr ?_
      refine ln_box rfl rfl rfl (fun b1 => ?_)
      refine ln_box rfl rfl rfl (fun b2 => ?_)
      refine ln_alloc tispec_Tree rfl rfl (fun b3 => ?_)
      refine ln_cd ?_
      refine cd_sr ?_
      refine ln_pv (pv_ldO (i := 2) rfl Tryz.underlying50 rfl (tispec_Field).size rfl rfl) rfl ?_
      refine ln_pv (pv_move rfl) rfl ?_
      refine ln_pv (pv_ldO (i := 1) rfl Tryz.underlying26 rfl (tispec_Tree).size rfl rfl) rfl ?_
      refine ln_callS en_76 rfl (fun u hu => by have h := spec_null u f _ v x _ (RF.mv hf0 hu) (RT.mv hx hu); rwa [hnb] at h) rfl ?_
      refine ln_pv (pv_assign rfl) rfl ?_
      refine ln_cd ?_
      refine cd_seq ?_
      refine cd_sr ?_
      refine ln_pv (pv_fieldAddr (off := 0) (r := 0) Tryz.underlying50 rfl (tiint).size rfl rfl rfl) rfl ?_
      refine ln_pv (pv_ldo (i := 2) rfl Tryz.underlying3 rfl rfl rfl) rfl ?_
      refine ln_cd ?_
      refine cd_block ?_
      refine cd_seq ?_
      refine cd_sr ?_
      refine ln_pv (pv_ff (pv_eql rfl rfl) h8) rfl ?_
      refine ln_pv (pv_assign rfl) rfl ?_
      refine ln_cd ?_
      refine cd_ff rfl ?_
      refine cd_region ?_
      refine ln_pv (pv_ff (pv_eql rfl rfl) h9) rfl ?_
      refine ln_pv (pv_assign rfl) rfl ?_
      refine ln_nil ?_
      refine at_cd ?_
      refine cd_ff rfl ?_
      refine cd_sr ?_
      refine ln_pv (pv_ff (pv_eql rfl rfl) h10) rfl ?_
      refine ln_pv (pv_assign rfl) rfl ?_
      refine ln_cd ?_
      refine cd_ff rfl ?_
      refine cd_sr ?_
      refine ln_pv (pv_tt (pv_eql rfl rfl) h11) rfl ?_
      refine ln_pv (pv_assign rfl) rfl ?_
      refine ln_cd ?_
      refine cd_tt rfl ?_
      refine cd_sr ?_
      refine ln_pv (pv_move rfl) rfl ?_
      refine ln_pv (pv_move rfl) rfl ?_
      refine ln_gt rfl rfl rfl (pv_fieldAddr (off := 4) (r := 4) Tryz.underlying50 rfl (tiint).size rfl rfl rfl) rfl ?_
      refine ln_gt rfl rfl rfl (pv_ldo (i := 2) rfl Tryz.underlying3 rfl rfl rfl) rfl ?_
      refine ln_gt rfl rfl rfl (pv_tt (pv_geq rfl rfl) htg) rfl ?_
      refine ln_gt rfl rfl rfl (pv_move rfl) rfl ?_
      refine ln_gt rfl rfl rfl (pv_fieldAddr (off := 3) (r := 3) Tryz.underlying26 rfl (tiSl_spec_Tree).size rfl rfl rfl) rfl ?_
      refine ln_gt rfl rfl rfl (pv_ldo (i := 1) rfl Tryz.underlying23 rfl rfl rfl) rfl ?_
      refine ln_gt rfl rfl rfl (pv_len_slice Tryz.underlying23 rfl) rfl ?_
      refine ln_gt rfl rfl rfl (pv_eql rfl rfl) rfl ?_
      refine ln_gt rfl rfl rfl (pv_pick rfl (fun _ => rfl) (fun _ => rfl)) rfl ?_
      refine ln_pv (pv_pick rfl (fun _ => rfl) (fun _ => rfl)) rfl ?_
      refine ln_pv (pv_struct [(0, 1), (1, 1), (2, 1), (3, 1), (4, 1)] (l := [_, _, _, _, _]) rfl Tryz.underlying26 tispec_Tree (by kernel_rfl) rfl rfl) rfl ?_
      refine ln_alloc tispec_Tree rfl rfl (fun b4 => ?_)
      refine ln_storeW (i := 0) rfl rfl rfl rfl (tispec_Tree).size rfl (by simp []) ?_
      refine ln_cd ?_
      refine cd_sr ?_
      refine ln_pv (pv_ldO (i := 3) rfl Tryz.underlying50 rfl (tispec_Field).size rfl rfl) rfl ?_
      refine ln_alloc tispec_Field rfl rfl (fun b5 => ?_)
      refine ln_storeW (i := 0) rfl rfl rfl rfl (tispec_Field).size rfl (by simp [(RS.one hVf)]) ?_
      refine ln_cd ?_
      refine cd_sr ?_
      refine ln_pv (pv_fieldAddr (off := 6) (r := 6) Tryz.underlying50 rfl (tiint).size rfl rfl rfl) rfl ?_
      refine ln_pv (pv_ldo (i := 4) rfl Tryz.underlying3 rfl rfl rfl) rfl ?_
      refine ln_pv (pv_fieldAddr (off := 0) (r := 0) Tryz.underlying50 rfl (tiint).size rfl rfl rfl) rfl ?_
      refine ln_store1 (i := 0) rfl rfl rfl rfl (tiint).size rfl ?_
      refine ln_pv (pv_fieldAddr (off := 3) (r := 3) Tryz.underlying50 rfl (tiint).size rfl rfl rfl) rfl ?_
      refine ln_store1 (i := 0) rfl rfl rfl rfl (tiint).size rfl ?_
      refine ln_pv (pv_fieldAddr (off := 4) (r := 4) Tryz.underlying50 rfl (tiint).size rfl rfl rfl) rfl ?_
      refine ln_store1 (i := 0) rfl rfl rfl rfl (tiint).size rfl ?_
      refine ln_cd ?_
      refine cd_seq ?_
      refine cd_nilrow 26 5 ?_
      refine cd_sr ?_
      refine ln_pv (pv_fieldAddr (off := 3) (r := 3) Tryz.underlying26 rfl (tiSl_spec_Tree).size rfl rfl rfl) rfl ?_
      refine ln_pv (pv_ldo (i := 4) rfl Tryz.underlying23 rfl rfl rfl) rfl ?_
      refine ln_callA en_77 rfl (fun u hu => spec_things u _ x.l lc (RS.mv hL hu) (RTs.mv hLs hu)) rfl (fun u1 v1 ht1 hR1 => ?_)
      have hVf := hVf.mv ht1
      have hFf := hFf.mv ht1
      have hf0 := hf0.mv ht1
      have hx := hx.mv ht1
      have hS := hS.mv ht1
      have hU := hU.mv ht1
      have hU1 := hU1.mv ht1
      have hUs := hUs.mv ht1
      have hL := hL.mv ht1
      have hLs := hLs.mv ht1
      obtain ⟨lq, hQ, hQs⟩ := hR1
      obtain ⟨adq, cq, rfl, hleq⟩ := hQ.shape
      have hll := List.length_take_le 32767 x.l
      refine ln_pv (pv_len_slice Tryz.underlying23 rfl) rfl ?_
      refine ln_pv (pv_move rfl) rfl ?_
      refine ln_cd ?_
      refine cd_block ?_
      refine cd_loop (⟨fun (z : Nat × List Value × Value) => [(1, .int .i64 v), (6, .pointer (some ⟨b3, 0, none⟩)), (9, .pointer (some ⟨b4, 0, none⟩)), (10, .pointer (some ⟨b5, 0, none⟩)), (60, .slice adq (x.l.take 32767).length cq), (61, .int .i64 ((x.l.take 32767).length : Int)), (62, .int .i64 ((z.1 : Nat) : Int))], fun (z : Nat × List Value × Value) => [.row z.2.2 26 5 (((x.l.take 32767).take z.1).map (fitF f.one v)).length (z.2.1), .obj b5 (.cells [.int .i64 f.of_, .int .i64 f.frm, .int .i64 f.to, .int .i64 (-1), .int .i64 (-1), .int .i64 f.dflt, .int .i64 f.of_, .slice adf f.sub.length cf].toArray 50), .obj b4 (.cells [.int .i64 0, .slice none 0 0, .bool (decide ((x.l.length : Int) = 0)), z.2.2, .slice none 0 0].toArray 26), .obj b3 (.cells [.int .i64 0, .slice none 0 0, .bool false, .slice none 0 0, .slice none 0 0].toArray 26)], fun (z : Nat × List Value × Value) s => z.1 ≤ (x.l.take 32767).length ∧ RTs s (((x.l.take 32767).take z.1).map (fitF f.one v)) z.2.1, fun (z : Nat × List Value × Value) => (x.l.take 32767).length - z.1⟩ : Lp (Nat × List Value × Value)) (0, [], .slice none 0 0) ?_ ?_ ?_ ?_
      · intro s0 hs0
        exact ⟨Nat.zero_le _, rfl⟩
      · exact ⟨rfl, rfl, rfl, rfl, rfl, rfl, rfl,  trivial⟩
      · exact (.cons_cons _ (.cons_cons _ (.cons_cons _ (.cons_cons _ (.cons _ (.cons _ .slnil))))))
      intro z s1 hl1 hI
      obtain ⟨i, ys, vv⟩ := z
      dsimp only at hI ⊢
      have hVf := hVf.mv hl1
      have hFf := hFf.mv hl1
      have hf0 := hf0.mv hl1
      have hx := hx.mv hl1
      have hS := hS.mv hl1
      have hU := hU.mv hl1
      have hU1 := hU1.mv hl1
      have hUs := hUs.mv hl1
      have hL := hL.mv hl1
      have hLs := hLs.mv hl1
      have hQ := hQ.mv hl1
      have hQs := hQs.mv hl1
      obtain ⟨hI, hIr⟩ := hI
      refine cd_sr ?_
      refine ln_pv (pv_lss rfl rfl) rfl ?_
      refine ln_cd ?_
      refine cd_seq ?_
      refine cd_if rfl (fun hc5 => ?_) (fun hc5 => ?_)
      · -- yes
        refine cd_skip ?_
        refine at_cd ?_
        refine cd_seq ?_
        refine cd_block ?_
        have hi : i < (x.l.take 32767).length := by omega
        obtain ⟨b0, o0, rfl, hrc⟩ := hQ.pos (by omega) (by decide)
        obtain ⟨c1, c2, c3, he, hk, hr⟩ := RTs.at_ hi hQs
        have hsub := hrc.sub (i * 5) he hk
        have hsn : (((x.l.take 32767).take (i + 1)).map (fitF f.one v)) = (((x.l.take 32767).take i).map (fitF f.one v)) ++ [(fitF f.one v) (x.l.take 32767)[i]] := by rw [take_snoc' hi, List.map_append]; rfl
        have hsl : (((x.l.take 32767).take (i + 1)).map (fitF f.one v)).length = (((x.l.take 32767).take i).map (fitF f.one v)).length + 1 := by rw [hsn]; simp
        have hil : (((x.l.take 32767).take i).map (fitF f.one v)).length = i := by rw [List.length_map, List.length_take]; omega
        refine cd_sr ?_
        refine ln_pv (pv_ixN Tryz.underlying23 tispec_Tree.size rfl rfl hi) rfl ?_
        refine ln_pv (pv_ldR hsub Tryz.underlying26 rfl tispec_Tree.size rfl hr.len) rfl ?_
        refine ln_alloc tispec_Tree rfl rfl (fun b6 => ?_)
        refine ln_storeW (i := 0) rfl rfl rfl rfl (tispec_Tree).size hr.len hr.cells ?_
        refine ln_cd ?_
        refine cd_draw' [0, 2, 3, 4] [0, 1, 2, 3, 4, 8] [0, 1, 2, 3, 4, 5, 6, 7, 8, 9] mixed (by kernel_rfl) ?_
        refine lo_pv rfl rfl (sk_js (Tr.refl _) [0, 2, 3, 4] rfl) (pv_fieldAddr (off := 3) (r := 3) Tryz.underlying26 rfl (tiSl_spec_Tree).size rfl rfl rfl) rfl ?_
        refine lo_pv rfl rfl (sk_js (Tr.refl _) [0, 2, 3, 4] rfl) (pv_ldo (i := 2) rfl Tryz.underlying23 rfl rfl rfl) rfl ?_
        refine lo_pv rfl rfl (sk_js (Tr.refl _) [0, 2, 3, 4] rfl) (pv_ldO (i := 1) rfl Tryz.underlying50 rfl (tispec_Field).size rfl rfl) rfl ?_
        refine lo_pv rfl rfl (sk_js (Tr.refl _) [0, 2, 3, 4] rfl) (pv_move rfl) rfl ?_
        refine lo_pv rfl rfl (sk_js (Tr.refl _) [0, 2, 3, 4] rfl) (pv_ldO (i := 0) rfl Tryz.underlying26 rfl (tispec_Tree).size rfl hr.len) rfl ?_
        refine lo_eff rfl rfl ?_
        refine ln_callA en_32 rfl (fun u hu => hO u _ _ v (x.l.take 32767)[i] (RF.one_ (RF.mv hf0 hu)) (RT.mv hr hu) (smTs.take hz4 _ _ hi)) rfl (fun u2 v2 ht2 hR2 => ?_)
        have hVf := hVf.mv ht2
        have hFf := hFf.mv ht2
        have hf0 := hf0.mv ht2
        have hx := hx.mv ht2
        have hS := hS.mv ht2
        have hU := hU.mv ht2
        have hU1 := hU1.mv ht2
        have hUs := hUs.mv ht2
        have hL := hL.mv ht2
        have hLs := hLs.mv ht2
        have hQ := hQ.mv ht2
        have hQs := hQs.mv ht2
        have hIr := hIr.mv ht2
        have hr := hr.mv ht2
        obtain ⟨dsF, rfl, hdsF⟩ := hR2
        refine lo_back (sk_js ht2 [0, 2, 3, 4] rfl) ?_
        refine lo_eff rfl rfl ?_
        refine ln_lit (vs := [_]) Tryz.underlying23 tispec_Tree rfl (by decide) rfl rfl rfl (by simp [partsOk, Value.cells, hdsF.len]; try exact .inl rfl) rfl rfl (fun b7 => ?_)
        refine lo_back (sk_js ht2 [1, 3, 4, 5] rfl) ?_
        refine lo_eff rfl rfl ?_
        refine ln_append (i := 2) rfl Tryz.underlying23 tispec_Tree rfl (by decide) rfl rfl (src_obj (j := 0) rfl (by simp [flat, Value.cells, hdsF.len]) (List.all_eq_true.2 (by simpa [flat, Value.cells] using hdsF.cells))) (by rw [hil]; first | omega | (simp only [maxLen]; omega)) (by rw [hil]; first | omega | (simp only [maxLen]; omega)) rfl (k' := (((x.l.take 32767).take (i + 1)).map (fitF f.one v)).length) (xs' := ys ++ dsF) hsl.symm (by simp [flat, Value.cells]) (fun v3 hv3 => ?_)
        refine lo_back (sk_js ht2 [1, 3, 4, 5] rfl) ?_
        refine lo_pv rfl rfl (sk_js ht2 [1, 3, 4, 5] rfl) (pv_fieldAddr (off := 3) (r := 3) Tryz.underlying26 rfl (tiSl_spec_Tree).size rfl rfl rfl) rfl ?_
        refine lo_eff rfl rfl ?_
        refine ln_store1 (i := 4) rfl rfl rfl hv3.2 (tiSl_spec_Tree).size rfl ?_
        refine lo_last (by kernel_rfl) ?_
        refine lo_nil ?_
        refine at_cd ?_
        refine cd_region ?_
        refine ln_pv (pv_add' rfl rfl (wrap_succ (by omega))) rfl ?_
        refine ln_pv (pv_move rfl) rfl ?_
        refine ln_nil ?_
        refine at_rnd (i + 1, ys ++ dsF, v3) (hl1.trans ht2) ?_ ?_ ⟨rfl, rfl, rfl, rfl, rfl, rfl, rfl,  trivial⟩ (.cons _ (.cons _ (.cons_cons _ (.cons_cons _ (.cons_cons _ (.cons_cons _ .slnil))))))
        · intro s9 hs9
          exact ⟨by dsimp only; omega, by rw [hsn]; exact RTs.append (RTs.mv hIr hs9) (RTs.one (RT.mv hdsF hs9))⟩
        · dsimp only; omega
      · -- no
        refine cd_exit rfl ?_
        refine at_cd ?_
        refine cd_rowone (i := 0) rfl (fun hoL => ?_)
        refine cd_sr ?_
        refine ln_pv (pv_ldO (i := 2) rfl Tryz.underlying26 rfl (tispec_Tree).size rfl rfl) rfl ?_
        refine ln_storeW (i := 3) rfl rfl rfl rfl (tispec_Tree).size rfl (by simp [hoL]) ?_
        refine ln_cd ?_
        refine cd_ret ?_
        refine at_retC (i := 3) rfl rfl rfl Tryz.underlying26 rfl tispec_Tree.size rfl (fun w hS => ?_)
        have hi2 : i = (x.l.take 32767).length := by omega
        subst hi2
        rw [fitF_eq f v x ho, if_neg (not_or.2 ⟨h8, h9⟩), if_neg h10, if_pos h11, hnb]
        rw [show (false || decide (f.tag ≥ 0) && decide (x.l.length = 0)) = decide ((x.l.length : Int) = 0) by simp [htg]]
        rw [List.take_length] at hIr
        refine ⟨_, rfl, RT.shut ⟨_, _, _, rfl, by simp [Tre.n, I64], rs_nil _ 1, ⟨ys, ?_, RTs.mv hIr hS.trFin⟩, ⟨[], rs_nil _ 2, rfl⟩⟩⟩
        have h := row_rs hS (j := 0) rfl (RTs.cells hIr)
        have e : (List.map (fitF f.one v) (x.l.take 32767)).length = (((x.l.take 32767).take (x.l.take 32767).length).map (fitF f.one v)).length := by rw [List.take_length]
        show RS _ 5 _ (List.map (fitF f.one v) (x.l.take 32767)).length _
        rw [e]
        exact h
    · skip
      refine cd_sr ?_
      refine ln_box rfl rfl rfl (fun b1 => ?_)
      refine ln_box rfl rfl rfl (fun b2 => ?_)
      refine ln_alloc tispec_Tree rfl rfl (fun b3 => ?_)
      refine ln_cd ?_
      refine cd_sr ?_
      refine ln_pv (pv_ldO (i := 2) rfl Tryz.underlying50 rfl (tispec_Field).size rfl rfl) rfl ?_
      refine ln_pv (pv_move rfl) rfl ?_
      refine ln_pv (pv_ldO (i := 1) rfl Tryz.underlying26 rfl (tispec_Tree).size rfl rfl) rfl ?_
      refine ln_callS en_76 rfl (fun u hu => by have h := spec_null u f _ v x _ (RF.mv hf0 hu) (RT.mv hx hu); rwa [hnb] at h) rfl ?_
      refine ln_pv (pv_assign rfl) rfl ?_
      refine ln_cd ?_
      refine cd_seq ?_
      refine cd_sr ?_
      refine ln_pv (pv_fieldAddr (off := 0) (r := 0) Tryz.underlying50 rfl (tiint).size rfl rfl rfl) rfl ?_
      refine ln_pv (pv_ldo (i := 2) rfl Tryz.underlying3 rfl rfl rfl) rfl ?_
      refine ln_cd ?_
      refine cd_block ?_
      refine cd_seq ?_
      refine cd_sr ?_
      refine ln_pv (pv_ff (pv_eql rfl rfl) h8) rfl ?_
      refine ln_pv (pv_assign rfl) rfl ?_
      refine ln_cd ?_
      refine cd_ff rfl ?_
      refine cd_region ?_
      refine ln_pv (pv_ff (pv_eql rfl rfl) h9) rfl ?_
      refine ln_pv (pv_assign rfl) rfl ?_
      refine ln_nil ?_
      refine at_cd ?_
      refine cd_ff rfl ?_
      refine cd_sr ?_
      refine ln_pv (pv_ff (pv_eql rfl rfl) h10) rfl ?_
      refine ln_pv (pv_assign rfl) rfl ?_
      refine ln_cd ?_
      refine cd_ff rfl ?_
      refine cd_sr ?_
      refine ln_pv (pv_tt (pv_eql rfl rfl) h11) rfl ?_
      refine ln_pv (pv_assign rfl) rfl ?_
      refine ln_cd ?_
      refine cd_tt rfl ?_
      refine cd_sr ?_
      refine ln_pv (pv_move rfl) rfl ?_
      refine ln_pv (pv_move rfl) rfl ?_
      refine ln_gt rfl rfl rfl (pv_fieldAddr (off := 4) (r := 4) Tryz.underlying50 rfl (tiint).size rfl rfl rfl) rfl ?_
      refine ln_gt rfl rfl rfl (pv_ldo (i := 2) rfl Tryz.underlying3 rfl rfl rfl) rfl ?_
      refine ln_gt rfl rfl rfl (pv_ff (pv_geq rfl rfl) htg) rfl ?_
      refine ln_gt rfl rfl rfl (pv_move rfl) rfl ?_
      refine ln_gf rfl rfl rfl rfl rfl ?_
      refine ln_gf rfl rfl rfl rfl rfl ?_
      refine ln_gf rfl rfl rfl rfl rfl ?_
      refine ln_gf rfl rfl rfl rfl rfl ?_
      refine ln_gt rfl rfl rfl (pv_pick rfl (fun _ => rfl) (fun _ => rfl)) rfl ?_
      refine ln_pv (pv_pick rfl (fun _ => rfl) (fun _ => rfl)) rfl ?_
      refine ln_pv (pv_struct [(0, 1), (1, 1), (2, 1), (3, 1), (4, 1)] (l := [_, _, _, _, _]) rfl Tryz.underlying26 tispec_Tree (by kernel_rfl) rfl rfl) rfl ?_
      refine ln_alloc tispec_Tree rfl rfl (fun b4 => ?_)
      refine ln_storeW (i := 0) rfl rfl rfl rfl (tispec_Tree).size rfl (by simp []) ?_
      refine ln_cd ?_
      refine cd_sr ?_
      refine ln_pv (pv_ldO (i := 3) rfl Tryz.underlying50 rfl (tispec_Field).size rfl rfl) rfl ?_
      refine ln_alloc tispec_Field rfl rfl (fun b5 => ?_)
      refine ln_storeW (i := 0) rfl rfl rfl rfl (tispec_Field).size rfl (by simp [(RS.one hVf)]) ?_
      refine ln_cd ?_
      refine cd_sr ?_
      refine ln_pv (pv_fieldAddr (off := 6) (r := 6) Tryz.underlying50 rfl (tiint).size rfl rfl rfl) rfl ?_
      refine ln_pv (pv_ldo (i := 4) rfl Tryz.underlying3 rfl rfl rfl) rfl ?_
      refine ln_pv (pv_fieldAddr (off := 0) (r := 0) Tryz.underlying50 rfl (tiint).size rfl rfl rfl) rfl ?_
      refine ln_store1 (i := 0) rfl rfl rfl rfl (tiint).size rfl ?_
      refine ln_pv (pv_fieldAddr (off := 3) (r := 3) Tryz.underlying50 rfl (tiint).size rfl rfl rfl) rfl ?_
      refine ln_store1 (i := 0) rfl rfl rfl rfl (tiint).size rfl ?_
      refine ln_pv (pv_fieldAddr (off := 4) (r := 4) Tryz.underlying50 rfl (tiint).size rfl rfl rfl) rfl ?_
      refine ln_store1 (i := 0) rfl rfl rfl rfl (tiint).size rfl ?_
      refine ln_cd ?_
      refine cd_seq ?_
      refine cd_nilrow 26 5 ?_
      refine cd_sr ?_
      refine ln_pv (pv_fieldAddr (off := 3) (r := 3) Tryz.underlying26 rfl (tiSl_spec_Tree).size rfl rfl rfl) rfl ?_
      refine ln_pv (pv_ldo (i := 4) rfl Tryz.underlying23 rfl rfl rfl) rfl ?_
      refine ln_callA en_77 rfl (fun u hu => spec_things u _ x.l lc (RS.mv hL hu) (RTs.mv hLs hu)) rfl (fun u1 v1 ht1 hR1 => ?_)
      have hVf := hVf.mv ht1
      have hFf := hFf.mv ht1
      have hf0 := hf0.mv ht1
      have hx := hx.mv ht1
      have hS := hS.mv ht1
      have hU := hU.mv ht1
      have hU1 := hU1.mv ht1
      have hUs := hUs.mv ht1
      have hL := hL.mv ht1
      have hLs := hLs.mv ht1
      obtain ⟨lq, hQ, hQs⟩ := hR1
      obtain ⟨adq, cq, rfl, hleq⟩ := hQ.shape
      have hll := List.length_take_le 32767 x.l
      refine ln_pv (pv_len_slice Tryz.underlying23 rfl) rfl ?_
      refine ln_pv (pv_move rfl) rfl ?_
      refine ln_cd ?_
      refine cd_block ?_
      refine cd_loop (⟨fun (z : Nat × List Value × Value) => [(1, .int .i64 v), (6, .pointer (some ⟨b3, 0, none⟩)), (9, .pointer (some ⟨b4, 0, none⟩)), (10, .pointer (some ⟨b5, 0, none⟩)), (60, .slice adq (x.l.take 32767).length cq), (61, .int .i64 ((x.l.take 32767).length : Int)), (62, .int .i64 ((z.1 : Nat) : Int))], fun (z : Nat × List Value × Value) => [.row z.2.2 26 5 (((x.l.take 32767).take z.1).map (fitF f.one v)).length (z.2.1), .obj b5 (.cells [.int .i64 f.of_, .int .i64 f.frm, .int .i64 f.to, .int .i64 (-1), .int .i64 (-1), .int .i64 f.dflt, .int .i64 f.of_, .slice adf f.sub.length cf].toArray 50), .obj b4 (.cells [.int .i64 0, .slice none 0 0, .bool false, z.2.2, .slice none 0 0].toArray 26), .obj b3 (.cells [.int .i64 0, .slice none 0 0, .bool false, .slice none 0 0, .slice none 0 0].toArray 26)], fun (z : Nat × List Value × Value) s => z.1 ≤ (x.l.take 32767).length ∧ RTs s (((x.l.take 32767).take z.1).map (fitF f.one v)) z.2.1, fun (z : Nat × List Value × Value) => (x.l.take 32767).length - z.1⟩ : Lp (Nat × List Value × Value)) (0, [], .slice none 0 0) ?_ ?_ ?_ ?_
      · intro s0 hs0
        exact ⟨Nat.zero_le _, rfl⟩
      · exact ⟨rfl, rfl, rfl, rfl, rfl, rfl, rfl,  trivial⟩
      · exact (.cons_cons _ (.cons_cons _ (.cons_cons _ (.cons_cons _ (.cons _ (.cons _ .slnil))))))
      intro z s1 hl1 hI
      obtain ⟨i, ys, vv⟩ := z
      dsimp only at hI ⊢
      have hVf := hVf.mv hl1
      have hFf := hFf.mv hl1
      have hf0 := hf0.mv hl1
      have hx := hx.mv hl1
      have hS := hS.mv hl1
      have hU := hU.mv hl1
      have hU1 := hU1.mv hl1
      have hUs := hUs.mv hl1
      have hL := hL.mv hl1
      have hLs := hLs.mv hl1
      have hQ := hQ.mv hl1
      have hQs := hQs.mv hl1
      obtain ⟨hI, hIr⟩ := hI
      refine cd_sr ?_
      refine ln_pv (pv_lss rfl rfl) rfl ?_
      refine ln_cd ?_
      refine cd_seq ?_
      refine cd_if rfl (fun hc5 => ?_) (fun hc5 => ?_)
      · -- yes
        refine cd_skip ?_
        refine at_cd ?_
        refine cd_seq ?_
        refine cd_block ?_
        have hi : i < (x.l.take 32767).length := by omega
        obtain ⟨b0, o0, rfl, hrc⟩ := hQ.pos (by omega) (by decide)
        obtain ⟨c1, c2, c3, he, hk, hr⟩ := RTs.at_ hi hQs
        have hsub := hrc.sub (i * 5) he hk
        have hsn : (((x.l.take 32767).take (i + 1)).map (fitF f.one v)) = (((x.l.take 32767).take i).map (fitF f.one v)) ++ [(fitF f.one v) (x.l.take 32767)[i]] := by rw [take_snoc' hi, List.map_append]; rfl
        have hsl : (((x.l.take 32767).take (i + 1)).map (fitF f.one v)).length = (((x.l.take 32767).take i).map (fitF f.one v)).length + 1 := by rw [hsn]; simp
        have hil : (((x.l.take 32767).take i).map (fitF f.one v)).length = i := by rw [List.length_map, List.length_take]; omega
        refine cd_sr ?_
        refine ln_pv (pv_ixN Tryz.underlying23 tispec_Tree.size rfl rfl hi) rfl ?_
        refine ln_pv (pv_ldR hsub Tryz.underlying26 rfl tispec_Tree.size rfl hr.len) rfl ?_
        refine ln_alloc tispec_Tree rfl rfl (fun b6 => ?_)
        refine ln_storeW (i := 0) rfl rfl rfl rfl (tispec_Tree).size hr.len hr.cells ?_
        refine ln_cd ?_
        refine cd_draw' [0, 2, 3, 4] [0, 1, 2, 3, 4, 8] [0, 1, 2, 3, 4, 5, 6, 7, 8, 9] mixed (by kernel_rfl) ?_
        refine lo_pv rfl rfl (sk_js (Tr.refl _) [0, 2, 3, 4] rfl) (pv_fieldAddr (off := 3) (r := 3) Tryz.underlying26 rfl (tiSl_spec_Tree).size rfl rfl rfl) rfl ?_
        refine lo_pv rfl rfl (sk_js (Tr.refl _) [0, 2, 3, 4] rfl) (pv_ldo (i := 2) rfl Tryz.underlying23 rfl rfl rfl) rfl ?_
        refine lo_pv rfl rfl (sk_js (Tr.refl _) [0, 2, 3, 4] rfl) (pv_ldO (i := 1) rfl Tryz.underlying50 rfl (tispec_Field).size rfl rfl) rfl ?_
        refine lo_pv rfl rfl (sk_js (Tr.refl _) [0, 2, 3, 4] rfl) (pv_move rfl) rfl ?_
        refine lo_pv rfl rfl (sk_js (Tr.refl _) [0, 2, 3, 4] rfl) (pv_ldO (i := 0) rfl Tryz.underlying26 rfl (tispec_Tree).size rfl hr.len) rfl ?_
        refine lo_eff rfl rfl ?_
        refine ln_callA en_32 rfl (fun u hu => hO u _ _ v (x.l.take 32767)[i] (RF.one_ (RF.mv hf0 hu)) (RT.mv hr hu) (smTs.take hz4 _ _ hi)) rfl (fun u2 v2 ht2 hR2 => ?_)
        have hVf := hVf.mv ht2
        have hFf := hFf.mv ht2
        have hf0 := hf0.mv ht2
        have hx := hx.mv ht2
        have hS := hS.mv ht2
        have hU := hU.mv ht2
        have hU1 := hU1.mv ht2
        have hUs := hUs.mv ht2
        have hL := hL.mv ht2
        have hLs := hLs.mv ht2
        have hQ := hQ.mv ht2
        have hQs := hQs.mv ht2
        have hIr := hIr.mv ht2
        have hr := hr.mv ht2
        obtain ⟨dsF, rfl, hdsF⟩ := hR2
        refine lo_back (sk_js ht2 [0, 2, 3, 4] rfl) ?_
        refine lo_eff rfl rfl ?_
        refine ln_lit (vs := [_]) Tryz.underlying23 tispec_Tree rfl (by decide) rfl rfl rfl (by simp [partsOk, Value.cells, hdsF.len]; try exact .inl rfl) rfl rfl (fun b7 => ?_)
        refine lo_back (sk_js ht2 [1, 3, 4, 5] rfl) ?_
        refine lo_eff rfl rfl ?_
        refine ln_append (i := 2) rfl Tryz.underlying23 tispec_Tree rfl (by decide) rfl rfl (src_obj (j := 0) rfl (by simp [flat, Value.cells, hdsF.len]) (List.all_eq_true.2 (by simpa [flat, Value.cells] using hdsF.cells))) (by rw [hil]; first | omega | (simp only [maxLen]; omega)) (by rw [hil]; first | omega | (simp only [maxLen]; omega)) rfl (k' := (((x.l.take 32767).take (i + 1)).map (fitF f.one v)).length) (xs' := ys ++ dsF) hsl.symm (by simp [flat, Value.cells]) (fun v3 hv3 => ?_)
        refine lo_back (sk_js ht2 [1, 3, 4, 5] rfl) ?_
        refine lo_pv rfl rfl (sk_js ht2 [1, 3, 4, 5] rfl) (pv_fieldAddr (off := 3) (r := 3) Tryz.underlying26 rfl (tiSl_spec_Tree).size rfl rfl rfl) rfl ?_
        refine lo_eff rfl rfl ?_
        refine ln_store1 (i := 4) rfl rfl rfl hv3.2 (tiSl_spec_Tree).size rfl ?_
        refine lo_last (by kernel_rfl) ?_
        refine lo_nil ?_
        refine at_cd ?_
        refine cd_region ?_
        refine ln_pv (pv_add' rfl rfl (wrap_succ (by omega))) rfl ?_
        refine ln_pv (pv_move rfl) rfl ?_
        refine ln_nil ?_
        refine at_rnd (i + 1, ys ++ dsF, v3) (hl1.trans ht2) ?_ ?_ ⟨rfl, rfl, rfl, rfl, rfl, rfl, rfl,  trivial⟩ (.cons _ (.cons _ (.cons_cons _ (.cons_cons _ (.cons_cons _ (.cons_cons _ .slnil))))))
        · intro s9 hs9
          exact ⟨by dsimp only; omega, by rw [hsn]; exact RTs.append (RTs.mv hIr hs9) (RTs.one (RT.mv hdsF hs9))⟩
        · dsimp only; omega
      · -- no
        refine cd_exit rfl ?_
        refine at_cd ?_
        refine cd_rowone (i := 0) rfl (fun hoL => ?_)
        refine cd_sr ?_
        refine ln_pv (pv_ldO (i := 2) rfl Tryz.underlying26 rfl (tispec_Tree).size rfl rfl) rfl ?_
        refine ln_storeW (i := 3) rfl rfl rfl rfl (tispec_Tree).size rfl (by simp [hoL]) ?_
        refine ln_cd ?_
        refine cd_ret ?_
        refine at_retC (i := 3) rfl rfl rfl Tryz.underlying26 rfl tispec_Tree.size rfl (fun w hS => ?_)
        have hi2 : i = (x.l.take 32767).length := by omega
        subst hi2
        rw [fitF_eq f v x ho, if_neg (not_or.2 ⟨h8, h9⟩), if_neg h10, if_pos h11, hnb]
        rw [show (false || decide (f.tag ≥ 0) && decide (x.l.length = 0)) = false by simp [htg]]
        rw [List.take_length] at hIr
        refine ⟨_, rfl, RT.shut ⟨_, _, _, rfl, by simp [Tre.n, I64], rs_nil _ 1, ⟨ys, ?_, RTs.mv hIr hS.trFin⟩, ⟨[], rs_nil _ 2, rfl⟩⟩⟩
        have h := row_rs hS (j := 0) rfl (RTs.cells hIr)
        have e : (List.map (fitF f.one v) (x.l.take 32767)).length = (((x.l.take 32767).take (x.l.take 32767).length).map (fitF f.one v)).length := by rw [List.take_length]
        show RS _ 5 _ (List.map (fitF f.one v) (x.l.take 32767)).length _
        rw [e]
        exact h
mutual
def ofOk : Fld → Bool
  | .mk _ _ _ _ _ _ o sub => decide (o ≠ 11) && ofOks sub
def ofOks : List Fld → Bool
  | [] => true
  | f :: r => ofOk f && ofOks r
end
theorem ofOks.mem : ∀ {l : List Fld}, ofOks l = true → ∀ f ∈ l, ofOk f = true
  | [], _, f, h => by simp at h
  | g :: r, h, f, hf => by
    simp only [ofOks, Bool.and_eq_true] at h
    rcases List.mem_cons.1 hf with rfl | hf
    · exact h.1
    · exact ofOks.mem h.2 f hf
theorem ofOk.of {f : Fld} (h : ofOk f = true) : f.of_ ≠ 11 ∧ ofOks f.sub = true := by
  cases f
  simpa only [ofOk, Bool.and_eq_true, decide_eq_true_eq, Fld.of_, Fld.sub] using h
theorem spec_fitted1 (f : Fld) (ho : f.of_ ≠ 11) (hP : FitC f.sub) : FittedC f := by
  by_cases h : f.kind = 11
  · exact spec_fittedB f ho h (spec_fittedA f.one (by cases f; exact ho) (by cases f; exact ho) (by cases f; exact hP))
  · exact spec_fittedA f ho h hP
theorem spec_Fit_n : ∀ (n : Nat) (fs : List Fld), SizeOf.sizeOf fs < n → okFs fs = true → ofOks fs = true → fs.length < 1000000 → FitC fs
  | 0, _, h, _, _, _ => absurd h (by omega)
  | n + 1, fs, h, hok, ho, hl => spec_Fit1 fs hok hl fun g hg => spec_fitted1 g (ofOk.of (ofOks.mem ho g hg)).1 (spec_Fit_n n g.sub (by
      have h1 := List.sizeOf_lt_of_mem hg
      cases g
      simp only [Fld.sub]
      simp only [Fld.mk.sizeOf_spec] at h1
      omega) (okF.sub (okFs.mem hok g hg)) (ofOk.of (ofOks.mem ho g hg)).2 (okF.len (okFs.mem hok g hg)))
theorem spec_Fit (fs : List Fld) (hok : okFs fs = true) (ho : ofOks fs = true) (hl : fs.length < 1000000) : FitC fs := spec_Fit_n _ fs (Nat.lt_succ_self _) hok ho hl
end K
end Go.Proofs.YtmknncmdbmnmgabGreat
