import Derived.Test.YtoledocfkjohhaaM4
set_option linter.unusedVariables false
set_option linter.unusedSimpArgs false
namespace Go.Proofs.Ytoledocfkjohhaa
namespace K
open Go Go.Lib
theorem Msg_AddOffsetsToTxnResponse.mv {s t : Vw} {v : Int} {x : Tre} {cells : List Value} (h : Msg_AddOffsetsToTxnResponse s v x cells) (ht : Tr s t) : Msg_AddOffsetsToTxnResponse t v x cells := by
  obtain ⟨mv, l, rfl, hMK, hRK⟩ := h
  exact ⟨_, _, rfl, hMK.mv ht, RK.mv ht hRK⟩
theorem make_AddOffsetsToTxnResponse (hTE : TagsEachC) (t : Vw) (v : Int) (x : Tre) (cs : List Value) (hx : RT t x cs) (hsm : smT x) (hk : (x.u.map (·.1)).Nodup) (hfit : FitOk F_AddOffsetsToTxnResponse v x) (h0 : 0 ≤ v) (h1 : v ≤ 4) (hB : (writeB F_AddOffsetsToTxnResponse 3 v x).length ≤ 4398046511104) : CA Try.prog 13 [.int .i64 v, .agg cs.toArray] t fun u r => RSv u r (writeB F_AddOffsetsToTxnResponse 3 v x) := by
  obtain ⟨sS, sL, sU, rfl, hn, hS, ⟨lc, hL, hLs⟩, hU⟩ := hx.open
  obtain ⟨adS, cS, rfl, hleS⟩ := hS.shape
  obtain ⟨adL, cL, rfl, hleL⟩ := hL.shape
  have hU0 := hU
  obtain ⟨uc, hU1, hUs⟩ := hU0
  obtain ⟨hz1, hz2, hz3, hz4⟩ := hsm.open
  refine ca_enter Try.func13 rfl Try.ntmps13 rfl ?_
  refine cd_sr ?_
  refine ln_box rfl rfl rfl (fun b1 => ?_)
  refine ln_pv (pv_assign rfl) rfl ?_
  refine ln_cd ?_
  refine cd_sr ?_
  refine ln_pv (pv_struct [(0, 1), (1, 1), (2, 1), (3, 1)] (l := [_, _, _, _]) rfl Try.underlying55 tipub_kmsg_AddOffsetsToTxnResponse (by kernel_rfl) rfl rfl) rfl ?_
  refine ln_box rfl rfl rfl (fun b2 => ?_)
  refine ln_pv (pv_assign rfl) rfl ?_
  refine ln_cd ?_
  refine cd_sr ?_
  refine ln_pv (pv_move rfl) rfl ?_
  refine ln_pv (pv_move rfl) rfl ?_
  refine ln_pv (pv_conv' Try.underlying3 Try.underlying45 rfl (r := v) (wrap_i16_in (by omega) (by omega))) rfl ?_
  refine ln_callT (i := 0) en_32 rfl rfl (fun u hu hok hav => setv_AddOffsetsToTxnResponse u _ v hok hav) rfl ?_
  rintro u1 v1 _ ht1 ⟨_, rfl, _⟩
  have hx := hx.mv ht1
  refine ln_cd ?_
  refine cd_sr ?_
  refine ln_pv (pv_move rfl) rfl ?_
  refine ln_pv (pv_ldO (i := 1) rfl Try.underlying39 rfl (tiimpl_Tree).size rfl rfl) rfl ?_
  refine ln_callT (i := 0) en_33 rfl rfl (fun u hu hok hav => fill_AddOffsetsToTxnResponse u _ v x _ (RT.mv hx hu) hsm hk hok hav) rfl ?_
  rintro u2 v2 _ ht2 ⟨_, ⟨cells, rfl, hM⟩, hxu⟩
  have hM := hM.mv hxu
  have hx := hx.mv ht2
  refine ln_cd ?_
  refine cd_free (fun s9 hs9 hK => ?_)
  have hob : OB s9 _ (.cells cells.toArray 55) := hK _ (List.mem_of_getElem? (i := 0) rfl)
  clear hK
  have hx := hx.mv hs9
  have hM := hM.mv hs9
  refine cd_sr ?_
  refine ln_pv (pv_move rfl) rfl ?_
  refine ln_nilrow 5 1 ?_
  refine ln_callT (i := 0) en_34 rfl rfl (fun u hu hok hav => append_AddOffsetsToTxnResponse hTE u _ v x cells _ [] (hob.mv hu) (hM.mv hu) hfit h0 h1 (by simpa using hB) hok hav) rfl ?_
  rintro u3 v3 _ ht3 ⟨_, ⟨rfl, h1v3⟩, _⟩
  have hx := hx.mv ht3
  have hM := hM.mv ht3
  have hob := hob.mv ht3
  refine ln_pv (pv_assign rfl) rfl ?_
  refine ln_cd ?_
  refine cd_ret ?_
  refine at_retA rfl rfl (fun w hS => ?_)
  exact row_rs hS (j := 0) rfl (u8s_one _)
theorem law_AddOffsetsToTxnResponse (hTE : TagsEachC) (t : Vw) (n : Nat) (x : Tre) (cs : List Value) (hn8 : n < 256) (hx : RT t x cs) (hsm : smT x) (hsmF : smT (fitT F_AddOffsetsToTxnResponse ((versionN n 4 : Nat) : Int) x)) (hkF : ((fitT F_AddOffsetsToTxnResponse ((versionN n 4 : Nat) : Int) x).u.map (·.1)).Nodup) (hfit : FitOk F_AddOffsetsToTxnResponse ((versionN n 4 : Nat) : Int) (fitT F_AddOffsetsToTxnResponse ((versionN n 4 : Nat) : Int) x)) (hlaw : writeB F_AddOffsetsToTxnResponse 3 ((versionN n 4 : Nat) : Int) (fitT F_AddOffsetsToTxnResponse ((versionN n 4 : Nat) : Int) x) = writeB F_AddOffsetsToTxnResponse 3 ((versionN n 4 : Nat) : Int) x) (hB : (writeB F_AddOffsetsToTxnResponse 3 ((versionN n 4 : Nat) : Int) x).length < 1099511627776) : CS Try.prog 3 [.int .u8 (n : Int), .agg cs.toArray] t (.bool true) := by
  obtain ⟨sS, sL, sU, rfl, hn, hS, ⟨lc, hL, hLs⟩, hU⟩ := hx.open
  obtain ⟨adS, cS, rfl, hleS⟩ := hS.shape
  obtain ⟨adL, cL, rfl, hleL⟩ := hL.shape
  have hU0 := hU
  obtain ⟨uc, hU1, hUs⟩ := hU0
  obtain ⟨hz1, hz2, hz3, hz4⟩ := hsm.open
  have hok := ok_F_AddOffsetsToTxnResponse
  have hvn : versionN n 4 ≤ 4 := by have := Nat.mod_lt n (show 0 < 4 + 1 by omega); unfold versionN; omega
  refine CA.cs ?_
  refine ca_enter Try.func3 rfl Try.ntmps3 rfl ?_
  cases hft : fits1 x with
  | false =>
    refine cd_sr ?_
    refine ln_box rfl rfl rfl (fun b1 => ?_)
    refine ln_pv (pv_assign rfl) rfl ?_
    refine ln_cd ?_
    refine cd_seq ?_
    refine cd_sr ?_
    refine ln_pv (pv_ldO (i := 0) rfl Try.underlying26 rfl (tispec_Tree).size rfl rfl) rfl ?_
    refine ln_callS en_8 rfl (fun u hu => by have h := laws_zzFits1 u x _ (RT.mv hx hu) (by omega); rwa [hft] at h) rfl ?_
    refine ln_pv (pv_not rfl) rfl ?_
    refine ln_cd ?_
    refine cd_tt rfl ?_
    refine cd_sr ?_
    refine ln_pv (pv_assign rfl) rfl ?_
    refine ln_cd ?_
    refine cd_ret ?_
    refine at_retA rfl rfl (fun w hS => ?_)
    rfl
  | true =>
    refine cd_sr ?_
    refine ln_box rfl rfl rfl (fun b1 => ?_)
    refine ln_pv (pv_assign rfl) rfl ?_
    refine ln_cd ?_
    refine cd_seq ?_
    refine cd_sr ?_
    refine ln_pv (pv_ldO (i := 0) rfl Try.underlying26 rfl (tispec_Tree).size rfl rfl) rfl ?_
    refine ln_callS en_8 rfl (fun u hu => by have h := laws_zzFits1 u x _ (RT.mv hx hu) (by omega); rwa [hft] at h) rfl ?_
    refine ln_pv (pv_not rfl) rfl ?_
    refine ln_cd ?_
    refine cd_ff rfl ?_
    refine cd_skip ?_
    refine at_cd ?_
    refine cd_sr ?_
    refine ln_callS en_9 rfl (fun u hu => max_AddOffsetsToTxnResponse u) rfl ?_
    refine ln_pv (pv_assign rfl) rfl ?_
    refine ln_cd ?_
    refine cd_seq ?_
    refine cd_sr ?_
    refine ln_pv (pv_move rfl) rfl ?_
    refine ln_pv (pv_ff (pv_lss rfl rfl) (by omega)) rfl ?_
    refine ln_cd ?_
    refine cd_ff rfl ?_
    refine cd_skip ?_
    refine at_cd ?_
    refine cd_sr ?_
    refine ln_callA en_10 rfl (fun u hu => sch_F_AddOffsetsToTxnResponse u) rfl (fun u1 v1 ht1 hR1 => ?_)
    have hx := hx.mv ht1
    obtain ⟨sv, lcm, rfl, hVm, hFm⟩ := hR1
    refine ln_pv (pv_move rfl) rfl ?_
    refine ln_pv (pv_move rfl) rfl ?_
    refine ln_callS en_11 rfl (fun u hu => laws_version u n 4 hn8 (by omega)) rfl ?_
    refine ln_alloc tispec_Message rfl rfl (fun b2 => ?_)
    refine ln_storeW (i := 0) rfl rfl rfl rfl (tispec_Message).size rfl (by simp [(RS.one hVm)]) ?_
    refine ln_pv (pv_assign rfl) rfl ?_
    refine ln_cd ?_
    refine cd_dr' [0, 1] [0, 1, 2, 3, 4, 8, 9, 10, 13] [0, 1, 2, 3, 4, 8, 9, 10, 5, 6, 7, 11, 12, 13] mixed (by kernel_rfl) ?_
    refine lo_pv rfl rfl (sk_js (Tr.refl _) [0, 1] rfl) (pv_move rfl) rfl ?_
    refine lo_pv rfl rfl (sk_js (Tr.refl _) [0, 1] rfl) (pv_fieldAddr (off := 0) (r := 0) Try.underlying31 rfl (tiSl_spec_Field).size rfl rfl rfl) rfl ?_
    refine lo_pv rfl rfl (sk_js (Tr.refl _) [0, 1] rfl) (pv_ldo (i := 0) rfl Try.underlying29 rfl rfl rfl) rfl ?_
    refine lo_pv rfl rfl (sk_js (Tr.refl _) [0, 1] rfl) (pv_move rfl) rfl ?_
    refine lo_pv rfl rfl (sk_js (Tr.refl _) [0, 1] rfl) (pv_ldO (i := 1) rfl Try.underlying26 rfl (tispec_Tree).size rfl rfl) rfl ?_
    refine lo_pv rfl rfl (sk_js (Tr.refl _) [0, 1] rfl) (pv_ldO (i := 0) rfl Try.underlying31 rfl (tispec_Message).size rfl rfl) rfl ?_
    refine lo_pv rfl rfl (sk_js (Tr.refl _) [0, 1] rfl) (pv_move rfl) rfl ?_
    refine lo_pv rfl rfl (sk_js (Tr.refl _) [0, 1] rfl) (pv_ldO (i := 1) rfl Try.underlying26 rfl (tispec_Tree).size rfl rfl) rfl ?_
    refine lo_eff rfl rfl ?_
    refine ln_callA en_15 rfl (fun u hu => spec_Fit F_AddOffsetsToTxnResponse hok.1 hok.2.1 hok.2.2 u _ _ _ ((versionN n 4 : Nat) : Int) x (RS.mv hVm hu) (RFs.mv hFm hu) (RT.mv hx hu) hsm) rfl (fun u2 v2 ht2 hR2 => ?_)
    have hx := hx.mv ht2
    have hVm := hVm.mv ht2
    have hFm := hFm.mv ht2
    obtain ⟨dF, rfl, hdF⟩ := hR2
    refine lo_back (sk_js ht2 [0, 1] rfl) ?_
    refine lo_eff rfl rfl ?_
    refine ln_callA en_14 rfl (fun u hu => spec_given (fitT F_AddOffsetsToTxnResponse ((versionN n 4 : Nat) : Int) x) u _ (RT.mv hdF hu) hsmF) rfl (fun u3 v3 ht3 hR3 => ?_)
    have hx := hx.mv ht3
    have hVm := hVm.mv ht3
    have hFm := hFm.mv ht3
    have hdF := hdF.mv ht3
    obtain ⟨dG, rfl, hdG⟩ := hR3
    refine lo_back (sk_js (ht2.trans ht3) [0, 1] rfl) ?_
    refine lo_eff rfl rfl ?_
    refine ln_callA en_13 rfl (fun u hu => make_AddOffsetsToTxnResponse hTE u ((versionN n 4 : Nat) : Int) (fitT F_AddOffsetsToTxnResponse ((versionN n 4 : Nat) : Int) x) _ (RT.mv hdG hu) hsmF hkF hfit (by omega) (by omega) (by rw [hlaw]; omega)) rfl (fun u4 v4 ht4 hR4 => ?_)
    have hx := hx.mv ht4
    have hVm := hVm.mv ht4
    have hFm := hFm.mv ht4
    have hdF := hdF.mv ht4
    have hdG := hdG.mv ht4
    refine lo_back (sk_js ((ht2.trans ht3).trans ht4) [0, 1] rfl) ?_
    refine lo_eff rfl rfl ?_
    refine ln_callA en_16 rfl (fun u hu => spec_Write F_AddOffsetsToTxnResponse 3 hok.1 hok.2.2 u _ _ _ ((versionN n 4 : Nat) : Int) x (RS.mv hVm hu) (RFs.mv hFm hu) (RT.mv hx hu) hsm hB) rfl (fun u5 v5 ht5 hR5 => ?_)
    have hx := hx.mv ht5
    have hVm := hVm.mv ht5
    have hFm := hFm.mv ht5
    have hdF := hdF.mv ht5
    have hdG := hdG.mv ht5
    have hR4 := hR4.mv ht5
    refine lo_back (sk_js (((ht2.trans ht3).trans ht4).trans ht5) [0, 1] rfl) ?_
    refine lo_eff rfl rfl ?_
    refine ln_callS en_12 rfl (fun u hu => by have h := spec_Same u _ _ _ _ (RSv.mv hR4 hu) (RSv.mv hR5 hu) (by rw [hlaw]; omega); rwa [hlaw, decide_eq_true rfl] at h) rfl ?_
    refine lo_back (sk_js (((ht2.trans ht3).trans ht4).trans ht5) [0, 1] rfl) ?_
    refine lo_pv rfl rfl (sk_js (((ht2.trans ht3).trans ht4).trans ht5) [0, 1] rfl) (pv_assign rfl) rfl ?_
    refine lo_cd ?_
    refine cd_ret ?_
    refine at_retA rfl rfl (fun w hS => ?_)
    rfl
theorem Msg_ExpireDelegationTokenResponse.mv {s t : Vw} {v : Int} {x : Tre} {cells : List Value} (h : Msg_ExpireDelegationTokenResponse s v x cells) (ht : Tr s t) : Msg_ExpireDelegationTokenResponse t v x cells := by
  obtain ⟨mv, l, rfl, hMK, hRK⟩ := h
  exact ⟨_, _, rfl, hMK.mv ht, RK.mv ht hRK⟩
theorem make_ExpireDelegationTokenResponse (hTE : TagsEachC) (t : Vw) (v : Int) (x : Tre) (cs : List Value) (hx : RT t x cs) (hsm : smT x) (hk : (x.u.map (·.1)).Nodup) (hfit : FitOk F_ExpireDelegationTokenResponse v x) (h0 : 0 ≤ v) (h1 : v ≤ 2) (hB : (writeB F_ExpireDelegationTokenResponse 2 v x).length ≤ 4398046511104) : CA Try.prog 19 [.int .i64 v, .agg cs.toArray] t fun u r => RSv u r (writeB F_ExpireDelegationTokenResponse 2 v x) := by
  obtain ⟨sS, sL, sU, rfl, hn, hS, ⟨lc, hL, hLs⟩, hU⟩ := hx.open
  obtain ⟨adS, cS, rfl, hleS⟩ := hS.shape
  obtain ⟨adL, cL, rfl, hleL⟩ := hL.shape
  have hU0 := hU
  obtain ⟨uc, hU1, hUs⟩ := hU0
  obtain ⟨hz1, hz2, hz3, hz4⟩ := hsm.open
  refine ca_enter Try.func19 rfl Try.ntmps19 rfl ?_
  refine cd_sr ?_
  refine ln_box rfl rfl rfl (fun b1 => ?_)
  refine ln_pv (pv_assign rfl) rfl ?_
  refine ln_cd ?_
  refine cd_sr ?_
  refine ln_pv (pv_struct [(0, 1), (1, 1), (2, 1), (3, 1), (4, 1)] (l := [_, _, _, _, _]) rfl Try.underlying70 tipub_kmsg_ExpireDelegationTokenResponse (by kernel_rfl) rfl rfl) rfl ?_
  refine ln_box rfl rfl rfl (fun b2 => ?_)
  refine ln_pv (pv_assign rfl) rfl ?_
  refine ln_cd ?_
  refine cd_sr ?_
  refine ln_pv (pv_move rfl) rfl ?_
  refine ln_pv (pv_move rfl) rfl ?_
  refine ln_pv (pv_conv' Try.underlying3 Try.underlying45 rfl (r := v) (wrap_i16_in (by omega) (by omega))) rfl ?_
  refine ln_callT (i := 0) en_42 rfl rfl (fun u hu hok hav => setv_ExpireDelegationTokenResponse u _ v hok hav) rfl ?_
  rintro u1 v1 _ ht1 ⟨_, rfl, _⟩
  have hx := hx.mv ht1
  refine ln_cd ?_
  refine cd_sr ?_
  refine ln_pv (pv_move rfl) rfl ?_
  refine ln_pv (pv_ldO (i := 1) rfl Try.underlying39 rfl (tiimpl_Tree).size rfl rfl) rfl ?_
  refine ln_callT (i := 0) en_43 rfl rfl (fun u hu hok hav => fill_ExpireDelegationTokenResponse u _ v x _ (RT.mv hx hu) hsm hk hok hav) rfl ?_
  rintro u2 v2 _ ht2 ⟨_, ⟨cells, rfl, hM⟩, hxu⟩
  have hM := hM.mv hxu
  have hx := hx.mv ht2
  refine ln_cd ?_
  refine cd_free (fun s9 hs9 hK => ?_)
  have hob : OB s9 _ (.cells cells.toArray 70) := hK _ (List.mem_of_getElem? (i := 0) rfl)
  clear hK
  have hx := hx.mv hs9
  have hM := hM.mv hs9
  refine cd_sr ?_
  refine ln_pv (pv_move rfl) rfl ?_
  refine ln_nilrow 5 1 ?_
  refine ln_callT (i := 0) en_44 rfl rfl (fun u hu hok hav => append_ExpireDelegationTokenResponse hTE u _ v x cells _ [] (hob.mv hu) (hM.mv hu) hfit h0 h1 (by simpa using hB) hok hav) rfl ?_
  rintro u3 v3 _ ht3 ⟨_, ⟨rfl, h1v3⟩, _⟩
  have hx := hx.mv ht3
  have hM := hM.mv ht3
  have hob := hob.mv ht3
  refine ln_pv (pv_assign rfl) rfl ?_
  refine ln_cd ?_
  refine cd_ret ?_
  refine at_retA rfl rfl (fun w hS => ?_)
  exact row_rs hS (j := 0) rfl (u8s_one _)
theorem law_ExpireDelegationTokenResponse (hTE : TagsEachC) (t : Vw) (n : Nat) (x : Tre) (cs : List Value) (hn8 : n < 256) (hx : RT t x cs) (hsm : smT x) (hsmF : smT (fitT F_ExpireDelegationTokenResponse ((versionN n 2 : Nat) : Int) x)) (hkF : ((fitT F_ExpireDelegationTokenResponse ((versionN n 2 : Nat) : Int) x).u.map (·.1)).Nodup) (hfit : FitOk F_ExpireDelegationTokenResponse ((versionN n 2 : Nat) : Int) (fitT F_ExpireDelegationTokenResponse ((versionN n 2 : Nat) : Int) x)) (hlaw : writeB F_ExpireDelegationTokenResponse 2 ((versionN n 2 : Nat) : Int) (fitT F_ExpireDelegationTokenResponse ((versionN n 2 : Nat) : Int) x) = writeB F_ExpireDelegationTokenResponse 2 ((versionN n 2 : Nat) : Int) x) (hB : (writeB F_ExpireDelegationTokenResponse 2 ((versionN n 2 : Nat) : Int) x).length < 1099511627776) : CS Try.prog 4 [.int .u8 (n : Int), .agg cs.toArray] t (.bool true) := by
  obtain ⟨sS, sL, sU, rfl, hn, hS, ⟨lc, hL, hLs⟩, hU⟩ := hx.open
  obtain ⟨adS, cS, rfl, hleS⟩ := hS.shape
  obtain ⟨adL, cL, rfl, hleL⟩ := hL.shape
  have hU0 := hU
  obtain ⟨uc, hU1, hUs⟩ := hU0
  obtain ⟨hz1, hz2, hz3, hz4⟩ := hsm.open
  have hok := ok_F_ExpireDelegationTokenResponse
  have hvn : versionN n 2 ≤ 2 := by have := Nat.mod_lt n (show 0 < 2 + 1 by omega); unfold versionN; omega
  refine CA.cs ?_
  refine ca_enter Try.func4 rfl Try.ntmps4 rfl ?_
  cases hft : fits1 x with
  | false =>
    refine cd_sr ?_
    refine ln_box rfl rfl rfl (fun b1 => ?_)
    refine ln_pv (pv_assign rfl) rfl ?_
    refine ln_cd ?_
    refine cd_seq ?_
    refine cd_sr ?_
    refine ln_pv (pv_ldO (i := 0) rfl Try.underlying26 rfl (tispec_Tree).size rfl rfl) rfl ?_
    refine ln_callS en_8 rfl (fun u hu => by have h := laws_zzFits1 u x _ (RT.mv hx hu) (by omega); rwa [hft] at h) rfl ?_
    refine ln_pv (pv_not rfl) rfl ?_
    refine ln_cd ?_
    refine cd_tt rfl ?_
    refine cd_sr ?_
    refine ln_pv (pv_assign rfl) rfl ?_
    refine ln_cd ?_
    refine cd_ret ?_
    refine at_retA rfl rfl (fun w hS => ?_)
    rfl
  | true =>
    refine cd_sr ?_
    refine ln_box rfl rfl rfl (fun b1 => ?_)
    refine ln_pv (pv_assign rfl) rfl ?_
    refine ln_cd ?_
    refine cd_seq ?_
    refine cd_sr ?_
    refine ln_pv (pv_ldO (i := 0) rfl Try.underlying26 rfl (tispec_Tree).size rfl rfl) rfl ?_
    refine ln_callS en_8 rfl (fun u hu => by have h := laws_zzFits1 u x _ (RT.mv hx hu) (by omega); rwa [hft] at h) rfl ?_
    refine ln_pv (pv_not rfl) rfl ?_
    refine ln_cd ?_
    refine cd_ff rfl ?_
    refine cd_skip ?_
    refine at_cd ?_
    refine cd_sr ?_
    refine ln_callS en_17 rfl (fun u hu => max_ExpireDelegationTokenResponse u) rfl ?_
    refine ln_pv (pv_assign rfl) rfl ?_
    refine ln_cd ?_
    refine cd_seq ?_
    refine cd_sr ?_
    refine ln_pv (pv_move rfl) rfl ?_
    refine ln_pv (pv_ff (pv_lss rfl rfl) (by omega)) rfl ?_
    refine ln_cd ?_
    refine cd_ff rfl ?_
    refine cd_skip ?_
    refine at_cd ?_
    refine cd_sr ?_
    refine ln_callA en_18 rfl (fun u hu => sch_F_ExpireDelegationTokenResponse u) rfl (fun u1 v1 ht1 hR1 => ?_)
    have hx := hx.mv ht1
    obtain ⟨sv, lcm, rfl, hVm, hFm⟩ := hR1
    refine ln_pv (pv_move rfl) rfl ?_
    refine ln_pv (pv_move rfl) rfl ?_
    refine ln_callS en_11 rfl (fun u hu => laws_version u n 2 hn8 (by omega)) rfl ?_
    refine ln_alloc tispec_Message rfl rfl (fun b2 => ?_)
    refine ln_storeW (i := 0) rfl rfl rfl rfl (tispec_Message).size rfl (by simp [(RS.one hVm)]) ?_
    refine ln_pv (pv_assign rfl) rfl ?_
    refine ln_cd ?_
    refine cd_dr' [0, 1] [0, 1, 2, 3, 4, 8, 9, 10, 13] [0, 1, 2, 3, 4, 8, 9, 10, 5, 6, 7, 11, 12, 13] mixed (by kernel_rfl) ?_
    refine lo_pv rfl rfl (sk_js (Tr.refl _) [0, 1] rfl) (pv_move rfl) rfl ?_
    refine lo_pv rfl rfl (sk_js (Tr.refl _) [0, 1] rfl) (pv_fieldAddr (off := 0) (r := 0) Try.underlying31 rfl (tiSl_spec_Field).size rfl rfl rfl) rfl ?_
    refine lo_pv rfl rfl (sk_js (Tr.refl _) [0, 1] rfl) (pv_ldo (i := 0) rfl Try.underlying29 rfl rfl rfl) rfl ?_
    refine lo_pv rfl rfl (sk_js (Tr.refl _) [0, 1] rfl) (pv_move rfl) rfl ?_
    refine lo_pv rfl rfl (sk_js (Tr.refl _) [0, 1] rfl) (pv_ldO (i := 1) rfl Try.underlying26 rfl (tispec_Tree).size rfl rfl) rfl ?_
    refine lo_pv rfl rfl (sk_js (Tr.refl _) [0, 1] rfl) (pv_ldO (i := 0) rfl Try.underlying31 rfl (tispec_Message).size rfl rfl) rfl ?_
    refine lo_pv rfl rfl (sk_js (Tr.refl _) [0, 1] rfl) (pv_move rfl) rfl ?_
    refine lo_pv rfl rfl (sk_js (Tr.refl _) [0, 1] rfl) (pv_ldO (i := 1) rfl Try.underlying26 rfl (tispec_Tree).size rfl rfl) rfl ?_
    refine lo_eff rfl rfl ?_
    refine ln_callA en_15 rfl (fun u hu => spec_Fit F_ExpireDelegationTokenResponse hok.1 hok.2.1 hok.2.2 u _ _ _ ((versionN n 2 : Nat) : Int) x (RS.mv hVm hu) (RFs.mv hFm hu) (RT.mv hx hu) hsm) rfl (fun u2 v2 ht2 hR2 => ?_)
    have hx := hx.mv ht2
    have hVm := hVm.mv ht2
    have hFm := hFm.mv ht2
    obtain ⟨dF, rfl, hdF⟩ := hR2
    refine lo_back (sk_js ht2 [0, 1] rfl) ?_
    refine lo_eff rfl rfl ?_
    refine ln_callA en_14 rfl (fun u hu => spec_given (fitT F_ExpireDelegationTokenResponse ((versionN n 2 : Nat) : Int) x) u _ (RT.mv hdF hu) hsmF) rfl (fun u3 v3 ht3 hR3 => ?_)
    have hx := hx.mv ht3
    have hVm := hVm.mv ht3
    have hFm := hFm.mv ht3
    have hdF := hdF.mv ht3
    obtain ⟨dG, rfl, hdG⟩ := hR3
    refine lo_back (sk_js (ht2.trans ht3) [0, 1] rfl) ?_
    refine lo_eff rfl rfl ?_
    refine ln_callA en_19 rfl (fun u hu => make_ExpireDelegationTokenResponse hTE u ((versionN n 2 : Nat) : Int) (fitT F_ExpireDelegationTokenResponse ((versionN n 2 : Nat) : Int) x) _ (RT.mv hdG hu) hsmF hkF hfit (by omega) (by omega) (by rw [hlaw]; omega)) rfl (fun u4 v4 ht4 hR4 => ?_)
    have hx := hx.mv ht4
    have hVm := hVm.mv ht4
    have hFm := hFm.mv ht4
    have hdF := hdF.mv ht4
    have hdG := hdG.mv ht4
    refine lo_back (sk_js ((ht2.trans ht3).trans ht4) [0, 1] rfl) ?_
    refine lo_eff rfl rfl ?_
    refine ln_callA en_16 rfl (fun u hu => spec_Write F_ExpireDelegationTokenResponse 2 hok.1 hok.2.2 u _ _ _ ((versionN n 2 : Nat) : Int) x (RS.mv hVm hu) (RFs.mv hFm hu) (RT.mv hx hu) hsm hB) rfl (fun u5 v5 ht5 hR5 => ?_)
    have hx := hx.mv ht5
    have hVm := hVm.mv ht5
    have hFm := hFm.mv ht5
    have hdF := hdF.mv ht5
    have hdG := hdG.mv ht5
    have hR4 := hR4.mv ht5
    refine lo_back (sk_js (((ht2.trans ht3).trans ht4).trans ht5) [0, 1] rfl) ?_
    refine lo_eff rfl rfl ?_
    refine ln_callS en_12 rfl (fun u hu => by have h := spec_Same u _ _ _ _ (RSv.mv hR4 hu) (RSv.mv hR5 hu) (by rw [hlaw]; omega); rwa [hlaw, decide_eq_true rfl] at h) rfl ?_
    refine lo_back (sk_js (((ht2.trans ht3).trans ht4).trans ht5) [0, 1] rfl) ?_
    refine lo_pv rfl rfl (sk_js (((ht2.trans ht3).trans ht4).trans ht5) [0, 1] rfl) (pv_assign rfl) rfl ?_
    refine lo_cd ?_
    refine cd_ret ?_
    refine at_retA rfl rfl (fun w hS => ?_)
    rfl
theorem Msg_RenewDelegationTokenRequest.mv {s t : Vw} {v : Int} {x : Tre} {cells : List Value} (h : Msg_RenewDelegationTokenRequest s v x cells) (ht : Tr s t) : Msg_RenewDelegationTokenRequest t v x cells := by
  obtain ⟨c0, mv, l, rfl, hc0, hMK, hRK⟩ := h
  exact ⟨_, _, _, rfl, hc0.mv ht, hMK.mv ht, RK.mv ht hRK⟩
theorem make_RenewDelegationTokenRequest (hTE : TagsEachC) (t : Vw) (v : Int) (x : Tre) (cs : List Value) (hx : RT t x cs) (hsm : smT x) (hk : (x.u.map (·.1)).Nodup) (hfit : FitOk F_RenewDelegationTokenRequest v x) (h0 : 0 ≤ v) (h1 : v ≤ 2) (hB : (writeB F_RenewDelegationTokenRequest 2 v x).length ≤ 4398046511104) : CA Try.prog 22 [.int .i64 v, .agg cs.toArray] t fun u r => RSv u r (writeB F_RenewDelegationTokenRequest 2 v x) := by
  obtain ⟨sS, sL, sU, rfl, hn, hS, ⟨lc, hL, hLs⟩, hU⟩ := hx.open
  obtain ⟨adS, cS, rfl, hleS⟩ := hS.shape
  obtain ⟨adL, cL, rfl, hleL⟩ := hL.shape
  have hU0 := hU
  obtain ⟨uc, hU1, hUs⟩ := hU0
  obtain ⟨hz1, hz2, hz3, hz4⟩ := hsm.open
  refine ca_enter Try.func22 rfl Try.ntmps22 rfl ?_
  refine cd_sr ?_
  refine ln_box rfl rfl rfl (fun b1 => ?_)
  refine ln_pv (pv_assign rfl) rfl ?_
  refine ln_cd ?_
  refine cd_sr ?_
  refine ln_pv (pv_struct [(0, 1), (1, 1), (2, 1), (3, 1)] (l := [_, _, _, _]) rfl Try.underlying75 tipub_kmsg_RenewDelegationTokenRequest (by kernel_rfl) rfl rfl) rfl ?_
  refine ln_box rfl rfl rfl (fun b2 => ?_)
  refine ln_pv (pv_assign rfl) rfl ?_
  refine ln_cd ?_
  refine cd_sr ?_
  refine ln_pv (pv_move rfl) rfl ?_
  refine ln_pv (pv_move rfl) rfl ?_
  refine ln_pv (pv_conv' Try.underlying3 Try.underlying45 rfl (r := v) (wrap_i16_in (by omega) (by omega))) rfl ?_
  refine ln_callT (i := 0) en_47 rfl rfl (fun u hu hok hav => setv_RenewDelegationTokenRequest u _ v hok hav) rfl ?_
  rintro u1 v1 _ ht1 ⟨_, rfl, _⟩
  have hx := hx.mv ht1
  refine ln_cd ?_
  refine cd_sr ?_
  refine ln_pv (pv_move rfl) rfl ?_
  refine ln_pv (pv_ldO (i := 1) rfl Try.underlying39 rfl (tiimpl_Tree).size rfl rfl) rfl ?_
  refine ln_callT (i := 0) en_48 rfl rfl (fun u hu hok hav => fill_RenewDelegationTokenRequest u _ v x _ (RT.mv hx hu) hsm hk hok hav) rfl ?_
  rintro u2 v2 _ ht2 ⟨_, ⟨cells, rfl, hM⟩, hxu⟩
  have hM := hM.mv hxu
  have hx := hx.mv ht2
  refine ln_cd ?_
  refine cd_free (fun s9 hs9 hK => ?_)
  have hob : OB s9 _ (.cells cells.toArray 75) := hK _ (List.mem_of_getElem? (i := 0) rfl)
  clear hK
  have hx := hx.mv hs9
  have hM := hM.mv hs9
  refine cd_sr ?_
  refine ln_pv (pv_move rfl) rfl ?_
  refine ln_nilrow 5 1 ?_
  refine ln_callT (i := 0) en_49 rfl rfl (fun u hu hok hav => append_RenewDelegationTokenRequest hTE u _ v x cells _ [] (hob.mv hu) (hM.mv hu) hfit h0 h1 (by simpa using hB) hok hav) rfl ?_
  rintro u3 v3 _ ht3 ⟨_, ⟨rfl, h1v3⟩, _⟩
  have hx := hx.mv ht3
  have hM := hM.mv ht3
  have hob := hob.mv ht3
  refine ln_pv (pv_assign rfl) rfl ?_
  refine ln_cd ?_
  refine cd_ret ?_
  refine at_retA rfl rfl (fun w hS => ?_)
  exact row_rs hS (j := 0) rfl (u8s_one _)
theorem law_RenewDelegationTokenRequest (hTE : TagsEachC) (t : Vw) (n : Nat) (x : Tre) (cs : List Value) (hn8 : n < 256) (hx : RT t x cs) (hsm : smT x) (hsmF : smT (fitT F_RenewDelegationTokenRequest ((versionN n 2 : Nat) : Int) x)) (hkF : ((fitT F_RenewDelegationTokenRequest ((versionN n 2 : Nat) : Int) x).u.map (·.1)).Nodup) (hfit : FitOk F_RenewDelegationTokenRequest ((versionN n 2 : Nat) : Int) (fitT F_RenewDelegationTokenRequest ((versionN n 2 : Nat) : Int) x)) (hlaw : writeB F_RenewDelegationTokenRequest 2 ((versionN n 2 : Nat) : Int) (fitT F_RenewDelegationTokenRequest ((versionN n 2 : Nat) : Int) x) = writeB F_RenewDelegationTokenRequest 2 ((versionN n 2 : Nat) : Int) x) (hB : (writeB F_RenewDelegationTokenRequest 2 ((versionN n 2 : Nat) : Int) x).length < 1099511627776) : CS Try.prog 5 [.int .u8 (n : Int), .agg cs.toArray] t (.bool true) := by
  obtain ⟨sS, sL, sU, rfl, hn, hS, ⟨lc, hL, hLs⟩, hU⟩ := hx.open
  obtain ⟨adS, cS, rfl, hleS⟩ := hS.shape
  obtain ⟨adL, cL, rfl, hleL⟩ := hL.shape
  have hU0 := hU
  obtain ⟨uc, hU1, hUs⟩ := hU0
  obtain ⟨hz1, hz2, hz3, hz4⟩ := hsm.open
  have hok := ok_F_RenewDelegationTokenRequest
  have hvn : versionN n 2 ≤ 2 := by have := Nat.mod_lt n (show 0 < 2 + 1 by omega); unfold versionN; omega
  refine CA.cs ?_
  refine ca_enter Try.func5 rfl Try.ntmps5 rfl ?_
  cases hft : fits1 x with
  | false =>
    refine cd_sr ?_
    refine ln_box rfl rfl rfl (fun b1 => ?_)
    refine ln_pv (pv_assign rfl) rfl ?_
    refine ln_cd ?_
    refine cd_seq ?_
    refine cd_sr ?_
    refine ln_pv (pv_ldO (i := 0) rfl Try.underlying26 rfl (tispec_Tree).size rfl rfl) rfl ?_
    refine ln_callS en_8 rfl (fun u hu => by have h := laws_zzFits1 u x _ (RT.mv hx hu) (by omega); rwa [hft] at h) rfl ?_
    refine ln_pv (pv_not rfl) rfl ?_
    refine ln_cd ?_
    refine cd_tt rfl ?_
    refine cd_sr ?_
    refine ln_pv (pv_assign rfl) rfl ?_
    refine ln_cd ?_
    refine cd_ret ?_
    refine at_retA rfl rfl (fun w hS => ?_)
    rfl
  | true =>
    refine cd_sr ?_
    refine ln_box rfl rfl rfl (fun b1 => ?_)
    refine ln_pv (pv_assign rfl) rfl ?_
    refine ln_cd ?_
    refine cd_seq ?_
    refine cd_sr ?_
    refine ln_pv (pv_ldO (i := 0) rfl Try.underlying26 rfl (tispec_Tree).size rfl rfl) rfl ?_
    refine ln_callS en_8 rfl (fun u hu => by have h := laws_zzFits1 u x _ (RT.mv hx hu) (by omega); rwa [hft] at h) rfl ?_
    refine ln_pv (pv_not rfl) rfl ?_
    refine ln_cd ?_
    refine cd_ff rfl ?_
    refine cd_skip ?_
    refine at_cd ?_
    refine cd_sr ?_
    refine ln_callS en_20 rfl (fun u hu => max_RenewDelegationTokenRequest u) rfl ?_
    refine ln_pv (pv_assign rfl) rfl ?_
    refine ln_cd ?_
    refine cd_seq ?_
    refine cd_sr ?_
    refine ln_pv (pv_move rfl) rfl ?_
    refine ln_pv (pv_ff (pv_lss rfl rfl) (by omega)) rfl ?_
    refine ln_cd ?_
    refine cd_ff rfl ?_
    refine cd_skip ?_
    refine at_cd ?_
    refine cd_sr ?_
    refine ln_callA en_21 rfl (fun u hu => sch_F_RenewDelegationTokenRequest u) rfl (fun u1 v1 ht1 hR1 => ?_)
    have hx := hx.mv ht1
    obtain ⟨sv, lcm, rfl, hVm, hFm⟩ := hR1
    refine ln_pv (pv_move rfl) rfl ?_
    refine ln_pv (pv_move rfl) rfl ?_
    refine ln_callS en_11 rfl (fun u hu => laws_version u n 2 hn8 (by omega)) rfl ?_
    refine ln_alloc tispec_Message rfl rfl (fun b2 => ?_)
    refine ln_storeW (i := 0) rfl rfl rfl rfl (tispec_Message).size rfl (by simp [(RS.one hVm)]) ?_
    refine ln_pv (pv_assign rfl) rfl ?_
    refine ln_cd ?_
    refine cd_dr' [0, 1] [0, 1, 2, 3, 4, 8, 9, 10, 13] [0, 1, 2, 3, 4, 8, 9, 10, 5, 6, 7, 11, 12, 13] mixed (by kernel_rfl) ?_
    refine lo_pv rfl rfl (sk_js (Tr.refl _) [0, 1] rfl) (pv_move rfl) rfl ?_
    refine lo_pv rfl rfl (sk_js (Tr.refl _) [0, 1] rfl) (pv_fieldAddr (off := 0) (r := 0) Try.underlying31 rfl (tiSl_spec_Field).size rfl rfl rfl) rfl ?_
    refine lo_pv rfl rfl (sk_js (Tr.refl _) [0, 1] rfl) (pv_ldo (i := 0) rfl Try.underlying29 rfl rfl rfl) rfl ?_
    refine lo_pv rfl rfl (sk_js (Tr.refl _) [0, 1] rfl) (pv_move rfl) rfl ?_
    refine lo_pv rfl rfl (sk_js (Tr.refl _) [0, 1] rfl) (pv_ldO (i := 1) rfl Try.underlying26 rfl (tispec_Tree).size rfl rfl) rfl ?_
    refine lo_pv rfl rfl (sk_js (Tr.refl _) [0, 1] rfl) (pv_ldO (i := 0) rfl Try.underlying31 rfl (tispec_Message).size rfl rfl) rfl ?_
    refine lo_pv rfl rfl (sk_js (Tr.refl _) [0, 1] rfl) (pv_move rfl) rfl ?_
    refine lo_pv rfl rfl (sk_js (Tr.refl _) [0, 1] rfl) (pv_ldO (i := 1) rfl Try.underlying26 rfl (tispec_Tree).size rfl rfl) rfl ?_
    refine lo_eff rfl rfl ?_
    refine ln_callA en_15 rfl (fun u hu => spec_Fit F_RenewDelegationTokenRequest hok.1 hok.2.1 hok.2.2 u _ _ _ ((versionN n 2 : Nat) : Int) x (RS.mv hVm hu) (RFs.mv hFm hu) (RT.mv hx hu) hsm) rfl (fun u2 v2 ht2 hR2 => ?_)
    have hx := hx.mv ht2
    have hVm := hVm.mv ht2
    have hFm := hFm.mv ht2
    obtain ⟨dF, rfl, hdF⟩ := hR2
    refine lo_back (sk_js ht2 [0, 1] rfl) ?_
    refine lo_eff rfl rfl ?_
    refine ln_callA en_14 rfl (fun u hu => spec_given (fitT F_RenewDelegationTokenRequest ((versionN n 2 : Nat) : Int) x) u _ (RT.mv hdF hu) hsmF) rfl (fun u3 v3 ht3 hR3 => ?_)
    have hx := hx.mv ht3
    have hVm := hVm.mv ht3
    have hFm := hFm.mv ht3
    have hdF := hdF.mv ht3
    obtain ⟨dG, rfl, hdG⟩ := hR3
    refine lo_back (sk_js (ht2.trans ht3) [0, 1] rfl) ?_
    refine lo_eff rfl rfl ?_
    refine ln_callA en_22 rfl (fun u hu => make_RenewDelegationTokenRequest hTE u ((versionN n 2 : Nat) : Int) (fitT F_RenewDelegationTokenRequest ((versionN n 2 : Nat) : Int) x) _ (RT.mv hdG hu) hsmF hkF hfit (by omega) (by omega) (by rw [hlaw]; omega)) rfl (fun u4 v4 ht4 hR4 => ?_)
    have hx := hx.mv ht4
    have hVm := hVm.mv ht4
    have hFm := hFm.mv ht4
    have hdF := hdF.mv ht4
    have hdG := hdG.mv ht4
    refine lo_back (sk_js ((ht2.trans ht3).trans ht4) [0, 1] rfl) ?_
    refine lo_eff rfl rfl ?_
    refine ln_callA en_16 rfl (fun u hu => spec_Write F_RenewDelegationTokenRequest 2 hok.1 hok.2.2 u _ _ _ ((versionN n 2 : Nat) : Int) x (RS.mv hVm hu) (RFs.mv hFm hu) (RT.mv hx hu) hsm hB) rfl (fun u5 v5 ht5 hR5 => ?_)
    have hx := hx.mv ht5
    have hVm := hVm.mv ht5
    have hFm := hFm.mv ht5
    have hdF := hdF.mv ht5
    have hdG := hdG.mv ht5
    have hR4 := hR4.mv ht5
    refine lo_back (sk_js (((ht2.trans ht3).trans ht4).trans ht5) [0, 1] rfl) ?_
    refine lo_eff rfl rfl ?_
    refine ln_callS en_12 rfl (fun u hu => by have h := spec_Same u _ _ _ _ (RSv.mv hR4 hu) (RSv.mv hR5 hu) (by rw [hlaw]; omega); rwa [hlaw, decide_eq_true rfl] at h) rfl ?_
    refine lo_back (sk_js (((ht2.trans ht3).trans ht4).trans ht5) [0, 1] rfl) ?_
    refine lo_pv rfl rfl (sk_js (((ht2.trans ht3).trans ht4).trans ht5) [0, 1] rfl) (pv_assign rfl) rfl ?_
    refine lo_cd ?_
    refine cd_ret ?_
    refine at_retA rfl rfl (fun w hS => ?_)
    rfl
theorem Msg_EnvelopeRequest.mv {s t : Vw} {v : Int} {x : Tre} {cells : List Value} (h : Msg_EnvelopeRequest s v x cells) (ht : Tr s t) : Msg_EnvelopeRequest t v x cells := by
  obtain ⟨c0, c1, c2, mv, l, rfl, hc0, hc1, hc2, hMK, hRK⟩ := h
  exact ⟨_, _, _, _, _, rfl, hc0.mv ht, hc1.mv ht, hc2.mv ht, hMK.mv ht, RK.mv ht hRK⟩
theorem make_EnvelopeRequest (hTE : TagsEachC) (t : Vw) (v : Int) (x : Tre) (cs : List Value) (hx : RT t x cs) (hsm : smT x) (hk : (x.u.map (·.1)).Nodup) (hfit : FitOk F_EnvelopeRequest v x) (h0 : 0 ≤ v) (h1 : v ≤ 0) (hB : (writeB F_EnvelopeRequest 0 v x).length ≤ 4398046511104) : CA Try.prog 25 [.int .i64 v, .agg cs.toArray] t fun u r => RSv u r (writeB F_EnvelopeRequest 0 v x) := by
  obtain ⟨sS, sL, sU, rfl, hn, hS, ⟨lc, hL, hLs⟩, hU⟩ := hx.open
  obtain ⟨adS, cS, rfl, hleS⟩ := hS.shape
  obtain ⟨adL, cL, rfl, hleL⟩ := hL.shape
  have hU0 := hU
  obtain ⟨uc, hU1, hUs⟩ := hU0
  obtain ⟨hz1, hz2, hz3, hz4⟩ := hsm.open
  refine ca_enter Try.func25 rfl Try.ntmps25 rfl ?_
  refine cd_sr ?_
  refine ln_box rfl rfl rfl (fun b1 => ?_)
  refine ln_pv (pv_assign rfl) rfl ?_
  refine ln_cd ?_
  refine cd_sr ?_
  refine ln_pv (pv_struct [(0, 1), (1, 1), (2, 1), (3, 1), (4, 1)] (l := [_, _, _, _, _]) rfl Try.underlying80 tipub_kmsg_EnvelopeRequest (by kernel_rfl) rfl rfl) rfl ?_
  refine ln_box rfl rfl rfl (fun b2 => ?_)
  refine ln_pv (pv_assign rfl) rfl ?_
  refine ln_cd ?_
  refine cd_sr ?_
  refine ln_pv (pv_move rfl) rfl ?_
  refine ln_pv (pv_move rfl) rfl ?_
  refine ln_pv (pv_conv' Try.underlying3 Try.underlying45 rfl (r := v) (wrap_i16_in (by omega) (by omega))) rfl ?_
  refine ln_callT (i := 0) en_52 rfl rfl (fun u hu hok hav => setv_EnvelopeRequest u _ v hok hav) rfl ?_
  rintro u1 v1 _ ht1 ⟨_, rfl, _⟩
  have hx := hx.mv ht1
  refine ln_cd ?_
  refine cd_sr ?_
  refine ln_pv (pv_move rfl) rfl ?_
  refine ln_pv (pv_ldO (i := 1) rfl Try.underlying39 rfl (tiimpl_Tree).size rfl rfl) rfl ?_
  refine ln_callT (i := 0) en_53 rfl rfl (fun u hu hok hav => fill_EnvelopeRequest u _ v x _ (RT.mv hx hu) hsm hk hok hav) rfl ?_
  rintro u2 v2 _ ht2 ⟨_, ⟨cells, rfl, hM⟩, hxu⟩
  have hM := hM.mv hxu
  have hx := hx.mv ht2
  refine ln_cd ?_
  refine cd_free (fun s9 hs9 hK => ?_)
  have hob : OB s9 _ (.cells cells.toArray 80) := hK _ (List.mem_of_getElem? (i := 0) rfl)
  clear hK
  have hx := hx.mv hs9
  have hM := hM.mv hs9
  refine cd_sr ?_
  refine ln_pv (pv_move rfl) rfl ?_
  refine ln_nilrow 5 1 ?_
  refine ln_callT (i := 0) en_54 rfl rfl (fun u hu hok hav => append_EnvelopeRequest hTE u _ v x cells _ [] (hob.mv hu) (hM.mv hu) hfit h0 h1 (by simpa using hB) hok hav) rfl ?_
  rintro u3 v3 _ ht3 ⟨_, ⟨rfl, h1v3⟩, _⟩
  have hx := hx.mv ht3
  have hM := hM.mv ht3
  have hob := hob.mv ht3
  refine ln_pv (pv_assign rfl) rfl ?_
  refine ln_cd ?_
  refine cd_ret ?_
  refine at_retA rfl rfl (fun w hS => ?_)
  exact row_rs hS (j := 0) rfl (u8s_one _)
theorem law_EnvelopeRequest (hTE : TagsEachC) (t : Vw) (n : Nat) (x : Tre) (cs : List Value) (hn8 : n < 256) (hx : RT t x cs) (hsm : smT x) (hsmF : smT (fitT F_EnvelopeRequest ((versionN n 0 : Nat) : Int) x)) (hkF : ((fitT F_EnvelopeRequest ((versionN n 0 : Nat) : Int) x).u.map (·.1)).Nodup) (hfit : FitOk F_EnvelopeRequest ((versionN n 0 : Nat) : Int) (fitT F_EnvelopeRequest ((versionN n 0 : Nat) : Int) x)) (hlaw : writeB F_EnvelopeRequest 0 ((versionN n 0 : Nat) : Int) (fitT F_EnvelopeRequest ((versionN n 0 : Nat) : Int) x) = writeB F_EnvelopeRequest 0 ((versionN n 0 : Nat) : Int) x) (hB : (writeB F_EnvelopeRequest 0 ((versionN n 0 : Nat) : Int) x).length < 1099511627776) : CS Try.prog 6 [.int .u8 (n : Int), .agg cs.toArray] t (.bool true) := by
  obtain ⟨sS, sL, sU, rfl, hn, hS, ⟨lc, hL, hLs⟩, hU⟩ := hx.open
  obtain ⟨adS, cS, rfl, hleS⟩ := hS.shape
  obtain ⟨adL, cL, rfl, hleL⟩ := hL.shape
  have hU0 := hU
  obtain ⟨uc, hU1, hUs⟩ := hU0
  obtain ⟨hz1, hz2, hz3, hz4⟩ := hsm.open
  have hok := ok_F_EnvelopeRequest
  have hvn : versionN n 0 ≤ 0 := by have := Nat.mod_lt n (show 0 < 0 + 1 by omega); unfold versionN; omega
  refine CA.cs ?_
  refine ca_enter Try.func6 rfl Try.ntmps6 rfl ?_
  cases hft : fits1 x with
  | false =>
    refine cd_sr ?_
    refine ln_box rfl rfl rfl (fun b1 => ?_)
    refine ln_pv (pv_assign rfl) rfl ?_
    refine ln_cd ?_
    refine cd_seq ?_
    refine cd_sr ?_
    refine ln_pv (pv_ldO (i := 0) rfl Try.underlying26 rfl (tispec_Tree).size rfl rfl) rfl ?_
    refine ln_callS en_8 rfl (fun u hu => by have h := laws_zzFits1 u x _ (RT.mv hx hu) (by omega); rwa [hft] at h) rfl ?_
    refine ln_pv (pv_not rfl) rfl ?_
    refine ln_cd ?_
    refine cd_tt rfl ?_
    refine cd_sr ?_
    refine ln_pv (pv_assign rfl) rfl ?_
    refine ln_cd ?_
    refine cd_ret ?_
    refine at_retA rfl rfl (fun w hS => ?_)
    rfl
  | true =>
    refine cd_sr ?_
    refine ln_box rfl rfl rfl (fun b1 => ?_)
    refine ln_pv (pv_assign rfl) rfl ?_
    refine ln_cd ?_
    refine cd_seq ?_
    refine cd_sr ?_
    refine ln_pv (pv_ldO (i := 0) rfl Try.underlying26 rfl (tispec_Tree).size rfl rfl) rfl ?_
    refine ln_callS en_8 rfl (fun u hu => by have h := laws_zzFits1 u x _ (RT.mv hx hu) (by omega); rwa [hft] at h) rfl ?_
    refine ln_pv (pv_not rfl) rfl ?_
    refine ln_cd ?_
    refine cd_ff rfl ?_
    refine cd_skip ?_
    refine at_cd ?_
    refine cd_sr ?_
    refine ln_callS en_23 rfl (fun u hu => max_EnvelopeRequest u) rfl ?_
    refine ln_pv (pv_assign rfl) rfl ?_
    refine ln_cd ?_
    refine cd_seq ?_
    refine cd_sr ?_
    refine ln_pv (pv_move rfl) rfl ?_
    refine ln_pv (pv_ff (pv_lss rfl rfl) (by omega)) rfl ?_
    refine ln_cd ?_
    refine cd_ff rfl ?_
    refine cd_skip ?_
    refine at_cd ?_
    refine cd_sr ?_
    refine ln_callA en_24 rfl (fun u hu => sch_F_EnvelopeRequest u) rfl (fun u1 v1 ht1 hR1 => ?_)
    have hx := hx.mv ht1
    obtain ⟨sv, lcm, rfl, hVm, hFm⟩ := hR1
    refine ln_pv (pv_move rfl) rfl ?_
    refine ln_pv (pv_move rfl) rfl ?_
    refine ln_callS en_11 rfl (fun u hu => laws_version u n 0 hn8 (by omega)) rfl ?_
    refine ln_alloc tispec_Message rfl rfl (fun b2 => ?_)
    refine ln_storeW (i := 0) rfl rfl rfl rfl (tispec_Message).size rfl (by simp [(RS.one hVm)]) ?_
    refine ln_pv (pv_assign rfl) rfl ?_
    refine ln_cd ?_
    refine cd_dr' [0, 1] [0, 1, 2, 3, 4, 8, 9, 10, 13] [0, 1, 2, 3, 4, 8, 9, 10, 5, 6, 7, 11, 12, 13] mixed (by kernel_rfl) ?_
    refine lo_pv rfl rfl (sk_js (Tr.refl _) [0, 1] rfl) (pv_move rfl) rfl ?_
    refine lo_pv rfl rfl (sk_js (Tr.refl _) [0, 1] rfl) (pv_fieldAddr (off := 0) (r := 0) Try.underlying31 rfl (tiSl_spec_Field).size rfl rfl rfl) rfl ?_
    refine lo_pv rfl rfl (sk_js (Tr.refl _) [0, 1] rfl) (pv_ldo (i := 0) rfl Try.underlying29 rfl rfl rfl) rfl ?_
    refine lo_pv rfl rfl (sk_js (Tr.refl _) [0, 1] rfl) (pv_move rfl) rfl ?_
    refine lo_pv rfl rfl (sk_js (Tr.refl _) [0, 1] rfl) (pv_ldO (i := 1) rfl Try.underlying26 rfl (tispec_Tree).size rfl rfl) rfl ?_
    refine lo_pv rfl rfl (sk_js (Tr.refl _) [0, 1] rfl) (pv_ldO (i := 0) rfl Try.underlying31 rfl (tispec_Message).size rfl rfl) rfl ?_
    refine lo_pv rfl rfl (sk_js (Tr.refl _) [0, 1] rfl) (pv_move rfl) rfl ?_
    refine lo_pv rfl rfl (sk_js (Tr.refl _) [0, 1] rfl) (pv_ldO (i := 1) rfl Try.underlying26 rfl (tispec_Tree).size rfl rfl) rfl ?_
    refine lo_eff rfl rfl ?_
    refine ln_callA en_15 rfl (fun u hu => spec_Fit F_EnvelopeRequest hok.1 hok.2.1 hok.2.2 u _ _ _ ((versionN n 0 : Nat) : Int) x (RS.mv hVm hu) (RFs.mv hFm hu) (RT.mv hx hu) hsm) rfl (fun u2 v2 ht2 hR2 => ?_)
    have hx := hx.mv ht2
    have hVm := hVm.mv ht2
    have hFm := hFm.mv ht2
    obtain ⟨dF, rfl, hdF⟩ := hR2
    refine lo_back (sk_js ht2 [0, 1] rfl) ?_
    refine lo_eff rfl rfl ?_
    refine ln_callA en_14 rfl (fun u hu => spec_given (fitT F_EnvelopeRequest ((versionN n 0 : Nat) : Int) x) u _ (RT.mv hdF hu) hsmF) rfl (fun u3 v3 ht3 hR3 => ?_)
    have hx := hx.mv ht3
    have hVm := hVm.mv ht3
    have hFm := hFm.mv ht3
    have hdF := hdF.mv ht3
    obtain ⟨dG, rfl, hdG⟩ := hR3
    refine lo_back (sk_js (ht2.trans ht3) [0, 1] rfl) ?_
    refine lo_eff rfl rfl ?_
    refine ln_callA en_25 rfl (fun u hu => make_EnvelopeRequest hTE u ((versionN n 0 : Nat) : Int) (fitT F_EnvelopeRequest ((versionN n 0 : Nat) : Int) x) _ (RT.mv hdG hu) hsmF hkF hfit (by omega) (by omega) (by rw [hlaw]; omega)) rfl (fun u4 v4 ht4 hR4 => ?_)
    have hx := hx.mv ht4
    have hVm := hVm.mv ht4
    have hFm := hFm.mv ht4
    have hdF := hdF.mv ht4
    have hdG := hdG.mv ht4
    refine lo_back (sk_js ((ht2.trans ht3).trans ht4) [0, 1] rfl) ?_
    refine lo_eff rfl rfl ?_
    refine ln_callA en_16 rfl (fun u hu => spec_Write F_EnvelopeRequest 0 hok.1 hok.2.2 u _ _ _ ((versionN n 0 : Nat) : Int) x (RS.mv hVm hu) (RFs.mv hFm hu) (RT.mv hx hu) hsm hB) rfl (fun u5 v5 ht5 hR5 => ?_)
    have hx := hx.mv ht5
    have hVm := hVm.mv ht5
    have hFm := hFm.mv ht5
    have hdF := hdF.mv ht5
    have hdG := hdG.mv ht5
    have hR4 := hR4.mv ht5
    refine lo_back (sk_js (((ht2.trans ht3).trans ht4).trans ht5) [0, 1] rfl) ?_
    refine lo_eff rfl rfl ?_
    refine ln_callS en_12 rfl (fun u hu => by have h := spec_Same u _ _ _ _ (RSv.mv hR4 hu) (RSv.mv hR5 hu) (by rw [hlaw]; omega); rwa [hlaw, decide_eq_true rfl] at h) rfl ?_
    refine lo_back (sk_js (((ht2.trans ht3).trans ht4).trans ht5) [0, 1] rfl) ?_
    refine lo_pv rfl rfl (sk_js (((ht2.trans ht3).trans ht4).trans ht5) [0, 1] rfl) (pv_assign rfl) rfl ?_
    refine lo_cd ?_
    refine cd_ret ?_
    refine at_retA rfl rfl (fun w hS => ?_)
    rfl
theorem Msg_HeartbeatRequest.mv {s t : Vw} {v : Int} {x : Tre} {cells : List Value} (h : Msg_HeartbeatRequest s v x cells) (ht : Tr s t) : Msg_HeartbeatRequest t v x cells := by
  obtain ⟨c3, mv, l, rfl, hc3, hMK, hRK⟩ := h
  exact ⟨_, _, _, rfl, hc3.mv ht, hMK.mv ht, RK.mv ht hRK⟩
theorem make_HeartbeatRequest (hTE : TagsEachC) (t : Vw) (v : Int) (x : Tre) (cs : List Value) (hx : RT t x cs) (hsm : smT x) (hk : (x.u.map (·.1)).Nodup) (hfit : FitOk F_HeartbeatRequest v x) (h0 : 0 ≤ v) (h1 : v ≤ 4) (hB : (writeB F_HeartbeatRequest 4 v x).length ≤ 4398046511104) : CA Try.prog 28 [.int .i64 v, .agg cs.toArray] t fun u r => RSv u r (writeB F_HeartbeatRequest 4 v x) := by
  obtain ⟨sS, sL, sU, rfl, hn, hS, ⟨lc, hL, hLs⟩, hU⟩ := hx.open
  obtain ⟨adS, cS, rfl, hleS⟩ := hS.shape
  obtain ⟨adL, cL, rfl, hleL⟩ := hL.shape
  have hU0 := hU
  obtain ⟨uc, hU1, hUs⟩ := hU0
  obtain ⟨hz1, hz2, hz3, hz4⟩ := hsm.open
  refine ca_enter Try.func28 rfl Try.ntmps28 rfl ?_
  refine cd_sr ?_
  refine ln_box rfl rfl rfl (fun b1 => ?_)
  refine ln_pv (pv_assign rfl) rfl ?_
  refine ln_cd ?_
  refine cd_sr ?_
  refine ln_pv (pv_struct [(0, 1), (1, 1), (2, 1), (3, 1), (4, 1), (5, 1)] (l := [_, _, _, _, _, _]) rfl Try.underlying86 tipub_kmsg_HeartbeatRequest (by kernel_rfl) rfl rfl) rfl ?_
  refine ln_box rfl rfl rfl (fun b2 => ?_)
  refine ln_pv (pv_assign rfl) rfl ?_
  refine ln_cd ?_
  refine cd_sr ?_
  refine ln_pv (pv_move rfl) rfl ?_
  refine ln_pv (pv_move rfl) rfl ?_
  refine ln_pv (pv_conv' Try.underlying3 Try.underlying45 rfl (r := v) (wrap_i16_in (by omega) (by omega))) rfl ?_
  refine ln_callT (i := 0) en_57 rfl rfl (fun u hu hok hav => setv_HeartbeatRequest u _ v hok hav) rfl ?_
  rintro u1 v1 _ ht1 ⟨_, rfl, _⟩
  have hx := hx.mv ht1
  refine ln_cd ?_
  refine cd_sr ?_
  refine ln_pv (pv_move rfl) rfl ?_
  refine ln_pv (pv_ldO (i := 1) rfl Try.underlying39 rfl (tiimpl_Tree).size rfl rfl) rfl ?_
  refine ln_callT (i := 0) en_58 rfl rfl (fun u hu hok hav => fill_HeartbeatRequest u _ v x _ (RT.mv hx hu) hsm hk hok hav) rfl ?_
  rintro u2 v2 _ ht2 ⟨_, ⟨cells, rfl, hM⟩, hxu⟩
  have hM := hM.mv hxu
  have hx := hx.mv ht2
  refine ln_cd ?_
  refine cd_free (fun s9 hs9 hK => ?_)
  have hob : OB s9 _ (.cells cells.toArray 86) := hK _ (List.mem_of_getElem? (i := 0) rfl)
  clear hK
  have hx := hx.mv hs9
  have hM := hM.mv hs9
  refine cd_sr ?_
  refine ln_pv (pv_move rfl) rfl ?_
  refine ln_nilrow 5 1 ?_
  refine ln_callT (i := 0) en_59 rfl rfl (fun u hu hok hav => append_HeartbeatRequest hTE u _ v x cells _ [] (hob.mv hu) (hM.mv hu) hfit h0 h1 (by simpa using hB) hok hav) rfl ?_
  rintro u3 v3 _ ht3 ⟨_, ⟨rfl, h1v3⟩, _⟩
  have hx := hx.mv ht3
  have hM := hM.mv ht3
  have hob := hob.mv ht3
  refine ln_pv (pv_assign rfl) rfl ?_
  refine ln_cd ?_
  refine cd_ret ?_
  refine at_retA rfl rfl (fun w hS => ?_)
  exact row_rs hS (j := 0) rfl (u8s_one _)
theorem law_HeartbeatRequest (hTE : TagsEachC) (t : Vw) (n : Nat) (x : Tre) (cs : List Value) (hn8 : n < 256) (hx : RT t x cs) (hsm : smT x) (hsmF : smT (fitT F_HeartbeatRequest ((versionN n 4 : Nat) : Int) x)) (hkF : ((fitT F_HeartbeatRequest ((versionN n 4 : Nat) : Int) x).u.map (·.1)).Nodup) (hfit : FitOk F_HeartbeatRequest ((versionN n 4 : Nat) : Int) (fitT F_HeartbeatRequest ((versionN n 4 : Nat) : Int) x)) (hlaw : writeB F_HeartbeatRequest 4 ((versionN n 4 : Nat) : Int) (fitT F_HeartbeatRequest ((versionN n 4 : Nat) : Int) x) = writeB F_HeartbeatRequest 4 ((versionN n 4 : Nat) : Int) x) (hB : (writeB F_HeartbeatRequest 4 ((versionN n 4 : Nat) : Int) x).length < 1099511627776) : CS Try.prog 7 [.int .u8 (n : Int), .agg cs.toArray] t (.bool true) := by
  obtain ⟨sS, sL, sU, rfl, hn, hS, ⟨lc, hL, hLs⟩, hU⟩ := hx.open
  obtain ⟨adS, cS, rfl, hleS⟩ := hS.shape
  obtain ⟨adL, cL, rfl, hleL⟩ := hL.shape
  have hU0 := hU
  obtain ⟨uc, hU1, hUs⟩ := hU0
  obtain ⟨hz1, hz2, hz3, hz4⟩ := hsm.open
  have hok := ok_F_HeartbeatRequest
  have hvn : versionN n 4 ≤ 4 := by have := Nat.mod_lt n (show 0 < 4 + 1 by omega); unfold versionN; omega
  refine CA.cs ?_
  refine ca_enter Try.func7 rfl Try.ntmps7 rfl ?_
  cases hft : fits1 x with
  | false =>
    refine cd_sr ?_
    refine ln_box rfl rfl rfl (fun b1 => ?_)
    refine ln_pv (pv_assign rfl) rfl ?_
    refine ln_cd ?_
    refine cd_seq ?_
    refine cd_sr ?_
    refine ln_pv (pv_ldO (i := 0) rfl Try.underlying26 rfl (tispec_Tree).size rfl rfl) rfl ?_
    refine ln_callS en_8 rfl (fun u hu => by have h := laws_zzFits1 u x _ (RT.mv hx hu) (by omega); rwa [hft] at h) rfl ?_
    refine ln_pv (pv_not rfl) rfl ?_
    refine ln_cd ?_
    refine cd_tt rfl ?_
    refine cd_sr ?_
    refine ln_pv (pv_assign rfl) rfl ?_
    refine ln_cd ?_
    refine cd_ret ?_
    refine at_retA rfl rfl (fun w hS => ?_)
    rfl
  | true =>
    refine cd_sr ?_
    refine ln_box rfl rfl rfl (fun b1 => ?_)
    refine ln_pv (pv_assign rfl) rfl ?_
    refine ln_cd ?_
    refine cd_seq ?_
    refine cd_sr ?_
    refine ln_pv (pv_ldO (i := 0) rfl Try.underlying26 rfl (tispec_Tree).size rfl rfl) rfl ?_
    refine ln_callS en_8 rfl (fun u hu => by have h := laws_zzFits1 u x _ (RT.mv hx hu) (by omega); rwa [hft] at h) rfl ?_
    refine ln_pv (pv_not rfl) rfl ?_
    refine ln_cd ?_
    refine cd_ff rfl ?_
    refine cd_skip ?_
    refine at_cd ?_
    refine cd_sr ?_
    refine ln_callS en_26 rfl (fun u hu => max_HeartbeatRequest u) rfl ?_
    refine ln_pv (pv_assign rfl) rfl ?_
    refine ln_cd ?_
    refine cd_seq ?_
    refine cd_sr ?_
    refine ln_pv (pv_move rfl) rfl ?_
    refine ln_pv (pv_ff (pv_lss rfl rfl) (by omega)) rfl ?_
    refine ln_cd ?_
    refine cd_ff rfl ?_
    refine cd_skip ?_
    refine at_cd ?_
    refine cd_sr ?_
    refine ln_callA en_27 rfl (fun u hu => sch_F_HeartbeatRequest u) rfl (fun u1 v1 ht1 hR1 => ?_)
    have hx := hx.mv ht1
    obtain ⟨sv, lcm, rfl, hVm, hFm⟩ := hR1
    refine ln_pv (pv_move rfl) rfl ?_
    refine ln_pv (pv_move rfl) rfl ?_
    refine ln_callS en_11 rfl (fun u hu => laws_version u n 4 hn8 (by omega)) rfl ?_
    refine ln_alloc tispec_Message rfl rfl (fun b2 => ?_)
    refine ln_storeW (i := 0) rfl rfl rfl rfl (tispec_Message).size rfl (by simp [(RS.one hVm)]) ?_
    refine ln_pv (pv_assign rfl) rfl ?_
    refine ln_cd ?_
    refine cd_dr' [0, 1] [0, 1, 2, 3, 4, 8, 9, 10, 13] [0, 1, 2, 3, 4, 8, 9, 10, 5, 6, 7, 11, 12, 13] mixed (by kernel_rfl) ?_
    refine lo_pv rfl rfl (sk_js (Tr.refl _) [0, 1] rfl) (pv_move rfl) rfl ?_
    refine lo_pv rfl rfl (sk_js (Tr.refl _) [0, 1] rfl) (pv_fieldAddr (off := 0) (r := 0) Try.underlying31 rfl (tiSl_spec_Field).size rfl rfl rfl) rfl ?_
    refine lo_pv rfl rfl (sk_js (Tr.refl _) [0, 1] rfl) (pv_ldo (i := 0) rfl Try.underlying29 rfl rfl rfl) rfl ?_
    refine lo_pv rfl rfl (sk_js (Tr.refl _) [0, 1] rfl) (pv_move rfl) rfl ?_
    refine lo_pv rfl rfl (sk_js (Tr.refl _) [0, 1] rfl) (pv_ldO (i := 1) rfl Try.underlying26 rfl (tispec_Tree).size rfl rfl) rfl ?_
    refine lo_pv rfl rfl (sk_js (Tr.refl _) [0, 1] rfl) (pv_ldO (i := 0) rfl Try.underlying31 rfl (tispec_Message).size rfl rfl) rfl ?_
    refine lo_pv rfl rfl (sk_js (Tr.refl _) [0, 1] rfl) (pv_move rfl) rfl ?_
    refine lo_pv rfl rfl (sk_js (Tr.refl _) [0, 1] rfl) (pv_ldO (i := 1) rfl Try.underlying26 rfl (tispec_Tree).size rfl rfl) rfl ?_
    refine lo_eff rfl rfl ?_
    refine ln_callA en_15 rfl (fun u hu => spec_Fit F_HeartbeatRequest hok.1 hok.2.1 hok.2.2 u _ _ _ ((versionN n 4 : Nat) : Int) x (RS.mv hVm hu) (RFs.mv hFm hu) (RT.mv hx hu) hsm) rfl (fun u2 v2 ht2 hR2 => ?_)
    have hx := hx.mv ht2
    have hVm := hVm.mv ht2
    have hFm := hFm.mv ht2
    obtain ⟨dF, rfl, hdF⟩ := hR2
    refine lo_back (sk_js ht2 [0, 1] rfl) ?_
    refine lo_eff rfl rfl ?_
    refine ln_callA en_14 rfl (fun u hu => spec_given (fitT F_HeartbeatRequest ((versionN n 4 : Nat) : Int) x) u _ (RT.mv hdF hu) hsmF) rfl (fun u3 v3 ht3 hR3 => ?_)
    have hx := hx.mv ht3
    have hVm := hVm.mv ht3
    have hFm := hFm.mv ht3
    have hdF := hdF.mv ht3
    obtain ⟨dG, rfl, hdG⟩ := hR3
    refine lo_back (sk_js (ht2.trans ht3) [0, 1] rfl) ?_
    refine lo_eff rfl rfl ?_
    refine ln_callA en_28 rfl (fun u hu => make_HeartbeatRequest hTE u ((versionN n 4 : Nat) : Int) (fitT F_HeartbeatRequest ((versionN n 4 : Nat) : Int) x) _ (RT.mv hdG hu) hsmF hkF hfit (by omega) (by omega) (by rw [hlaw]; omega)) rfl (fun u4 v4 ht4 hR4 => ?_)
    have hx := hx.mv ht4
    have hVm := hVm.mv ht4
    have hFm := hFm.mv ht4
    have hdF := hdF.mv ht4
    have hdG := hdG.mv ht4
    refine lo_back (sk_js ((ht2.trans ht3).trans ht4) [0, 1] rfl) ?_
    refine lo_eff rfl rfl ?_
    refine ln_callA en_16 rfl (fun u hu => spec_Write F_HeartbeatRequest 4 hok.1 hok.2.2 u _ _ _ ((versionN n 4 : Nat) : Int) x (RS.mv hVm hu) (RFs.mv hFm hu) (RT.mv hx hu) hsm hB) rfl (fun u5 v5 ht5 hR5 => ?_)
    have hx := hx.mv ht5
    have hVm := hVm.mv ht5
    have hFm := hFm.mv ht5
    have hdF := hdF.mv ht5
    have hdG := hdG.mv ht5
    have hR4 := hR4.mv ht5
    refine lo_back (sk_js (((ht2.trans ht3).trans ht4).trans ht5) [0, 1] rfl) ?_
    refine lo_eff rfl rfl ?_
    refine ln_callS en_12 rfl (fun u hu => by have h := spec_Same u _ _ _ _ (RSv.mv hR4 hu) (RSv.mv hR5 hu) (by rw [hlaw]; omega); rwa [hlaw, decide_eq_true rfl] at h) rfl ?_
    refine lo_back (sk_js (((ht2.trans ht3).trans ht4).trans ht5) [0, 1] rfl) ?_
    refine lo_pv rfl rfl (sk_js (((ht2.trans ht3).trans ht4).trans ht5) [0, 1] rfl) (pv_assign rfl) rfl ?_
    refine lo_cd ?_
    refine cd_ret ?_
    refine at_retA rfl rfl (fun w hS => ?_)
    rfl
end K
end Go.Proofs.Ytoledocfkjohhaa
