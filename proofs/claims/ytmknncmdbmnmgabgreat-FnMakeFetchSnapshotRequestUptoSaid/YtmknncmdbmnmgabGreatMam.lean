import Derived.Test.YtmknncmdbmnmgabGreatMap
import Derived.Test.YtmknncmdbmnmgabGreatMaf
import Derived.Test.YtmknncmdbmnmgabGreatP4
import Derived.Test.YtmknncmdbmnmgabGreatS10
set_option linter.unusedVariables false
set_option linter.unusedSimpArgs false
namespace Go.Proofs.YtmknncmdbmnmgabGreat
namespace K
open Go Go.Lib
theorem setv_FetchSnapshotRequest (t : Vw) (b : Nat) (v : Int) (hok : (MsgBox b 58 [.int .i16 0, .pointer none, .int .i32 0, .int .i32 0, .slice none 0 0, .map none]).ok t.w) (hav : ∀ q ∈ (MsgBox b 58 [.int .i16 0, .pointer none, .int .i32 0, .int .i32 0, .slice none 0 0, .map none]).blk, t.av q) : CT Tryz.prog 29 [.pointer (some ⟨b, 0, none⟩), .int .i16 v] t (MsgBox b 58 [.int .i16 0, .pointer none, .int .i32 0, .int .i32 0, .slice none 0 0, .map none]) fun u r e' => e' = MsgBox b 58 [.int .i16 v, .pointer none, .int .i32 0, .int .i32 0, .slice none 0 0, .map none] := by
  refine ct_enter Tryz.func29 rfl Tryz.ntmps29 rfl hok hav (by simp [Ent.blk]) ?_
  refine cd_region ?_
  refine ln_pv (pv_move rfl) rfl ?_
  refine ln_pv (pv_move rfl) rfl ?_
  refine ln_pv (pv_nilCheck rfl) rfl ?_
  refine ln_pv (pv_fieldAddr (off := 0) (r := 0) Tryz.underlying58 rfl (tiint16).size rfl rfl rfl) rfl ?_
  refine ln_store1 (i := 0) rfl rfl rfl rfl (tiint16).size rfl ?_
  refine ln_nil ?_
  exact at_retT0 (i := 0) rfl rfl (fun w hS => rfl)
theorem make_FetchSnapshotRequest (t : Vw) (v : Int) (x : Tre) (cs : List Value) (hx : RT t x cs) (hsm : smT x) (hg : gT x) (hfit : okP F_FetchSnapshotRequest v (flexB 0 v) x) (h0 : 0 ≤ v) (h1 : v ≤ 1) (hB : (writeB F_FetchSnapshotRequest 0 v x).length ≤ 4398046511104) : CA Tryz.prog 12 [.int .i64 v, .agg cs.toArray] t fun u r => RSv u r (writeB F_FetchSnapshotRequest 0 v x) := by
  obtain ⟨sS, sL, sU, rfl, hn, hS, ⟨lc, hL, hLs⟩, hU⟩ := hx.open
  obtain ⟨adS, cS, rfl, hleS⟩ := hS.shape
  obtain ⟨adL, cL, rfl, hleL⟩ := hL.shape
  have hU0 := hU
  obtain ⟨uc, hU1, hUs⟩ := hU0
  obtain ⟨hz1, hz2, hz3, hz4⟩ := hsm.open
  rw [show writeB F_FetchSnapshotRequest 0 v x = partB F_FetchSnapshotRequest v (flexB 0 v) x from rfl] at *
  refine ca_enter Tryz.func12 rfl Tryz.ntmps12 rfl ?_
  refine cd_sr ?_
  refine ln_box rfl rfl rfl (fun b1 => ?_)
  refine ln_pv (pv_assign rfl) rfl ?_
  refine ln_cd ?_
  refine cd_sr ?_
  refine ln_pv (pv_struct [(0, 1), (1, 1), (2, 1), (3, 1), (4, 1), (5, 1)] (l := [_, _, _, _, _, _]) rfl Tryz.underlying58 tipub_kmsg_FetchSnapshotRequest (by kernel_rfl) rfl rfl) rfl ?_
  refine ln_box rfl rfl rfl (fun b2 => ?_)
  refine ln_pv (pv_assign rfl) rfl ?_
  refine ln_cd ?_
  refine cd_sr ?_
  refine ln_pv (pv_move rfl) rfl ?_
  refine ln_pv (pv_move rfl) rfl ?_
  refine ln_pv (pv_conv' Tryz.underlying3 Tryz.underlying45 rfl (r := v) (wrap_i16_in (by omega) (by omega))) rfl ?_
  refine ln_callT (i := 0) en_29 rfl rfl (fun u hu hok hav => setv_FetchSnapshotRequest u _ v hok hav) rfl ?_
  rintro u1 v1 _ ht1 ⟨_, rfl, _⟩
  have hx := hx.mv ht1
  refine ln_cd ?_
  refine cd_sr ?_
  refine ln_pv (pv_move rfl) rfl ?_
  refine ln_pv (pv_ldO (i := 1) rfl Tryz.underlying39 rfl (tiimpl_Tree).size rfl rfl) rfl ?_
  refine ln_callT (i := 0) en_30 rfl rfl (fun u hu hok hav => fill_FetchSnapshotRequest u _ v x _ (RT.mv hx hu) hsm hg hok hav) rfl ?_
  rintro u2 v2 _ ht2 ⟨_, ⟨cells, rfl, hM⟩, hxu⟩
  have hM := hM.mv hxu
  have hx := hx.mv ht2
  refine ln_cd ?_
  refine cd_free (fun s9 hs9 hK => ?_)
  have hob : OB s9 _ (.cells (.int .i16 v :: cells).toArray 58) := hK _ (List.mem_of_getElem? (i := 0) rfl)
  clear hK
  have hx := hx.mv hs9
  have hM := hM.mv hs9
  refine cd_sr ?_
  refine ln_pv (pv_move rfl) rfl ?_
  refine ln_nilrow 5 1 ?_
  refine ln_callT (i := 0) en_31 rfl rfl (fun u hu hok hav => append_FetchSnapshotRequest u _ v x cells _ [] (hob.mv hu).rc (hM.mv hu) hfit h0 h1 (by simpa using hB) hok hav) rfl ?_
  rintro u3 v3 _ ht3 ⟨_, ⟨rfl, h1v3⟩, _⟩
  have hx := hx.mv ht3
  have hM := hM.mv ht3
  have hob := hob.mv ht3
  refine ln_pv (pv_assign rfl) rfl ?_
  refine ln_cd ?_
  refine cd_ret ?_
  refine at_retA rfl rfl (fun w hS => ?_)
  exact row_rs hS (j := 0) rfl (u8s_one _)
theorem law_FetchSnapshotRequest (t : Vw) (n : Nat) (x : Tre) (cs : List Value) (hn8 : n < 256) (hx : RT t x cs) (hsm : smT x) (hsmF : smT (fitT F_FetchSnapshotRequest ((versionN n 1 : Nat) : Int) x)) (hgF : gT (fitT F_FetchSnapshotRequest ((versionN n 1 : Nat) : Int) x)) (hfit : okP F_FetchSnapshotRequest ((versionN n 1 : Nat) : Int) (flexB 0 ((versionN n 1 : Nat) : Int)) (fitT F_FetchSnapshotRequest ((versionN n 1 : Nat) : Int) x)) (hlaw : writeB F_FetchSnapshotRequest 0 ((versionN n 1 : Nat) : Int) (fitT F_FetchSnapshotRequest ((versionN n 1 : Nat) : Int) x) = writeB F_FetchSnapshotRequest 0 ((versionN n 1 : Nat) : Int) x) (hB : (writeB F_FetchSnapshotRequest 0 ((versionN n 1 : Nat) : Int) x).length < 1099511627776) : CS Tryz.prog 3 [.int .u8 (n : Int), .agg cs.toArray] t (.bool true) := by
  obtain ⟨sS, sL, sU, rfl, hn, hS, ⟨lc, hL, hLs⟩, hU⟩ := hx.open
  obtain ⟨adS, cS, rfl, hleS⟩ := hS.shape
  obtain ⟨adL, cL, rfl, hleL⟩ := hL.shape
  have hU0 := hU
  obtain ⟨uc, hU1, hUs⟩ := hU0
  obtain ⟨hz1, hz2, hz3, hz4⟩ := hsm.open
  have hok := ok_F_FetchSnapshotRequest
  have hvn : versionN n 1 ≤ 1 := by have := Nat.mod_lt n (show 0 < 1 + 1 by omega); unfold versionN; omega
  refine CA.cs ?_
  refine ca_enter Tryz.func3 rfl Tryz.ntmps3 rfl ?_
  cases hft : fits1 x with
  | false =>
    refine cd_sr ?_
    refine ln_box rfl rfl rfl (fun b1 => ?_)
    refine ln_pv (pv_assign rfl) rfl ?_
    refine ln_cd ?_
    refine cd_seq ?_
    refine cd_sr ?_
    refine ln_pv (pv_ldO (i := 0) rfl Tryz.underlying26 rfl (tispec_Tree).size rfl rfl) rfl ?_
    refine ln_callS en_7 rfl (fun u hu => by have h := laws_zzFits1 u x _ (RT.mv hx hu) (by omega); rwa [hft] at h) rfl ?_
    refine ln_pv (pv_not rfl) rfl ?_
    refine ln_cd ?_
    refine cd_tt rfl ?_
    refine cd_sr ?_
    refine ln_pv (pv_assign rfl) rfl ?_
    refine ln_cd ?_
    refine cd_ret ?_
    refine at_retA rfl rfl (fun w hS => ?_)
    rfl
  | true =>
    refine cd_sr ?_
    refine ln_box rfl rfl rfl (fun b1 => ?_)
    refine ln_pv (pv_assign rfl) rfl ?_
    refine ln_cd ?_
    refine cd_seq ?_
    refine cd_sr ?_
    refine ln_pv (pv_ldO (i := 0) rfl Tryz.underlying26 rfl (tispec_Tree).size rfl rfl) rfl ?_
    refine ln_callS en_7 rfl (fun u hu => by have h := laws_zzFits1 u x _ (RT.mv hx hu) (by omega); rwa [hft] at h) rfl ?_
    refine ln_pv (pv_not rfl) rfl ?_
    refine ln_cd ?_
    refine cd_ff rfl ?_
    refine cd_skip ?_
    refine at_cd ?_
    refine cd_sr ?_
    refine ln_callS en_8 rfl (fun u hu => max_FetchSnapshotRequest u) rfl ?_
    refine ln_pv (pv_assign rfl) rfl ?_
    refine ln_cd ?_
    refine cd_seq ?_
    refine cd_sr ?_
    refine ln_pv (pv_move rfl) rfl ?_
    refine ln_pv (pv_ff (pv_lss rfl rfl) (by omega)) rfl ?_
    refine ln_cd ?_
    refine cd_ff rfl ?_
    refine cd_skip ?_
    refine at_cd ?_
    refine cd_sr ?_
    refine ln_callA en_9 rfl (fun u hu => sch_F_FetchSnapshotRequest u) rfl (fun u1 v1 ht1 hR1 => ?_)
    have hx := hx.mv ht1
    obtain ⟨sv, lcm, rfl, hVm, hFm⟩ := hR1
    refine ln_pv (pv_move rfl) rfl ?_
    refine ln_pv (pv_move rfl) rfl ?_
    refine ln_callS en_10 rfl (fun u hu => laws_version u n 1 hn8 (by omega)) rfl ?_
    refine ln_alloc tispec_Message rfl rfl (fun b2 => ?_)
    refine ln_storeW (i := 0) rfl rfl rfl rfl (tispec_Message).size rfl (by simp [(RS.one hVm)]) ?_
    refine ln_pv (pv_assign rfl) rfl ?_
    refine ln_cd ?_
    refine cd_dr' [0, 1] [0, 1, 2, 3, 4, 8, 9, 10, 13] [0, 1, 2, 3, 4, 8, 9, 10, 5, 6, 7, 11, 12, 13] mixed (by kernel_rfl) ?_
    refine lo_pv rfl rfl (sk_js (Tr.refl _) [0, 1] rfl) (pv_move rfl) rfl ?_
    refine lo_pv rfl rfl (sk_js (Tr.refl _) [0, 1] rfl) (pv_fieldAddr (off := 0) (r := 0) Tryz.underlying31 rfl (tiSl_spec_Field).size rfl rfl rfl) rfl ?_
    refine lo_pv rfl rfl (sk_js (Tr.refl _) [0, 1] rfl) (pv_ldo (i := 0) rfl Tryz.underlying29 rfl rfl rfl) rfl ?_
    refine lo_pv rfl rfl (sk_js (Tr.refl _) [0, 1] rfl) (pv_move rfl) rfl ?_
    refine lo_pv rfl rfl (sk_js (Tr.refl _) [0, 1] rfl) (pv_ldO (i := 1) rfl Tryz.underlying26 rfl (tispec_Tree).size rfl rfl) rfl ?_
    refine lo_pv rfl rfl (sk_js (Tr.refl _) [0, 1] rfl) (pv_ldO (i := 0) rfl Tryz.underlying31 rfl (tispec_Message).size rfl rfl) rfl ?_
    refine lo_pv rfl rfl (sk_js (Tr.refl _) [0, 1] rfl) (pv_move rfl) rfl ?_
    refine lo_pv rfl rfl (sk_js (Tr.refl _) [0, 1] rfl) (pv_ldO (i := 1) rfl Tryz.underlying26 rfl (tispec_Tree).size rfl rfl) rfl ?_
    refine lo_eff rfl rfl ?_
    refine ln_callA en_14 rfl (fun u hu => spec_Fit F_FetchSnapshotRequest hok.1 hok.2.1 hok.2.2 u _ _ _ ((versionN n 1 : Nat) : Int) x (RS.mv hVm hu) (RFs.mv hFm hu) (RT.mv hx hu) hsm) rfl (fun u2 v2 ht2 hR2 => ?_)
    have hx := hx.mv ht2
    have hVm := hVm.mv ht2
    have hFm := hFm.mv ht2
    obtain ⟨dF, rfl, hdF⟩ := hR2
    refine lo_back (sk_js ht2 [0, 1] rfl) ?_
    refine lo_eff rfl rfl ?_
    refine ln_callA en_13 rfl (fun u hu => spec_given (fitT F_FetchSnapshotRequest ((versionN n 1 : Nat) : Int) x) u _ (RT.mv hdF hu) hsmF) rfl (fun u3 v3 ht3 hR3 => ?_)
    have hx := hx.mv ht3
    have hVm := hVm.mv ht3
    have hFm := hFm.mv ht3
    have hdF := hdF.mv ht3
    obtain ⟨dG, rfl, hdG⟩ := hR3
    refine lo_back (sk_js (ht2.trans ht3) [0, 1] rfl) ?_
    refine lo_eff rfl rfl ?_
    refine ln_callA en_12 rfl (fun u hu => make_FetchSnapshotRequest u ((versionN n 1 : Nat) : Int) (fitT F_FetchSnapshotRequest ((versionN n 1 : Nat) : Int) x) _ (RT.mv hdG hu) hsmF hgF hfit (by omega) (by omega) (by rw [hlaw]; omega)) rfl (fun u4 v4 ht4 hR4 => ?_)
    have hx := hx.mv ht4
    have hVm := hVm.mv ht4
    have hFm := hFm.mv ht4
    have hdF := hdF.mv ht4
    have hdG := hdG.mv ht4
    refine lo_back (sk_js ((ht2.trans ht3).trans ht4) [0, 1] rfl) ?_
    refine lo_eff rfl rfl ?_
    refine ln_callA en_15 rfl (fun u hu => spec_Write F_FetchSnapshotRequest 0 hok.1 hok.2.2 u _ _ _ ((versionN n 1 : Nat) : Int) x (RS.mv hVm hu) (RFs.mv hFm hu) (RT.mv hx hu) hsm hB) rfl (fun u5 v5 ht5 hR5 => ?_)
    have hx := hx.mv ht5
    have hVm := hVm.mv ht5
    have hFm := hFm.mv ht5
    have hdF := hdF.mv ht5
    have hdG := hdG.mv ht5
    have hR4 := hR4.mv ht5
    refine lo_back (sk_js (((ht2.trans ht3).trans ht4).trans ht5) [0, 1] rfl) ?_
    refine lo_eff rfl rfl ?_
    refine ln_callS en_11 rfl (fun u hu => by have h := spec_Same u _ _ _ _ (RSv.mv hR4 hu) (RSv.mv hR5 hu) (by rw [hlaw]; omega); rwa [hlaw, decide_eq_true rfl] at h) rfl ?_
    refine lo_back (sk_js (((ht2.trans ht3).trans ht4).trans ht5) [0, 1] rfl) ?_
    refine lo_pv rfl rfl (sk_js (((ht2.trans ht3).trans ht4).trans ht5) [0, 1] rfl) (pv_assign rfl) rfl ?_
    refine lo_cd ?_
    refine cd_ret ?_
    refine at_retA rfl rfl (fun w hS => ?_)
    rfl
theorem fn_FetchSnapshotRequest (t : Vw) (n : Nat) (x : Tre) (cs : List Value) (hn : n < 256) (hx : RT t x cs) (hw : wt x ≤ 1048576) : CS Tryz.prog 3 [.int .u8 (n : Int), .agg cs.toArray] t (.bool true) := by
  have hsm : smT x := smT_wt x (by omega)
  have hok := ok_F_FetchSnapshotRequest
  exact law_FetchSnapshotRequest t n x cs hn hx hsm (smT_fitT _ _ x hok.1 hok.2.2 hsm) (gT_fitT _ _ x (by decide) (by kernel_rfl)) (okP_fit _ _ _ x hok.2.1 hx.keys) (writeB_fit _ _ _ x hok.2.1 (by kernel_rfl)) (writeB_len _ _ _ x hok.1 hx.keys hw (of_decide_eq_true (by kernel_rfl)))
end K
end Go.Proofs.YtmknncmdbmnmgabGreat
