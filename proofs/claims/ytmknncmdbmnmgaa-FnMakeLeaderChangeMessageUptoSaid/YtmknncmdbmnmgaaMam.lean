import Derived.Test.YtmknncmdbmnmgaaMap
import Derived.Test.YtmknncmdbmnmgaaMaf
import Derived.Test.YtmknncmdbmnmgaaP3
import Derived.Test.YtmknncmdbmnmgaaS10
set_option linter.unusedVariables false
set_option linter.unusedSimpArgs false
namespace Go.Proofs.Ytmknncmdbmnmgaa
namespace K
open Go Go.Lib
theorem spec_Kept (fs : List Fld) (fx : Int) (hok : okFs fs = true) (hlen : fs.length < 1000000) (t : Vw) (vf : Value) (lc cs : List Value) (v : Int) (x : Tre) (hVf : RS t 8 vf fs.length lc) (hFf : RFs t fs lc) (hx : RT t x cs) (hsm : smT x) (hB : (fixed v 2 ++ writeB fs fx v x).length < 1099511627776) : CA Try.prog 21 [.agg #[vf, .int .i64 fx], .int .i64 v, .agg cs.toArray] t fun u r => RSv u r (fixed v 2 ++ writeB fs fx v x) := by
  obtain ⟨sS, sL, sU, rfl, hn, hS, ⟨lc, hL, hLs⟩, hU⟩ := hx.open
  obtain ⟨adS, cS, rfl, hleS⟩ := hS.shape
  obtain ⟨adL, cL, rfl, hleL⟩ := hL.shape
  have hU0 := hU
  obtain ⟨uc, hU1, hUs⟩ := hU0
  obtain ⟨hz1, hz2, hz3, hz4⟩ := hsm.open
  refine ca_enter Try.func21 rfl Try.ntmps21 rfl ?_
  refine cd_sr ?_
  refine ln_box rfl rfl rfl (fun b1 => ?_)
  refine ln_box rfl rfl rfl (fun b2 => ?_)
  refine ln_pv (pv_assign rfl) rfl ?_
  refine ln_cd ?_
  refine cd_dr' [0, 1] [0, 2, 3, 4, 7] [0, 2, 3, 4, 1, 5, 6, 7] mixed (by kernel_rfl) ?_
  refine lo_pv rfl rfl (sk_js (Tr.refl _) [0, 1] rfl) (pv_move rfl) rfl ?_
  refine lo_pv rfl rfl (sk_js (Tr.refl _) [0, 1] rfl) (pv_ldO (i := 1) rfl Try.underlying30 rfl (tispec_Message).size rfl rfl) rfl ?_
  refine lo_pv rfl rfl (sk_js (Tr.refl _) [0, 1] rfl) (pv_move rfl) rfl ?_
  refine lo_pv rfl rfl (sk_js (Tr.refl _) [0, 1] rfl) (pv_ldO (i := 0) rfl Try.underlying26 rfl (tispec_Tree).size rfl rfl) rfl ?_
  refine lo_eff rfl rfl ?_
  refine ln_nilrow 5 1 ?_
  refine ln_callT (i := 0) en_65 rfl rfl (fun u hu hok hav => CN.ct (spec_Fixed_n u v 2 (by omega))) rfl ?_
  rintro u1 v1 _ ht1 ⟨_, ⟨rfl, h1v1⟩, _⟩
  have hVf := hVf.mv ht1
  have hFf := hFf.mv ht1
  have hx := hx.mv ht1
  refine lo_back (sk_js ht1 [1, 2] rfl) ?_
  refine lo_eff rfl rfl ?_
  refine ln_callA en_26 rfl (fun u hu => spec_Write fs fx hok hlen u _ _ _ v x (RS.mv hVf hu) (RFs.mv hFf hu) (RT.mv hx hu) hsm (by simp only [List.length_append] at hB; omega)) rfl (fun u2 v2 ht2 hR2 => ?_)
  have hVf := hVf.mv ht2
  have hFf := hFf.mv ht2
  have hx := hx.mv ht2
  refine lo_back (sk_js (ht1.trans ht2) [1, 2] rfl) ?_
  refine lo_eff rfl rfl ?_
  refine ln_append (i := 0) rfl Try.underlying22 tiuint8 rfl (by decide) rfl rfl (RS.src hR2) (by simp only [List.length_append, maxLen] at hB ⊢; omega) (by simp only [List.length_append, maxLen] at hB ⊢; omega) rfl (k' := (fixed v 2 ++ writeB fs fx v x).length) (xs' := u8s (fixed v 2 ++ writeB fs fx v x)) (by simp) (by simp [u8s]) (fun v3 hv3 => ?_)
  refine lo_back (sk_js (ht1.trans ht2) [1, 2] rfl) ?_
  refine lo_pv rfl rfl (sk_js (ht1.trans ht2) [1, 2] rfl) (pv_assign rfl) rfl ?_
  refine lo_cd ?_
  refine cd_ret ?_
  refine at_retA rfl rfl (fun w hS => ?_)
  exact row_rs hS (j := 0) rfl (u8s_one _)
theorem make_LeaderChangeMessage (t : Vw) (v : Int) (x : Tre) (cs : List Value) (hx : RT t x cs) (hsm : smT x) (hg : gT x) (hfit : okP F_LeaderChangeMessage v (flexB 0 v) x) (h0 : 0 ≤ v) (h1 : v ≤ 1) (hB : (fixed v 2 ++ writeB F_LeaderChangeMessage 0 v x).length ≤ 4398046511104) : CA Try.prog 18 [.int .i64 v, .agg cs.toArray] t fun u r => RSv u r (fixed v 2 ++ writeB F_LeaderChangeMessage 0 v x) := by
  obtain ⟨sS, sL, sU, rfl, hn, hS, ⟨lc, hL, hLs⟩, hU⟩ := hx.open
  obtain ⟨adS, cS, rfl, hleS⟩ := hS.shape
  obtain ⟨adL, cL, rfl, hleL⟩ := hL.shape
  have hU0 := hU
  obtain ⟨uc, hU1, hUs⟩ := hU0
  obtain ⟨hz1, hz2, hz3, hz4⟩ := hsm.open
  rw [show writeB F_LeaderChangeMessage 0 v x = partB F_LeaderChangeMessage v (flexB 0 v) x from rfl] at *
  refine ca_enter Try.func18 rfl Try.ntmps18 rfl ?_
  refine cd_sr ?_
  refine ln_box rfl rfl rfl (fun b1 => ?_)
  refine ln_pv (pv_assign rfl) rfl ?_
  refine ln_cd ?_
  refine cd_sr ?_
  refine ln_pv (pv_move rfl) rfl ?_
  refine ln_pv (pv_conv' Try.underlying3 Try.underlying49 rfl (r := v) (wrap_i16_in (by omega) (by omega))) rfl ?_
  refine ln_pv (pv_struct [(0, 1), (1, 1), (2, 1), (3, 1), (4, 1)] (l := [_, _, _, _, _]) rfl Try.underlying55 tipub_kmsg_LeaderChangeMessage (by kernel_rfl) rfl rfl) rfl ?_
  refine ln_box rfl rfl rfl (fun b2 => ?_)
  refine ln_pv (pv_assign rfl) rfl ?_
  refine ln_cd ?_
  refine cd_sr ?_
  refine ln_pv (pv_move rfl) rfl ?_
  refine ln_pv (pv_ldO (i := 1) rfl Try.underlying37 rfl (tiimpl_Tree).size rfl rfl) rfl ?_
  refine ln_callT (i := 0) en_59 rfl rfl (fun u hu hok hav => fill_LeaderChangeMessage u _ v x _ (RT.mv hx hu) hsm hg hok hav) rfl ?_
  rintro u1 v1 _ ht1 ⟨_, ⟨cells, rfl, hM⟩, hxu⟩
  have hM := hM.mv hxu
  have hx := hx.mv ht1
  refine ln_cd ?_
  refine cd_free (fun s9 hs9 hK => ?_)
  have hob : OB s9 _ (.cells (.int .i16 v :: cells).toArray 55) := hK _ (List.mem_of_getElem? (i := 0) rfl)
  clear hK
  have hx := hx.mv hs9
  have hM := hM.mv hs9
  refine cd_sr ?_
  refine ln_pv (pv_move rfl) rfl ?_
  refine ln_nilrow 5 1 ?_
  refine ln_callT (i := 0) en_60 rfl rfl (fun u hu hok hav => append_LeaderChangeMessage u _ v x cells _ [] (hob.mv hu).rc (hM.mv hu) hfit h0 h1 (by simpa using hB) hok hav) rfl ?_
  rintro u2 v2 _ ht2 ⟨_, ⟨rfl, h1v2⟩, _⟩
  have hx := hx.mv ht2
  have hM := hM.mv ht2
  have hob := hob.mv ht2
  refine ln_pv (pv_assign rfl) rfl ?_
  refine ln_cd ?_
  refine cd_ret ?_
  refine at_retA rfl rfl (fun w hS => ?_)
  exact row_rs hS (j := 0) rfl (u8s_one _)
theorem pv_rem' {P : Program} {S : World → Prop} {d : Option Nat} {g : Option (Nat × Bool)} {t u ty : TypeId} {pos : String} {af : Array Edge} {n : Nat} {L : Env} {x y : Operand} {k : IntKind} {i j r : Int} (hx : ev L x = some (.int k i)) (hy : ev L y = some (.int k j)) (h0 : 0 ≤ i) (h1 : 0 < j) (hr : i % j = r) : PV P S ⟨d, .binOp .rem t x y u, ty, pos, af, g⟩ n L (.int k r) := hr ▸ pv_rem hx hy h0 h1
theorem law_LeaderChangeMessage (t : Vw) (n : Nat) (x : Tre) (cs : List Value) (hn8 : n < 256) (hx : RT t x cs) (hsm : smT x) (hsmF : smT (fitT F_LeaderChangeMessage ((n % 2 : Nat) : Int) x)) (hgF : gT (fitT F_LeaderChangeMessage ((n % 2 : Nat) : Int) x)) (hfit : okP F_LeaderChangeMessage ((n % 2 : Nat) : Int) (flexB 0 ((n % 2 : Nat) : Int)) (fitT F_LeaderChangeMessage ((n % 2 : Nat) : Int) x)) (hlaw : fixed ((n % 2 : Nat) : Int) 2 ++ writeB F_LeaderChangeMessage 0 ((n % 2 : Nat) : Int) (fitT F_LeaderChangeMessage ((n % 2 : Nat) : Int) x) = fixed ((n % 2 : Nat) : Int) 2 ++ writeB F_LeaderChangeMessage 0 ((n % 2 : Nat) : Int) x) (hB : (fixed ((n % 2 : Nat) : Int) 2 ++ writeB F_LeaderChangeMessage 0 ((n % 2 : Nat) : Int) x).length < 1099511627776) : CS Try.prog 3 [.int .u8 (n : Int), .agg cs.toArray] t (.bool true) := by
  obtain ⟨sS, sL, sU, rfl, hn, hS, ⟨lc, hL, hLs⟩, hU⟩ := hx.open
  obtain ⟨adS, cS, rfl, hleS⟩ := hS.shape
  obtain ⟨adL, cL, rfl, hleL⟩ := hL.shape
  have hU0 := hU
  obtain ⟨uc, hU1, hUs⟩ := hU0
  obtain ⟨hz1, hz2, hz3, hz4⟩ := hsm.open
  have hok := ok_F_LeaderChangeMessage
  refine CA.cs ?_
  refine ca_enter Try.func3 rfl Try.ntmps3 rfl ?_
  cases hft : fits1 x with
  | false =>
    refine cd_sr ?_
    refine ln_box rfl rfl rfl (fun b1 => ?_)
    refine ln_pv (pv_assign rfl) rfl ?_
    refine ln_cd ?_
    refine cd_seq ?_
    refine cd_sr ?_
    refine ln_pv (pv_ldO (i := 0) rfl Try.underlying26 rfl (tispec_Tree).size rfl rfl) rfl ?_
    refine ln_callS en_15 rfl (fun u hu => by have h := laws_zzFits1 u x _ (RT.mv hx hu) (by omega); rwa [hft] at h) rfl ?_
    refine ln_pv (pv_not rfl) rfl ?_
    refine ln_cd ?_
    refine cd_tt rfl ?_
    refine cd_sr ?_
    refine ln_pv (pv_assign rfl) rfl ?_
    refine ln_cd ?_
    refine cd_ret ?_
    refine at_retA rfl rfl (fun w hS => ?_)
    rfl
  | true =>
    refine cd_sr ?_
    refine ln_box rfl rfl rfl (fun b1 => ?_)
    refine ln_pv (pv_assign rfl) rfl ?_
    refine ln_cd ?_
    refine cd_seq ?_
    refine cd_sr ?_
    refine ln_pv (pv_ldO (i := 0) rfl Try.underlying26 rfl (tispec_Tree).size rfl rfl) rfl ?_
    refine ln_callS en_15 rfl (fun u hu => by have h := laws_zzFits1 u x _ (RT.mv hx hu) (by omega); rwa [hft] at h) rfl ?_
    refine ln_pv (pv_not rfl) rfl ?_
    refine ln_cd ?_
    refine cd_ff rfl ?_
    refine cd_skip ?_
    refine at_cd ?_
    refine cd_sr ?_
    refine ln_callA en_16 rfl (fun u hu => sch_F_LeaderChangeMessage u) rfl (fun u1 v1 ht1 hR1 => ?_)
    have hx := hx.mv ht1
    obtain ⟨sv, lcm, rfl, hVm, hFm⟩ := hR1
    refine ln_pv (pv_move rfl) rfl ?_
    refine ln_pv (pv_conv' Try.underlying5 Try.underlying3 rfl (wrap_i64 (by omega) (by omega))) rfl ?_
    refine ln_pv (pv_rem' rfl rfl (by omega) (by omega) (r := ((n % 2 : Nat) : Int)) (by omega)) rfl ?_
    refine ln_alloc tispec_Message rfl rfl (fun b2 => ?_)
    refine ln_storeW (i := 0) rfl rfl rfl rfl (tispec_Message).size rfl (by simp [(RS.one hVm)]) ?_
    refine ln_pv (pv_assign rfl) rfl ?_
    refine ln_cd ?_
    refine cd_dr' [0, 1] [0, 1, 2, 3, 4, 8, 9, 10, 13] [0, 1, 2, 3, 4, 8, 9, 10, 5, 6, 7, 11, 12, 13] mixed (by kernel_rfl) ?_
    refine lo_pv rfl rfl (sk_js (Tr.refl _) [0, 1] rfl) (pv_move rfl) rfl ?_
    refine lo_pv rfl rfl (sk_js (Tr.refl _) [0, 1] rfl) (pv_fieldAddr (off := 0) (r := 0) Try.underlying30 rfl (tiSl_spec_Field).size rfl rfl rfl) rfl ?_
    refine lo_pv rfl rfl (sk_js (Tr.refl _) [0, 1] rfl) (pv_ldo (i := 0) rfl Try.underlying28 rfl rfl rfl) rfl ?_
    refine lo_pv rfl rfl (sk_js (Tr.refl _) [0, 1] rfl) (pv_move rfl) rfl ?_
    refine lo_pv rfl rfl (sk_js (Tr.refl _) [0, 1] rfl) (pv_ldO (i := 1) rfl Try.underlying26 rfl (tispec_Tree).size rfl rfl) rfl ?_
    refine lo_pv rfl rfl (sk_js (Tr.refl _) [0, 1] rfl) (pv_ldO (i := 0) rfl Try.underlying30 rfl (tispec_Message).size rfl rfl) rfl ?_
    refine lo_pv rfl rfl (sk_js (Tr.refl _) [0, 1] rfl) (pv_move rfl) rfl ?_
    refine lo_pv rfl rfl (sk_js (Tr.refl _) [0, 1] rfl) (pv_ldO (i := 1) rfl Try.underlying26 rfl (tispec_Tree).size rfl rfl) rfl ?_
    refine lo_eff rfl rfl ?_
    refine ln_callA en_20 rfl (fun u hu => spec_Fit F_LeaderChangeMessage hok.1 hok.2.1 hok.2.2 u _ _ _ ((n % 2 : Nat) : Int) x (RS.mv hVm hu) (RFs.mv hFm hu) (RT.mv hx hu) hsm) rfl (fun u2 v2 ht2 hR2 => ?_)
    have hx := hx.mv ht2
    have hVm := hVm.mv ht2
    have hFm := hFm.mv ht2
    obtain ⟨dF, rfl, hdF⟩ := hR2
    refine lo_back (sk_js ht2 [0, 1] rfl) ?_
    refine lo_eff rfl rfl ?_
    refine ln_callA en_19 rfl (fun u hu => spec_given (fitT F_LeaderChangeMessage ((n % 2 : Nat) : Int) x) u _ (RT.mv hdF hu) hsmF) rfl (fun u3 v3 ht3 hR3 => ?_)
    have hx := hx.mv ht3
    have hVm := hVm.mv ht3
    have hFm := hFm.mv ht3
    have hdF := hdF.mv ht3
    obtain ⟨dG, rfl, hdG⟩ := hR3
    refine lo_back (sk_js (ht2.trans ht3) [0, 1] rfl) ?_
    refine lo_eff rfl rfl ?_
    refine ln_callA en_18 rfl (fun u hu => make_LeaderChangeMessage u ((n % 2 : Nat) : Int) (fitT F_LeaderChangeMessage ((n % 2 : Nat) : Int) x) _ (RT.mv hdG hu) hsmF hgF hfit (by omega) (by omega) (by rw [hlaw]; omega)) rfl (fun u4 v4 ht4 hR4 => ?_)
    have hx := hx.mv ht4
    have hVm := hVm.mv ht4
    have hFm := hFm.mv ht4
    have hdF := hdF.mv ht4
    have hdG := hdG.mv ht4
    refine lo_back (sk_js ((ht2.trans ht3).trans ht4) [0, 1] rfl) ?_
    refine lo_eff rfl rfl ?_
    refine ln_callA en_21 rfl (fun u hu => spec_Kept F_LeaderChangeMessage 0 hok.1 hok.2.2 u _ _ _ ((n % 2 : Nat) : Int) x (RS.mv hVm hu) (RFs.mv hFm hu) (RT.mv hx hu) hsm hB) rfl (fun u5 v5 ht5 hR5 => ?_)
    have hx := hx.mv ht5
    have hVm := hVm.mv ht5
    have hFm := hFm.mv ht5
    have hdF := hdF.mv ht5
    have hdG := hdG.mv ht5
    have hR4 := hR4.mv ht5
    refine lo_back (sk_js (((ht2.trans ht3).trans ht4).trans ht5) [0, 1] rfl) ?_
    refine lo_eff rfl rfl ?_
    refine ln_callS en_17 rfl (fun u hu => by have h := spec_Same u _ _ _ _ (RSv.mv hR4 hu) (RSv.mv hR5 hu) (by rw [hlaw]; omega); rwa [hlaw, decide_eq_true rfl] at h) rfl ?_
    refine lo_back (sk_js (((ht2.trans ht3).trans ht4).trans ht5) [0, 1] rfl) ?_
    refine lo_pv rfl rfl (sk_js (((ht2.trans ht3).trans ht4).trans ht5) [0, 1] rfl) (pv_assign rfl) rfl ?_
    refine lo_cd ?_
    refine cd_ret ?_
    refine at_retA rfl rfl (fun w hS => ?_)
    rfl
theorem fn_LeaderChangeMessage (t : Vw) (n : Nat) (x : Tre) (cs : List Value) (hn : n < 256) (hx : RT t x cs) (hw : wt x ≤ 1048576) : CS Try.prog 3 [.int .u8 (n : Int), .agg cs.toArray] t (.bool true) := by
  have hsm : smT x := smT_wt x (by omega)
  have hok := ok_F_LeaderChangeMessage
  exact law_LeaderChangeMessage t n x cs hn hx hsm (smT_fitT _ _ x hok.1 hok.2.2 hsm) (gT_fitT _ _ x (by decide) (by kernel_rfl)) (okP_fit _ _ _ x hok.2.1 hx.keys) (by rw [writeB_fit _ _ _ x hok.2.1 (by kernel_rfl)]) (by
    have hK : KP F_LeaderChangeMessage < 1048576 := of_decide_eq_true (by kernel_rfl)
    have h1 : KP F_LeaderChangeMessage * wt x ≤ 1048575 * 1048576 := Nat.mul_le_mul (by omega) hw
    have h := partB_of (fl := flexB 0 ((n % 2 : Nat) : Int)) (v := ((n % 2 : Nat) : Int)) (fieldsB_len F_LeaderChangeMessage _ _ hok.1) hok.1 x hx.keys (by unfold BIG; omega)
    have h2 : writeB F_LeaderChangeMessage 0 ((n % 2 : Nat) : Int) x = partB F_LeaderChangeMessage ((n % 2 : Nat) : Int) (flexB 0 ((n % 2 : Nat) : Int)) x := rfl
    rw [List.length_append, fixed_length, h2]
    omega)
end K
end Go.Proofs.Ytmknncmdbmnmgaa
