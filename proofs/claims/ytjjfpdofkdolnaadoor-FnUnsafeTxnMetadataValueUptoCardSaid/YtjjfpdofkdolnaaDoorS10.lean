import Derived.Test.YtjjfpdofkdolnaaDoorS7
set_option linter.unusedVariables false
set_option linter.unusedSimpArgs false
namespace Go.Proofs.YtjjfpdofkdolnaaDoor
namespace K
open Go Go.Lib
def flexB (fx v : Int) : Bool := decide (fx ≥ 0) && decide (v ≥ fx)
def writeB (fs : List Fld) (fx v : Int) (x : Tre) : List UInt8 := partB fs v (flexB fx v) x
theorem spec_Write (fs : List Fld) (fx : Int) (hok : okFs fs = true) (hlen : fs.length < 1000000) (t : Vw) (vf : Value) (lc cs : List Value) (v : Int) (x : Tre) (hVf : RS t 8 vf fs.length lc) (hFf : RFs t fs lc) (hx : RT t x cs) (hsm : smT x) (hB : (writeB fs fx v x).length < 1099511627776) : CA Tryd.prog 76 [.agg #[vf, .int .i64 fx], .int .i64 v, .agg cs.toArray] t fun u r => RSv u r (writeB fs fx v x) := by
  obtain ⟨sS, sL, sU, rfl, hn, hS, ⟨lc, hL, hLs⟩, hU⟩ := hx.open
  obtain ⟨adS, cS, rfl, hleS⟩ := hS.shape
  obtain ⟨adL, cL, rfl, hleL⟩ := hL.shape
  have hU0 := hU
  obtain ⟨uc, hU1, hUs⟩ := hU0
  obtain ⟨hz1, hz2, hz3, hz4⟩ := hsm.open
  refine ca_enter Tryd.func76 rfl Tryd.ntmps76 rfl ?_
  by_cases h1 : fx ≥ 0
  · by_cases h2 : v ≥ fx
    · have hfl : flexB fx v = true := by simp [flexB, h1, h2]
      refine cd_sr ?_
      refine ln_box rfl rfl rfl (fun b1 => ?_)
      refine ln_box rfl rfl rfl (fun b2 => ?_)
      refine ln_pv (pv_assign rfl) rfl ?_
      refine ln_cd ?_
      refine cd_sr ?_
      refine ln_pv (pv_fieldAddr (off := 0) (r := 0) Tryd.underlying42 rfl (tiSl_spec_Field).size rfl rfl rfl) rfl ?_
      refine ln_pv (pv_ldo (i := 1) rfl Tryd.underlying40 rfl rfl rfl) rfl ?_
      refine ln_pv (pv_move rfl) rfl ?_
      refine ln_pv (pv_fieldAddr (off := 1) (r := 1) Tryd.underlying42 rfl (tiint).size rfl rfl rfl) rfl ?_
      refine ln_pv (pv_ldo (i := 1) rfl Tryd.underlying3 rfl rfl rfl) rfl ?_
      refine ln_pv (pv_tt (pv_geq rfl rfl) h1) rfl ?_
      refine ln_pv (pv_move rfl) rfl ?_
      refine ln_gt rfl rfl rfl (pv_move rfl) rfl ?_
      refine ln_gt rfl rfl rfl (pv_fieldAddr (off := 1) (r := 1) Tryd.underlying42 rfl (tiint).size rfl rfl rfl) rfl ?_
      refine ln_gt rfl rfl rfl (pv_ldo (i := 1) rfl Tryd.underlying3 rfl rfl rfl) rfl ?_
      refine ln_gt rfl rfl rfl (pv_tt (pv_geq rfl rfl) h2) rfl ?_
      refine ln_pv (pv_pick rfl (fun _ => rfl) (fun _ => rfl)) rfl ?_
      refine ln_pv (pv_ldO (i := 0) rfl Tryd.underlying35 rfl (tispec_Tree).size rfl rfl) rfl ?_
      refine ln_callA en_109 rfl (fun u hu => spec_part fs hok hlen u _ _ _ v true x (RS.mv hVf hu) (RFs.mv hFf hu) (RT.mv hx hu) hsm (by rwa [writeB, hfl] at hB)) rfl (fun u1 v1 ht1 hR1 => ?_)
      have hVf := hVf.mv ht1
      have hFf := hFf.mv ht1
      have hx := hx.mv ht1
      refine ln_pv (pv_assign rfl) rfl ?_
      refine ln_cd ?_
      refine cd_ret ?_
      refine at_retA rfl rfl (fun w hS => ?_)
      rw [writeB, hfl]
      exact RSv.mv hR1 hS.trFin
    · have hfl : flexB fx v = false := by simp [flexB, h2]
      refine cd_sr ?_
      refine ln_box rfl rfl rfl (fun b1 => ?_)
      refine ln_box rfl rfl rfl (fun b2 => ?_)
      refine ln_pv (pv_assign rfl) rfl ?_
      refine ln_cd ?_
      refine cd_sr ?_
      refine ln_pv (pv_fieldAddr (off := 0) (r := 0) Tryd.underlying42 rfl (tiSl_spec_Field).size rfl rfl rfl) rfl ?_
      refine ln_pv (pv_ldo (i := 1) rfl Tryd.underlying40 rfl rfl rfl) rfl ?_
      refine ln_pv (pv_move rfl) rfl ?_
      refine ln_pv (pv_fieldAddr (off := 1) (r := 1) Tryd.underlying42 rfl (tiint).size rfl rfl rfl) rfl ?_
      refine ln_pv (pv_ldo (i := 1) rfl Tryd.underlying3 rfl rfl rfl) rfl ?_
      refine ln_pv (pv_tt (pv_geq rfl rfl) h1) rfl ?_
      refine ln_pv (pv_move rfl) rfl ?_
      refine ln_gt rfl rfl rfl (pv_move rfl) rfl ?_
      refine ln_gt rfl rfl rfl (pv_fieldAddr (off := 1) (r := 1) Tryd.underlying42 rfl (tiint).size rfl rfl rfl) rfl ?_
      refine ln_gt rfl rfl rfl (pv_ldo (i := 1) rfl Tryd.underlying3 rfl rfl rfl) rfl ?_
      refine ln_gt rfl rfl rfl (pv_ff (pv_geq rfl rfl) h2) rfl ?_
      refine ln_pv (pv_pick rfl (fun _ => rfl) (fun _ => rfl)) rfl ?_
      refine ln_pv (pv_ldO (i := 0) rfl Tryd.underlying35 rfl (tispec_Tree).size rfl rfl) rfl ?_
      refine ln_callA en_109 rfl (fun u hu => spec_part fs hok hlen u _ _ _ v false x (RS.mv hVf hu) (RFs.mv hFf hu) (RT.mv hx hu) hsm (by rwa [writeB, hfl] at hB)) rfl (fun u1 v1 ht1 hR1 => ?_)
      have hVf := hVf.mv ht1
      have hFf := hFf.mv ht1
      have hx := hx.mv ht1
      refine ln_pv (pv_assign rfl) rfl ?_
      refine ln_cd ?_
      refine cd_ret ?_
      refine at_retA rfl rfl (fun w hS => ?_)
      rw [writeB, hfl]
      exact RSv.mv hR1 hS.trFin
  · have hfl : flexB fx v = false := by simp [flexB, h1]
    refine cd_sr ?_
    refine ln_box rfl rfl rfl (fun b1 => ?_)
    refine ln_box rfl rfl rfl (fun b2 => ?_)
    refine ln_pv (pv_assign rfl) rfl ?_
    refine ln_cd ?_
    refine cd_sr ?_
    refine ln_pv (pv_fieldAddr (off := 0) (r := 0) Tryd.underlying42 rfl (tiSl_spec_Field).size rfl rfl rfl) rfl ?_
    refine ln_pv (pv_ldo (i := 1) rfl Tryd.underlying40 rfl rfl rfl) rfl ?_
    refine ln_pv (pv_move rfl) rfl ?_
    refine ln_pv (pv_fieldAddr (off := 1) (r := 1) Tryd.underlying42 rfl (tiint).size rfl rfl rfl) rfl ?_
    refine ln_pv (pv_ldo (i := 1) rfl Tryd.underlying3 rfl rfl rfl) rfl ?_
    refine ln_pv (pv_ff (pv_geq rfl rfl) h1) rfl ?_
    refine ln_pv (pv_move rfl) rfl ?_
    refine ln_gf rfl rfl rfl rfl rfl ?_
    refine ln_gf rfl rfl rfl rfl rfl ?_
    refine ln_gf rfl rfl rfl rfl rfl ?_
    refine ln_gf rfl rfl rfl rfl rfl ?_
    refine ln_pv (pv_pick rfl (fun _ => rfl) (fun _ => rfl)) rfl ?_
    refine ln_pv (pv_ldO (i := 0) rfl Tryd.underlying35 rfl (tispec_Tree).size rfl rfl) rfl ?_
    refine ln_callA en_109 rfl (fun u hu => spec_part fs hok hlen u _ _ _ v false x (RS.mv hVf hu) (RFs.mv hFf hu) (RT.mv hx hu) hsm (by rwa [writeB, hfl] at hB)) rfl (fun u1 v1 ht1 hR1 => ?_)
    have hVf := hVf.mv ht1
    have hFf := hFf.mv ht1
    have hx := hx.mv ht1
    refine ln_pv (pv_assign rfl) rfl ?_
    refine ln_cd ?_
    refine cd_ret ?_
    refine at_retA rfl rfl (fun w hS => ?_)
    rw [writeB, hfl]
    exact RSv.mv hR1 hS.trFin
theorem cd_rowone {P : Program} {n : Nat} {L : Env} {H : Hp} {C : Cx} {s : Vw} {c : Code} {p : Post} {i : Nat} {v : Value} {e : TypeId} {sz m : Nat} {xs : List Value} (hi : H[i]? = some (.row v e sz m xs)) (h : v.oneCell' = true → Cd P c p n L H C s) : Cd P c p n L H C s := fun a w hF hS => h (ownsRow_one (hS.hf _ (List.mem_of_getElem? hi))) a w hF hS
def Fld.one (f : Fld) : Fld := .mk f.of_ f.frm f.to (-1) (-1) f.dflt f.of_ f.sub
theorem RTs.cells {s : Vw} : ∀ {l : List Tre} {cs : List Value}, RTs s l cs → ∀ u ∈ cs, u.oneCell' = true
  | [], cs, h => by simp only [RTs] at h; subst h; simp
  | x :: r, cs, h => by
    simp only [RTs] at h
    obtain ⟨c, c', rfl, h1, h2⟩ := h
    intro u hu
    rcases List.mem_append.1 hu with hu | hu
    · exact h1.cells u hu
    · exact RTs.cells h2 u hu
end K
end Go.Proofs.YtjjfpdofkdolnaaDoor
namespace Go.Proofs.YtjjfpdofkdolnaaDoor
namespace K
open Go Go.Lib
theorem RF.one_ {s : Vw} {f : Fld} {sv : Value} (h : RF s f [.int .i64 f.kind, .int .i64 f.frm, .int .i64 f.to, .int .i64 f.nul, .int .i64 f.tag, .int .i64 f.dflt, .int .i64 f.of_, sv]) : RF s f.one [.int .i64 f.of_, .int .i64 f.frm, .int .i64 f.to, .int .i64 (-1), .int .i64 (-1), .int .i64 f.dflt, .int .i64 f.of_, sv] := by
  obtain ⟨sv', he, lc, h1, h2⟩ := h.open
  simp only [List.cons.injEq, and_true, true_and] at he
  subst he
  cases f
  simp only [RF, Fld.one, Fld.kind, Fld.frm, Fld.to, Fld.nul, Fld.tag, Fld.dflt, Fld.of_, Fld.sub] at h1 h2 ⊢
  exact ⟨_, rfl, lc, h1, h2⟩
mutual
def ofOk : Fld → Bool
  | .mk _ _ _ _ _ _ o sub => decide (o ≠ 11) && ofOks sub
def ofOks : List Fld → Bool
  | [] => true
  | f :: r => ofOk f && ofOks r
end
theorem ofOks.mem : ∀ {l : List Fld}, ofOks l = true → ∀ f ∈ l, ofOk f = true
  | [], _, f, h => by simp at h
  | g :: r, h, f, hf => by
    simp only [ofOks, Bool.and_eq_true] at h
    rcases List.mem_cons.1 hf with rfl | hf
    · exact h.1
    · exact ofOks.mem h.2 f hf
theorem ofOk.of {f : Fld} (h : ofOk f = true) : f.of_ ≠ 11 ∧ ofOks f.sub = true := by
  cases f
  simpa only [ofOk, Bool.and_eq_true, decide_eq_true_eq, Fld.of_, Fld.sub] using h
end K
end Go.Proofs.YtjjfpdofkdolnaaDoor
namespace Go.Proofs.YtjjfpdofkdolnaaDoor
namespace K
open Go Go.Lib
end K
end Go.Proofs.YtjjfpdofkdolnaaDoor
