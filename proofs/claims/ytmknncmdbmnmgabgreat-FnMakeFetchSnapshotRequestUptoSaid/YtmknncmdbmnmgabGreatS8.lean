import Derived.Test.YtmknncmdbmnmgabGreatS7
set_option linter.unusedVariables false
set_option linter.unusedSimpArgs false
namespace Go.Proofs.YtmknncmdbmnmgabGreat
namespace K
open Go Go.Lib
def flexB (fx v : Int) : Bool := decide (fx ≥ 0) && decide (v ≥ fx)
def writeB (fs : List Fld) (fx v : Int) (x : Tre) : List UInt8 := partB fs v (flexB fx v) x
theorem spec_Write (fs : List Fld) (fx : Int) (hok : okFs fs = true) (hlen : fs.length < 1000000) (t : Vw) (vf : Value) (lc cs : List Value) (v : Int) (x : Tre) (hVf : RS t 8 vf fs.length lc) (hFf : RFs t fs lc) (hx : RT t x cs) (hsm : smT x) (hB : (writeB fs fx v x).length < 1099511627776) : CA Tryz.prog 15 [.agg #[vf, .int .i64 fx], .int .i64 v, .agg cs.toArray] t fun u r => RSv u r (writeB fs fx v x) := by
  obtain ⟨sS, sL, sU, rfl, hn, hS, ⟨lc, hL, hLs⟩, hU⟩ := hx.open
  obtain ⟨adS, cS, rfl, hleS⟩ := hS.shape
  obtain ⟨adL, cL, rfl, hleL⟩ := hL.shape
  have hU0 := hU
  obtain ⟨uc, hU1, hUs⟩ := hU0
  obtain ⟨hz1, hz2, hz3, hz4⟩ := hsm.open
  refine ca_enter Tryz.func15 rfl Tryz.ntmps15 rfl ?_
  by_cases h1 : fx ≥ 0
  · by_cases h2 : v ≥ fx
    · have hfl : flexB fx v = true := by simp [flexB, h1, h2]
      refine cd_sr ?_
      refine ln_box rfl rfl rfl (fun b1 => ?_)
      refine ln_box rfl rfl rfl (fun b2 => ?_)
      refine ln_pv (pv_assign rfl) rfl ?_
      refine ln_cd ?_
      refine cd_sr ?_
      refine ln_pv (pv_fieldAddr (off := 0) (r := 0) Tryz.underlying31 rfl (tiSl_spec_Field).size rfl rfl rfl) rfl ?_
      refine ln_pv (pv_ldo (i := 1) rfl Tryz.underlying29 rfl rfl rfl) rfl ?_
      refine ln_pv (pv_move rfl) rfl ?_
      refine ln_pv (pv_fieldAddr (off := 1) (r := 1) Tryz.underlying31 rfl (tiint).size rfl rfl rfl) rfl ?_
      refine ln_pv (pv_ldo (i := 1) rfl Tryz.underlying3 rfl rfl rfl) rfl ?_
      refine ln_pv (pv_tt (pv_geq rfl rfl) h1) rfl ?_
      refine ln_pv (pv_move rfl) rfl ?_
      refine ln_gt rfl rfl rfl (pv_move rfl) rfl ?_
      refine ln_gt rfl rfl rfl (pv_fieldAddr (off := 1) (r := 1) Tryz.underlying31 rfl (tiint).size rfl rfl rfl) rfl ?_
      refine ln_gt rfl rfl rfl (pv_ldo (i := 1) rfl Tryz.underlying3 rfl rfl rfl) rfl ?_
      refine ln_gt rfl rfl rfl (pv_tt (pv_geq rfl rfl) h2) rfl ?_
      refine ln_pv (pv_pick rfl (fun _ => rfl) (fun _ => rfl)) rfl ?_
      refine ln_pv (pv_ldO (i := 0) rfl Tryz.underlying26 rfl (tispec_Tree).size rfl rfl) rfl ?_
      refine ln_callA en_36 rfl (fun u hu => spec_part fs hok hlen u _ _ _ v true x (RS.mv hVf hu) (RFs.mv hFf hu) (RT.mv hx hu) hsm (by rwa [writeB, hfl] at hB)) rfl (fun u1 v1 ht1 hR1 => ?_)
      have hVf := hVf.mv ht1
      have hFf := hFf.mv ht1
      have hx := hx.mv ht1
      refine ln_pv (pv_assign rfl) rfl ?_
      refine ln_cd ?_
      refine cd_ret ?_
      refine at_retA rfl rfl (fun w hS => ?_)
      rw [writeB, hfl]
      exact RSv.mv hR1 hS.trFin
    · have hfl : flexB fx v = false := by simp [flexB, h2]
      refine cd_sr ?_
      refine ln_box rfl rfl rfl (fun b1 => ?_)
      refine ln_box rfl rfl rfl (fun b2 => ?_)
      refine ln_pv (pv_assign rfl) rfl ?_
      refine ln_cd ?_
      refine cd_sr ?_
      refine ln_pv (pv_fieldAddr (off := 0) (r := 0) Tryz.underlying31 rfl (tiSl_spec_Field).size rfl rfl rfl) rfl ?_
      refine ln_pv (pv_ldo (i := 1) rfl Tryz.underlying29 rfl rfl rfl) rfl ?_
      refine ln_pv (pv_move rfl) rfl ?_
      refine ln_pv (pv_fieldAddr (off := 1) (r := 1) Tryz.underlying31 rfl (tiint).size rfl rfl rfl) rfl ?_
      refine ln_pv (pv_ldo (i := 1) rfl Tryz.underlying3 rfl rfl rfl) rfl ?_
      refine ln_pv (pv_tt (pv_geq rfl rfl) h1) rfl ?_
      refine ln_pv (pv_move rfl) rfl ?_
      refine ln_gt rfl rfl rfl (pv_move rfl) rfl ?_
      refine ln_gt rfl rfl rfl (pv_fieldAddr (off := 1) (r := 1) Tryz.underlying31 rfl (tiint).size rfl rfl rfl) rfl ?_
      refine ln_gt rfl rfl rfl (pv_ldo (i := 1) rfl Tryz.underlying3 rfl rfl rfl) rfl ?_
      refine ln_gt rfl rfl rfl (pv_ff (pv_geq rfl rfl) h2) rfl ?_
      refine ln_pv (pv_pick rfl (fun _ => rfl) (fun _ => rfl)) rfl ?_
      refine ln_pv (pv_ldO (i := 0) rfl Tryz.underlying26 rfl (tispec_Tree).size rfl rfl) rfl ?_
      refine ln_callA en_36 rfl (fun u hu => spec_part fs hok hlen u _ _ _ v false x (RS.mv hVf hu) (RFs.mv hFf hu) (RT.mv hx hu) hsm (by rwa [writeB, hfl] at hB)) rfl (fun u1 v1 ht1 hR1 => ?_)
      have hVf := hVf.mv ht1
      have hFf := hFf.mv ht1
      have hx := hx.mv ht1
      refine ln_pv (pv_assign rfl) rfl ?_
      refine ln_cd ?_
      refine cd_ret ?_
      refine at_retA rfl rfl (fun w hS => ?_)
      rw [writeB, hfl]
      exact RSv.mv hR1 hS.trFin
  · have hfl : flexB fx v = false := by simp [flexB, h1]
    refine cd_sr ?_
    refine ln_box rfl rfl rfl (fun b1 => ?_)
    refine ln_box rfl rfl rfl (fun b2 => ?_)
    refine ln_pv (pv_assign rfl) rfl ?_
    refine ln_cd ?_
    refine cd_sr ?_
    refine ln_pv (pv_fieldAddr (off := 0) (r := 0) Tryz.underlying31 rfl (tiSl_spec_Field).size rfl rfl rfl) rfl ?_
    refine ln_pv (pv_ldo (i := 1) rfl Tryz.underlying29 rfl rfl rfl) rfl ?_
    refine ln_pv (pv_move rfl) rfl ?_
    refine ln_pv (pv_fieldAddr (off := 1) (r := 1) Tryz.underlying31 rfl (tiint).size rfl rfl rfl) rfl ?_
    refine ln_pv (pv_ldo (i := 1) rfl Tryz.underlying3 rfl rfl rfl) rfl ?_
    refine ln_pv (pv_ff (pv_geq rfl rfl) h1) rfl ?_
    refine ln_pv (pv_move rfl) rfl ?_
    refine ln_gf rfl rfl rfl rfl rfl ?_
    refine ln_gf rfl rfl rfl rfl rfl ?_
    refine ln_gf rfl rfl rfl rfl rfl ?_
    refine ln_gf rfl rfl rfl rfl rfl ?_
    refine ln_pv (pv_pick rfl (fun _ => rfl) (fun _ => rfl)) rfl ?_
    refine ln_pv (pv_ldO (i := 0) rfl Tryz.underlying26 rfl (tispec_Tree).size rfl rfl) rfl ?_
    refine ln_callA en_36 rfl (fun u hu => spec_part fs hok hlen u _ _ _ v false x (RS.mv hVf hu) (RFs.mv hFf hu) (RT.mv hx hu) hsm (by rwa [writeB, hfl] at hB)) rfl (fun u1 v1 ht1 hR1 => ?_)
    have hVf := hVf.mv ht1
    have hFf := hFf.mv ht1
    have hx := hx.mv ht1
    refine ln_pv (pv_assign rfl) rfl ?_
    refine ln_cd ?_
    refine cd_ret ?_
    refine at_retA rfl rfl (fun w hS => ?_)
    rw [writeB, hfl]
    exact RSv.mv hR1 hS.trFin
theorem cd_rowone {P : Program} {n : Nat} {L : Env} {H : Hp} {C : Cx} {s : Vw} {c : Code} {p : Post} {i : Nat} {v : Value} {e : TypeId} {sz m : Nat} {xs : List Value} (hi : H[i]? = some (.row v e sz m xs)) (h : v.oneCell' = true → Cd P c p n L H C s) : Cd P c p n L H C s := fun a w hF hS => h (ownsRow_one (hS.hf _ (List.mem_of_getElem? hi))) a w hF hS
mutual
def fitF : Fld → Int → Tre → Tre
  | .mk k _ _ nul tag _ o sub, v, t =>
    if k = 8 ∨ k = 9 then .mk 0 (t.s.take 32767) (t.z && decide (nul ≥ 0) && decide (v ≥ nul)) [] []
    else if k = 10 then .mk 0 [] (t.z && decide (nul ≥ 0) && decide (v ≥ nul)) (fitL sub v t 0) ((unkn (known sub) t.u).map cut)
    else if k = 11 then .mk 0 [] ((t.z && decide (nul ≥ 0) && decide (v ≥ nul)) || (decide (tag ≥ 0) && decide (t.l.length = 0))) ((t.l.take 32767).map fun y =>
      if o = 8 ∨ o = 9 then .mk 0 (y.s.take 32767) false [] [] else if o = 10 then .mk 0 [] false (fitL sub v y 0) ((unkn (known sub) y.u).map cut) else .mk y.n y.s false [] []) []
    else .mk t.n t.s false [] []
def fitL : List Fld → Int → Tre → Nat → List Tre
  | [], _, _, _ => []
  | f :: r, v, t, i => fitF f v (t.at_ i) :: fitL r v t (i + 1)
end
def fitT (fs : List Fld) (v : Int) (t : Tre) : Tre := .mk 0 [] false (fitL fs v t 0) ((unkn (known fs) t.u).map cut)
def Fld.one (f : Fld) : Fld := .mk f.of_ f.frm f.to (-1) (-1) f.dflt f.of_ f.sub
theorem fitF_eq (f : Fld) (v : Int) (t : Tre) (ho : f.of_ ≠ 11) : fitF f v t =
    if f.kind = 8 ∨ f.kind = 9 then .mk 0 (t.s.take 32767) (nullB f v t) [] []
    else if f.kind = 10 then .mk 0 [] (nullB f v t) (fitL f.sub v t 0) ((unkn (known f.sub) t.u).map cut)
    else if f.kind = 11 then .mk 0 [] (nullB f v t || (decide (f.tag ≥ 0) && decide (t.l.length = 0))) ((t.l.take 32767).map (fitF f.one v)) []
    else .mk t.n t.s false [] [] := by
  cases f with
  | mk k a b nul tag d o sub =>
  simp only [Fld.of_] at ho
  have e : (fun y : Tre => if o = 8 ∨ o = 9 then Tre.mk 0 (y.s.take 32767) false [] [] else if o = 10 then .mk 0 [] false (fitL sub v y 0) ((unkn (known sub) y.u).map cut) else .mk y.n y.s false [] []) = fitF (Fld.one (.mk k a b nul tag d o sub)) v := by
    funext y
    simp [Fld.one, fitF, Fld.kind, Fld.frm, Fld.to, Fld.dflt, Fld.of_, Fld.sub, ho]
  simp only [fitF, e]
  rfl
theorem fitL_drop {fs : List Fld} {v : Int} {x : Tre} {i : Nat} (hi : i < fs.length) : fitL (fs.drop i) v x i = fitF fs[i] v (x.at_ i) :: fitL (fs.drop (i + 1)) v x (i + 1) := by
  rw [List.drop_eq_getElem_cons hi, fitL]
theorem RTs.cells {s : Vw} : ∀ {l : List Tre} {cs : List Value}, RTs s l cs → ∀ u ∈ cs, u.oneCell' = true
  | [], cs, h => by simp only [RTs] at h; subst h; simp
  | x :: r, cs, h => by
    simp only [RTs] at h
    obtain ⟨c, c', rfl, h1, h2⟩ := h
    intro u hu
    rcases List.mem_append.1 hu with hu | hu
    · exact h1.cells u hu
    · exact RTs.cells h2 u hu
theorem rs_nil (s : Vw) (sz : Nat) : RS s sz (.slice none 0 0) 0 [] := ⟨by simp, by simp, .inl ⟨rfl, rfl⟩⟩
def FitC (fs : List Fld) : Prop := ∀ (t : Vw) (vf : Value) (lc cs : List Value) (v : Int) (x : Tre), RS t 8 vf fs.length lc → RFs t fs lc → RT t x cs → smT x →
  CA Tryz.prog 14 [vf, .int .i64 v, .agg cs.toArray] t fun u r => ∃ ds, r = .agg ds.toArray ∧ RT u (fitT fs v x) ds
def FittedC (f : Fld) : Prop := ∀ (t : Vw) (fc cs : List Value) (v : Int) (x : Tre), RF t f fc → RT t x cs → smT x →
  CA Tryz.prog 32 [.agg fc.toArray, .int .i64 v, .agg cs.toArray] t fun u r => ∃ ds, r = .agg ds.toArray ∧ RT u (fitF f v x) ds
theorem unkn_le (least : Int) (l : Tags) : (unkn least l).length ≤ 32767 := by
  have h : ∀ (l out : Tags), (l.foldl (insT least) out).length ≤ out.length + l.length := by
    intro l
    induction l with
    | nil => intro out; simp
    | cons y r ih =>
      intro out
      have h1 := ih (insT least out y)
      have h2 := insT_length least out y
      simp only [List.foldl_cons, List.length_cons]
      omega
  have := h (l.take 32767) []
  unfold unkn
  simp only [List.length_nil, List.length_take] at this
  omega
theorem spec_Fit1 (fs : List Fld) (hok : okFs fs = true) (hlen : fs.length < 1000000) (hFd : ∀ g ∈ fs, FittedC g) : FitC fs := by
  intro t vf lf cs v x hVf hFf hx hsm
  obtain ⟨sS, sL, sU, rfl, hn, hS, ⟨lc, hL, hLs⟩, hU⟩ := hx.open
  obtain ⟨adS, cS, rfl, hleS⟩ := hS.shape
  obtain ⟨adL, cL, rfl, hleL⟩ := hL.shape
  have hU0 := hU
  obtain ⟨uc, hU1, hUs⟩ := hU0
  obtain ⟨hz1, hz2, hz3, hz4⟩ := hsm.open
  obtain ⟨adf, cf, rfl, hlef⟩ := hVf.shape
  have hT := okFs.tags hok
  have hul := unkn_le (known fs) x.u
  refine ca_enter Tryz.func14 rfl Tryz.ntmps14 rfl ?_
  refine cd_sr ?_
  refine ln_box rfl rfl rfl (fun b1 => ?_)
  refine ln_alloc tispec_Tree rfl rfl (fun b2 => ?_)
  refine ln_cd ?_
  refine cd_sr ?_
  refine ln_pv (pv_struct [(0, 1), (1, 1), (2, 1), (3, 1), (4, 1)] (l := [_, _, _, _, _]) rfl Tryz.underlying26 tispec_Tree (by kernel_rfl) rfl rfl) rfl ?_
  refine ln_alloc tispec_Tree rfl rfl (fun b3 => ?_)
  refine ln_storeW (i := 0) rfl rfl rfl rfl (tispec_Tree).size rfl (by simp []) ?_
  refine ln_cd ?_
  refine cd_seq ?_
  refine cd_nilrow 26 5 ?_
  refine cd_sr ?_
  refine ln_pv (pv_move rfl) rfl ?_
  refine ln_pv (pv_len_slice Tryz.underlying29 rfl) rfl ?_
  refine ln_pv (pv_move rfl) rfl ?_
  refine ln_cd ?_
  refine cd_block ?_
  refine cd_loop (⟨fun (z : Nat × List Tre × List Value × Value) => [(0, .slice adf fs.length cf), (1, .int .i64 v), (5, .pointer (some ⟨b1, 0, none⟩)), (6, .pointer (some ⟨b2, 0, none⟩)), (7, .pointer (some ⟨b3, 0, none⟩)), (13, .slice adf fs.length cf), (14, .int .i64 (fs.length : Int)), (15, .int .i64 ((z.1 : Nat) : Int))], fun (z : Nat × List Tre × List Value × Value) => [.row z.2.2.2 26 5 z.2.1.length (z.2.2.1), .obj b3 (.cells [.int .i64 0, .slice none 0 0, .bool false, z.2.2.2, .slice none 0 0].toArray 26), .obj b2 (.cells [.int .i64 0, .slice none 0 0, .bool false, .slice none 0 0, .slice none 0 0].toArray 26), .obj b1 (.cells [.int .i64 x.n, .slice adS x.s.length cS, .bool x.z, .slice adL x.l.length cL, sU].toArray 26)], fun (z : Nat × List Tre × List Value × Value) s => z.1 ≤ fs.length ∧ z.2.1.length = z.1 ∧ RTs s z.2.1 z.2.2.1 ∧ z.2.1 ++ fitL (fs.drop z.1) v x z.1 = fitL fs v x 0, fun (z : Nat × List Tre × List Value × Value) => fs.length - z.1⟩ : Lp (Nat × List Tre × List Value × Value)) (0, [], [], .slice none 0 0) ?_ ?_ ?_ ?_
  · intro s0 hs0
    exact ⟨Nat.zero_le _, rfl, rfl, rfl⟩
  · exact ⟨rfl, rfl, rfl, rfl, rfl, rfl, rfl, rfl,  trivial⟩
  · exact (.cons_cons _ (.cons_cons _ (.cons_cons _ (.cons_cons _ .slnil))))
  intro z s1 hl1 hI
  obtain ⟨i, acc, ys, vv⟩ := z
  dsimp only at hI ⊢
  have hVf := hVf.mv hl1
  have hFf := hFf.mv hl1
  have hx := hx.mv hl1
  have hS := hS.mv hl1
  have hU := hU.mv hl1
  have hU1 := hU1.mv hl1
  have hUs := hUs.mv hl1
  have hL := hL.mv hl1
  have hLs := hLs.mv hl1
  obtain ⟨hI, hIl, hIr, hI2⟩ := hI
  refine cd_sr ?_
  refine ln_pv (pv_lss rfl rfl) rfl ?_
  refine ln_cd ?_
  refine cd_seq ?_
  refine cd_if rfl (fun hc1 => ?_) (fun hc1 => ?_)
  · -- yes
    refine cd_skip ?_
    refine at_cd ?_
    refine cd_seq ?_
    refine cd_block ?_
    have hi : i < fs.length := by omega
    obtain ⟨b0, o0, rfl, hrc⟩ := hVf.pos (by omega) (by decide)
    obtain ⟨c1, c2, c3, he, hk, hr⟩ := RFs.at_ hi hFf
    have hsub := hrc.sub (i * 8) he hk
    obtain ⟨svf, rfl, lf2, hVf2, hFf2⟩ := hr.open
    refine cd_sr ?_
    refine ln_pv (pv_move rfl) rfl ?_
    refine ln_pv (pv_ixN Tryz.underlying29 tispec_Field.size rfl rfl hi) rfl ?_
    refine ln_pv (pv_ldR hsub Tryz.underlying50 rfl (tispec_Field).size rfl rfl) rfl ?_
    refine ln_alloc tispec_Field rfl rfl (fun b4 => ?_)
    refine ln_pv (pv_assign rfl) rfl ?_
    refine ln_storeW (i := 0) rfl rfl rfl rfl (tispec_Field).size rfl (by simp [(RS.one hVf2)]) ?_
    refine ln_cd ?_
    refine cd_draw' [0, 2, 3, 4] [0, 1, 2, 3, 4, 5, 10] [0, 1, 2, 3, 4, 5, 6, 7, 8, 9, 10, 11] mixed (by kernel_rfl) ?_
    refine lo_pv rfl rfl (sk_js (Tr.refl _) [0, 2, 3, 4] rfl) (pv_fieldAddr (off := 3) (r := 3) Tryz.underlying26 rfl (tiSl_spec_Tree).size rfl rfl rfl) rfl ?_
    refine lo_pv rfl rfl (sk_js (Tr.refl _) [0, 2, 3, 4] rfl) (pv_ldo (i := 1) rfl Tryz.underlying23 rfl rfl rfl) rfl ?_
    refine lo_pv rfl rfl (sk_js (Tr.refl _) [0, 2, 3, 4] rfl) (pv_ldO (i := 0) rfl Tryz.underlying50 rfl (tispec_Field).size rfl rfl) rfl ?_
    refine lo_pv rfl rfl (sk_js (Tr.refl _) [0, 2, 3, 4] rfl) (pv_move rfl) rfl ?_
    refine lo_pv rfl rfl (sk_js (Tr.refl _) [0, 2, 3, 4] rfl) (pv_ldO (i := 3) rfl Tryz.underlying26 rfl (tispec_Tree).size rfl rfl) rfl ?_
    refine lo_pv rfl rfl (sk_js (Tr.refl _) [0, 2, 3, 4] rfl) (pv_move rfl) rfl ?_
    refine lo_eff rfl rfl ?_
    refine ln_callA en_33 rfl (fun u hu => spec_at u x _ i (RT.mv hx hu)) rfl (fun u1 v1 ht1 hR1 => ?_)
    have hVf := hVf.mv ht1
    have hFf := hFf.mv ht1
    have hx := hx.mv ht1
    have hS := hS.mv ht1
    have hU := hU.mv ht1
    have hU1 := hU1.mv ht1
    have hUs := hUs.mv ht1
    have hL := hL.mv ht1
    have hLs := hLs.mv ht1
    have hIr := hIr.mv ht1
    have hr := hr.mv ht1
    have hVf2 := hVf2.mv ht1
    obtain ⟨ds1, rfl, hds1⟩ := hR1
    refine lo_back (sk_js ht1 [0, 2, 3, 4] rfl) ?_
    refine lo_eff rfl rfl ?_
    refine ln_callA en_32 rfl (fun u hu => (hFd _ (List.getElem_mem hi)) u _ _ v (x.at_ i) (RF.mv hr hu) (RT.mv hds1 hu) (hsm.at_ i)) rfl (fun u2 v2 ht2 hR2 => ?_)
    have hVf := hVf.mv ht2
    have hFf := hFf.mv ht2
    have hx := hx.mv ht2
    have hS := hS.mv ht2
    have hU := hU.mv ht2
    have hU1 := hU1.mv ht2
    have hUs := hUs.mv ht2
    have hL := hL.mv ht2
    have hLs := hLs.mv ht2
    have hIr := hIr.mv ht2
    have hr := hr.mv ht2
    have hVf2 := hVf2.mv ht2
    have hds1 := hds1.mv ht2
    obtain ⟨ds2, rfl, hds2⟩ := hR2
    refine lo_back (sk_js (ht1.trans ht2) [0, 2, 3, 4] rfl) ?_
    refine lo_eff rfl rfl ?_
    refine ln_lit (vs := [_]) Tryz.underlying23 tispec_Tree rfl (by decide) rfl rfl rfl (by simp [partsOk, Value.cells, hds2.len]; try exact .inl rfl) rfl rfl (fun b5 => ?_)
    refine lo_back (sk_js (ht1.trans ht2) [1, 3, 4, 5] rfl) ?_
    refine lo_eff rfl rfl ?_
    refine ln_append (i := 2) rfl Tryz.underlying23 tispec_Tree rfl (by decide) rfl rfl (src_obj (j := 0) rfl (by simp [flat, Value.cells, hds2.len]) (List.all_eq_true.2 (by simpa [flat, Value.cells] using hds2.cells))) (by first | omega | (simp only [maxLen]; omega)) (by first | omega | (simp only [maxLen]; omega)) rfl (k' := acc.length + 1) (xs' := ys ++ ds2) rfl (by simp [flat, Value.cells]) (fun v3 hv3 => ?_)
    refine lo_back (sk_js (ht1.trans ht2) [1, 3, 4, 5] rfl) ?_
    refine lo_pv rfl rfl (sk_js (ht1.trans ht2) [1, 3, 4, 5] rfl) (pv_fieldAddr (off := 3) (r := 3) Tryz.underlying26 rfl (tiSl_spec_Tree).size rfl rfl rfl) rfl ?_
    refine lo_eff rfl rfl ?_
    refine ln_store1 (i := 3) rfl rfl rfl hv3.2 (tiSl_spec_Tree).size rfl ?_
    refine lo_last (by kernel_rfl) ?_
    refine lo_nil ?_
    refine at_cd ?_
    refine cd_region ?_
    refine ln_pv (pv_add' rfl rfl (wrap_succ (by omega))) rfl ?_
    refine ln_pv (pv_move rfl) rfl ?_
    refine ln_nil ?_
    have eL : (acc ++ [fitF fs[i] v (x.at_ i)]).length = acc.length + 1 := by simp
    refine at_row (i := 2) (m' := (acc ++ [fitF fs[i] v (x.at_ i)]).length) rfl eL.symm rfl ?_
    refine at_rnd (i + 1, acc ++ [fitF fs[i] v (x.at_ i)], ys ++ ds2, v3) ((hl1.trans ht1).trans ht2) ?_ ?_ ⟨rfl, rfl, rfl, rfl, rfl, rfl, rfl, rfl,  trivial⟩ (.cons _ (.cons _ (.cons_cons _ (.cons_cons _ (.cons_cons _ (.cons_cons _ .slnil))))))
    · intro s9 hs9
      exact ⟨by dsimp only; omega, by dsimp only; omega, RTs.append (RTs.mv hIr hs9) (RTs.one (RT.mv hds2 hs9)), by rw [← hI2, fitL_drop hi]; simp⟩
    · dsimp only; omega
  · -- no
    refine cd_exit rfl ?_
    refine at_cd ?_
    refine cd_seq ?_
    refine cd_nilrow 64 2 ?_
    refine cd_sr ?_
    refine ln_pv (pv_move rfl) rfl ?_
    refine ln_pv (pv_fieldAddr (off := 4) (r := 4) Tryz.underlying26 rfl (tiSl_spec_Tag).size rfl rfl rfl) rfl ?_
    refine ln_pv (pv_ldo (i := 4) rfl Tryz.underlying24 rfl rfl rfl) rfl ?_
    refine ln_callA en_34 rfl (fun u hu => spec_unknown u _ _ fs lf uc x.u (RS.mv hVf hu) (RFs.mv hFf hu) hT (by omega) (RS.mv hU1 hu) (RUs.mv hu hUs)) rfl (fun u4 v4 ht4 hR4 => ?_)
    have hVf := hVf.mv ht4
    have hFf := hFf.mv ht4
    have hx := hx.mv ht4
    have hS := hS.mv ht4
    have hU := hU.mv ht4
    have hU1 := hU1.mv ht4
    have hUs := hUs.mv ht4
    have hL := hL.mv ht4
    have hLs := hLs.mv ht4
    have hIr := hIr.mv ht4
    obtain ⟨uq, hq, hqs⟩ := hR4
    obtain ⟨adq, cq, rfl, hleq⟩ := hq.shape
    refine ln_pv (pv_len_slice Tryz.underlying24 rfl) rfl ?_
    refine ln_pv (pv_move rfl) rfl ?_
    refine ln_cd ?_
    refine cd_block ?_
    refine cd_loop (⟨fun (z : Nat × List Value × Value) => [(6, .pointer (some ⟨b2, 0, none⟩)), (7, .pointer (some ⟨b3, 0, none⟩)), (35, .slice adq (unkn (known fs) x.u).length cq), (36, .int .i64 ((unkn (known fs) x.u).length : Int)), (37, .int .i64 ((z.1 : Nat) : Int))], fun (z : Nat × List Value × Value) => [.row z.2.2 64 2 (((unkn (known fs) x.u).take z.1).map cut).length (z.2.1), .row vv 26 5 acc.length (ys), .obj b3 (.cells [.int .i64 0, .slice none 0 0, .bool false, vv, z.2.2].toArray 26), .obj b2 (.cells [.int .i64 0, .slice none 0 0, .bool false, .slice none 0 0, .slice none 0 0].toArray 26)], fun (z : Nat × List Value × Value) s => z.1 ≤ (unkn (known fs) x.u).length ∧ RUs s (((unkn (known fs) x.u).take z.1).map cut) z.2.1, fun (z : Nat × List Value × Value) => (unkn (known fs) x.u).length - z.1⟩ : Lp (Nat × List Value × Value)) (0, [], .slice none 0 0) ?_ ?_ ?_ ?_
    · intro s0 hs0
      exact ⟨Nat.zero_le _, rfl⟩
    · exact ⟨rfl, rfl, rfl, rfl, rfl,  trivial⟩
    · exact (.cons_cons _ (.cons_cons _ (.cons_cons _ (.cons_cons _ (.cons _ .slnil)))))
    intro z s2 hl2 hI
    obtain ⟨j, us, v3⟩ := z
    dsimp only at hI ⊢
    have hVf := hVf.mv hl2
    have hFf := hFf.mv hl2
    have hx := hx.mv hl2
    have hS := hS.mv hl2
    have hU := hU.mv hl2
    have hU1 := hU1.mv hl2
    have hUs := hUs.mv hl2
    have hL := hL.mv hl2
    have hLs := hLs.mv hl2
    have hIr := hIr.mv hl2
    have hq := hq.mv hl2
    have hqs := hqs.mv hl2
    obtain ⟨hJ, hJ2⟩ := hI
    have hJl := hJ2.cells.1
    refine cd_sr ?_
    refine ln_pv (pv_lss rfl rfl) rfl ?_
    refine ln_cd ?_
    refine cd_seq ?_
    refine cd_if rfl (fun hc2 => ?_) (fun hc2 => ?_)
    · -- yes
      refine cd_skip ?_
      refine at_cd ?_
      refine cd_seq ?_
      refine cd_block ?_
      have hj : j < (unkn (known fs) x.u).length := by omega
      obtain ⟨b0, o0, rfl, hrc⟩ := hq.pos (by omega) (by decide)
      obtain ⟨c1, tv, c3, he, hk, hkk, hTv⟩ := RUs.at_ hj hqs
      have hsub := hrc.sub (j * 2) he hk
      have hsn : (((unkn (known fs) x.u).take (j + 1)).map cut) = (((unkn (known fs) x.u).take j).map cut) ++ [((unkn (known fs) x.u)[j].1, (unkn (known fs) x.u)[j].2.take 32767)] := by rw [take_snoc' hj, List.map_append]; rfl
      have hsl : (((unkn (known fs) x.u).take (j + 1)).map cut).length = (((unkn (known fs) x.u).take j).map cut).length + 1 := by rw [hsn]; simp
      refine cd_sr ?_
      refine ln_pv (pv_ixN Tryz.underlying24 tispec_Tag.size rfl rfl hj) rfl ?_
      refine ln_pv (pv_ldR hsub Tryz.underlying64 rfl (tispec_Tag).size rfl rfl) rfl ?_
      refine ln_alloc tispec_Tag rfl rfl (fun b6 => ?_)
      refine ln_storeW (i := 0) rfl rfl rfl rfl (tispec_Tag).size rfl (by simp [(RS.one hTv)]) ?_
      refine ln_cd ?_
      refine cd_draw' [0, 3, 4] [0, 1, 2, 3, 4, 5, 7, 10] [0, 1, 2, 3, 4, 5, 6, 7, 8, 9, 10, 11] mixed (by kernel_rfl) ?_
      refine lo_pv rfl rfl (sk_js (Tr.refl _) [0, 3, 4] rfl) (pv_fieldAddr (off := 4) (r := 4) Tryz.underlying26 rfl (tiSl_spec_Tag).size rfl rfl rfl) rfl ?_
      refine lo_pv rfl rfl (sk_js (Tr.refl _) [0, 3, 4] rfl) (pv_ldo (i := 1) rfl Tryz.underlying24 rfl rfl rfl) rfl ?_
      refine lo_pv rfl rfl (sk_js (Tr.refl _) [0, 3, 4] rfl) (pv_fieldAddr (off := 0) (r := 0) Tryz.underlying64 rfl (tiuint32).size rfl rfl rfl) rfl ?_
      refine lo_pv rfl rfl (sk_js (Tr.refl _) [0, 3, 4] rfl) (pv_ldo (i := 0) rfl Tryz.underlying62 rfl rfl rfl) rfl ?_
      refine lo_pv rfl rfl (sk_js (Tr.refl _) [0, 3, 4] rfl) (pv_fieldAddr (off := 1) (r := 1) Tryz.underlying64 rfl (tiSl_uint8).size rfl rfl rfl) rfl ?_
      refine lo_pv rfl rfl (sk_js (Tr.refl _) [0, 3, 4] rfl) (pv_ldo (i := 0) rfl Tryz.underlying22 rfl rfl rfl) rfl ?_
      refine lo_eff rfl rfl ?_
      refine ln_callA en_35 rfl (fun u hu => spec_whole u _ _ (RSv.mv hTv hu)) rfl (fun u5 v5 ht5 hR5 => ?_)
      have hVf := hVf.mv ht5
      have hFf := hFf.mv ht5
      have hx := hx.mv ht5
      have hS := hS.mv ht5
      have hU := hU.mv ht5
      have hU1 := hU1.mv ht5
      have hUs := hUs.mv ht5
      have hL := hL.mv ht5
      have hLs := hLs.mv ht5
      have hIr := hIr.mv ht5
      have hq := hq.mv ht5
      have hqs := hqs.mv ht5
      have hJ2 := hJ2.mv ht5
      have hTv := hTv.mv ht5
      refine lo_back (sk_js ht5 [0, 3, 4] rfl) ?_
      refine lo_pv rfl rfl (sk_js ht5 [0, 3, 4] rfl) (pv_struct [(0, 1), (1, 1)] (l := [_, _]) rfl Tryz.underlying64 tispec_Tag (by kernel_rfl) rfl (by simp [okL, Nat.ble_eq, Value.cells, (RS.one hR5)])) rfl ?_
      refine lo_eff rfl rfl ?_
      refine ln_lit (vs := [_]) Tryz.underlying24 tispec_Tag rfl (by decide) rfl rfl rfl rfl rfl rfl (fun b7 => ?_)
      refine lo_back (sk_js ht5 [1, 4, 5] rfl) ?_
      refine lo_eff rfl rfl ?_
      refine ln_append (i := 2) rfl Tryz.underlying24 tispec_Tag rfl (by decide) rfl rfl (src_obj (j := 0) rfl rfl (by simp [flat, Value.cells, (RS.one hR5)])) (by have := unkn_le (known fs) x.u; simp only [List.length_map, List.length_take, maxLen]; omega) (by have := unkn_le (known fs) x.u; simp only [List.length_map, List.length_take, maxLen]; omega) rfl (k' := (((unkn (known fs) x.u).take (j + 1)).map cut).length) (xs' := us ++ [.int .u32 ((unkn (known fs) x.u)[j].1 : Int), v5]) hsl.symm rfl (fun v6 hv6 => ?_)
      refine lo_back (sk_js ht5 [1, 4, 5] rfl) ?_
      refine lo_pv rfl rfl (sk_js ht5 [1, 4, 5] rfl) (pv_fieldAddr (off := 4) (r := 4) Tryz.underlying26 rfl (tiSl_spec_Tag).size rfl rfl rfl) rfl ?_
      refine lo_eff rfl rfl ?_
      refine ln_store1 (i := 4) rfl rfl rfl hv6.2 (tiSl_spec_Tag).size rfl ?_
      refine lo_last (by kernel_rfl) ?_
      refine lo_nil ?_
      refine at_cd ?_
      refine cd_region ?_
      refine ln_pv (pv_add' rfl rfl (wrap_succ (by omega))) rfl ?_
      refine ln_pv (pv_move rfl) rfl ?_
      refine ln_nil ?_
      refine at_rnd (j + 1, us ++ [.int .u32 ((unkn (known fs) x.u)[j].1 : Int), v5], v6) (hl2.trans ht5) ?_ ?_ ⟨rfl, rfl, rfl, rfl, rfl,  trivial⟩ (.cons _ (.cons _ (.cons_cons _ (.cons_cons _ (.cons_cons _ (.cons_cons _ .slnil))))))
      · intro s9 hs9
        refine ⟨by dsimp only; omega, ?_⟩
        rw [hsn]
        exact RUs.append (RUs.mv hs9 hJ2) (RUs.one_ hkk (RSv.mv hR5 hs9))
      · dsimp only; omega
    · -- no
      refine cd_exit rfl ?_
      refine at_cd ?_
      refine cd_rowone (i := 1) rfl (fun hoL => ?_)
      refine cd_rowone (i := 0) rfl (fun hoU => ?_)
      refine cd_sr ?_
      refine ln_pv (pv_ldO (i := 2) rfl Tryz.underlying26 rfl (tispec_Tree).size rfl rfl) rfl ?_
      refine ln_storeW (i := 3) rfl rfl rfl rfl (tispec_Tree).size rfl (by simp [hoL, hoU]) ?_
      refine ln_cd ?_
      refine cd_ret ?_
      refine at_retC (i := 3) rfl rfl rfl Tryz.underlying26 rfl tispec_Tree.size rfl (fun w hS => ?_)
      have hi2 : i = fs.length := by omega
      subst hi2
      rw [List.drop_length, fitL, List.append_nil] at hI2
      subst hI2
      have hj2 : j = (unkn (known fs) x.u).length := by omega
      subst hj2
      rw [List.take_length] at hJ2
      refine ⟨_, rfl, RT.shut ⟨_, _, _, rfl, by simp [fitT, Tre.n, I64], rs_nil _ 1, ⟨ys, row_rs hS (j := 1) rfl (RTs.cells hIr), RTs.mv hIr hS.trFin⟩, ⟨us, ?_, RUs.mv hS.trFin hJ2⟩⟩⟩
      have h := row_rs hS (j := 0) rfl (RUs.cells hJ2).2
      rw [show (fitT fs v x).u.length = (((unkn (known fs) x.u).take (unkn (known fs) x.u).length).map cut).length by rw [List.take_length]; rfl]
      exact h
end K
end Go.Proofs.YtmknncmdbmnmgabGreat
