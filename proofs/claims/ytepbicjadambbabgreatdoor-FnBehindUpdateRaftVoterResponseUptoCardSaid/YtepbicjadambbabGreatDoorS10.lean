import Derived.Test.YtepbicjadambbabGreatDoorS7
set_option linter.unusedVariables false
set_option linter.unusedSimpArgs false
namespace Go.Proofs.YtepbicjadambbabGreatDoor
namespace K
open Go Go.Lib
def flexB (fx v : Int) : Bool := decide (fx ≥ 0) && decide (v ≥ fx)
def writeB (fs : List Fld) (fx v : Int) (x : Tre) : List UInt8 := partB fs v (flexB fx v) x
theorem spec_Write (fs : List Fld) (fx : Int) (hok : okFs fs = true) (hlen : fs.length < 1000000) (t : Vw) (vf : Value) (lc cs : List Value) (v : Int) (x : Tre) (hVf : RS t 8 vf fs.length lc) (hFf : RFs t fs lc) (hx : RT t x cs) (hsm : smT x) (hB : (writeB fs fx v x).length < 1099511627776) : CA Tryz.prog 8 [.agg #[vf, .int .i64 fx], .int .i64 v, .agg cs.toArray] t fun u r => RSv u r (writeB fs fx v x) := by
  obtain ⟨sS, sL, sU, rfl, hn, hS, ⟨lc, hL, hLs⟩, hU⟩ := hx.open
  obtain ⟨adS, cS, rfl, hleS⟩ := hS.shape
  obtain ⟨adL, cL, rfl, hleL⟩ := hL.shape
  have hU0 := hU
  obtain ⟨uc, hU1, hUs⟩ := hU0
  obtain ⟨hz1, hz2, hz3, hz4⟩ := hsm.open
  refine ca_enter Tryz.func8 rfl Tryz.ntmps8 rfl ?_
  by_cases h1 : fx ≥ 0
  · by_cases h2 : v ≥ fx
    · have hfl : flexB fx v = true := by simp [flexB, h1, h2]
      refine cd_sr ?_
      refine ln_box rfl rfl rfl (fun b1 => ?_)
      refine ln_box rfl rfl rfl (fun b2 => ?_)
      refine ln_pv (pv_assign rfl) rfl ?_
      refine ln_cd ?_
      refine cd_sr ?_
      refine ln_pv (pv_fieldAddr (off := 0) (r := 0) Tryz.underlying31 rfl (tiSl_spec_Field).size rfl rfl rfl) rfl ?_
      refine ln_pv (pv_ldo (i := 1) rfl Tryz.underlying29 rfl rfl rfl) rfl ?_
      refine ln_pv (pv_move rfl) rfl ?_
      refine ln_pv (pv_fieldAddr (off := 1) (r := 1) Tryz.underlying31 rfl (tiint).size rfl rfl rfl) rfl ?_
      refine ln_pv (pv_ldo (i := 1) rfl Tryz.underlying3 rfl rfl rfl) rfl ?_
      refine ln_pv (pv_tt (pv_geq rfl rfl) h1) rfl ?_
      refine ln_pv (pv_move rfl) rfl ?_
      refine ln_gt rfl rfl rfl (pv_move rfl) rfl ?_
      refine ln_gt rfl rfl rfl (pv_fieldAddr (off := 1) (r := 1) Tryz.underlying31 rfl (tiint).size rfl rfl rfl) rfl ?_
      refine ln_gt rfl rfl rfl (pv_ldo (i := 1) rfl Tryz.underlying3 rfl rfl rfl) rfl ?_
      refine ln_gt rfl rfl rfl (pv_tt (pv_geq rfl rfl) h2) rfl ?_
      refine ln_pv (pv_pick rfl (fun _ => rfl) (fun _ => rfl)) rfl ?_
      refine ln_pv (pv_ldO (i := 0) rfl Tryz.underlying26 rfl (tispec_Tree).size rfl rfl) rfl ?_
      refine ln_callA en_15 rfl (fun u hu => spec_part fs hok hlen u _ _ _ v true x (RS.mv hVf hu) (RFs.mv hFf hu) (RT.mv hx hu) hsm (by rwa [writeB, hfl] at hB)) rfl (fun u1 v1 ht1 hR1 => ?_)
      have hVf := hVf.mv ht1
      have hFf := hFf.mv ht1
      have hx := hx.mv ht1
      refine ln_pv (pv_assign rfl) rfl ?_
      refine ln_cd ?_
      refine cd_ret ?_
      refine at_retA rfl rfl (fun w hS => ?_)
      rw [writeB, hfl]
      exact RSv.mv hR1 hS.trFin
    · have hfl : flexB fx v = false := by simp [flexB, h2]
      refine cd_sr ?_
      refine ln_box rfl rfl rfl (fun b1 => ?_)
      refine ln_box rfl rfl rfl (fun b2 => ?_)
      refine ln_pv (pv_assign rfl) rfl ?_
      refine ln_cd ?_
      refine cd_sr ?_
      refine ln_pv (pv_fieldAddr (off := 0) (r := 0) Tryz.underlying31 rfl (tiSl_spec_Field).size rfl rfl rfl) rfl ?_
      refine ln_pv (pv_ldo (i := 1) rfl Tryz.underlying29 rfl rfl rfl) rfl ?_
      refine ln_pv (pv_move rfl) rfl ?_
      refine ln_pv (pv_fieldAddr (off := 1) (r := 1) Tryz.underlying31 rfl (tiint).size rfl rfl rfl) rfl ?_
      refine ln_pv (pv_ldo (i := 1) rfl Tryz.underlying3 rfl rfl rfl) rfl ?_
      refine ln_pv (pv_tt (pv_geq rfl rfl) h1) rfl ?_
      refine ln_pv (pv_move rfl) rfl ?_
      refine ln_gt rfl rfl rfl (pv_move rfl) rfl ?_
      refine ln_gt rfl rfl rfl (pv_fieldAddr (off := 1) (r := 1) Tryz.underlying31 rfl (tiint).size rfl rfl rfl) rfl ?_
      refine ln_gt rfl rfl rfl (pv_ldo (i := 1) rfl Tryz.underlying3 rfl rfl rfl) rfl ?_
      refine ln_gt rfl rfl rfl (pv_ff (pv_geq rfl rfl) h2) rfl ?_
      refine ln_pv (pv_pick rfl (fun _ => rfl) (fun _ => rfl)) rfl ?_
      refine ln_pv (pv_ldO (i := 0) rfl Tryz.underlying26 rfl (tispec_Tree).size rfl rfl) rfl ?_
      refine ln_callA en_15 rfl (fun u hu => spec_part fs hok hlen u _ _ _ v false x (RS.mv hVf hu) (RFs.mv hFf hu) (RT.mv hx hu) hsm (by rwa [writeB, hfl] at hB)) rfl (fun u1 v1 ht1 hR1 => ?_)
      have hVf := hVf.mv ht1
      have hFf := hFf.mv ht1
      have hx := hx.mv ht1
      refine ln_pv (pv_assign rfl) rfl ?_
      refine ln_cd ?_
      refine cd_ret ?_
      refine at_retA rfl rfl (fun w hS => ?_)
      rw [writeB, hfl]
      exact RSv.mv hR1 hS.trFin
  · have hfl : flexB fx v = false := by simp [flexB, h1]
    refine cd_sr ?_
    refine ln_box rfl rfl rfl (fun b1 => ?_)
    refine ln_box rfl rfl rfl (fun b2 => ?_)
    refine ln_pv (pv_assign rfl) rfl ?_
    refine ln_cd ?_
    refine cd_sr ?_
    refine ln_pv (pv_fieldAddr (off := 0) (r := 0) Tryz.underlying31 rfl (tiSl_spec_Field).size rfl rfl rfl) rfl ?_
    refine ln_pv (pv_ldo (i := 1) rfl Tryz.underlying29 rfl rfl rfl) rfl ?_
    refine ln_pv (pv_move rfl) rfl ?_
    refine ln_pv (pv_fieldAddr (off := 1) (r := 1) Tryz.underlying31 rfl (tiint).size rfl rfl rfl) rfl ?_
    refine ln_pv (pv_ldo (i := 1) rfl Tryz.underlying3 rfl rfl rfl) rfl ?_
    refine ln_pv (pv_ff (pv_geq rfl rfl) h1) rfl ?_
    refine ln_pv (pv_move rfl) rfl ?_
    refine ln_gf rfl rfl rfl rfl rfl ?_
    refine ln_gf rfl rfl rfl rfl rfl ?_
    refine ln_gf rfl rfl rfl rfl rfl ?_
    refine ln_gf rfl rfl rfl rfl rfl ?_
    refine ln_pv (pv_pick rfl (fun _ => rfl) (fun _ => rfl)) rfl ?_
    refine ln_pv (pv_ldO (i := 0) rfl Tryz.underlying26 rfl (tispec_Tree).size rfl rfl) rfl ?_
    refine ln_callA en_15 rfl (fun u hu => spec_part fs hok hlen u _ _ _ v false x (RS.mv hVf hu) (RFs.mv hFf hu) (RT.mv hx hu) hsm (by rwa [writeB, hfl] at hB)) rfl (fun u1 v1 ht1 hR1 => ?_)
    have hVf := hVf.mv ht1
    have hFf := hFf.mv ht1
    have hx := hx.mv ht1
    refine ln_pv (pv_assign rfl) rfl ?_
    refine ln_cd ?_
    refine cd_ret ?_
    refine at_retA rfl rfl (fun w hS => ?_)
    rw [writeB, hfl]
    exact RSv.mv hR1 hS.trFin
theorem cd_rowone {P : Program} {n : Nat} {L : Env} {H : Hp} {C : Cx} {s : Vw} {c : Code} {p : Post} {i : Nat} {v : Value} {e : TypeId} {sz m : Nat} {xs : List Value} (hi : H[i]? = some (.row v e sz m xs)) (h : v.oneCell' = true → Cd P c p n L H C s) : Cd P c p n L H C s := fun a w hF hS => h (ownsRow_one (hS.hf _ (List.mem_of_getElem? hi))) a w hF hS
mutual
def fitF : Fld → Int → Tre → Tre
  | .mk k _ _ nul tag _ o sub, v, t =>
    if k = 8 ∨ k = 9 then .mk 0 (t.s.take 32767) (t.z && decide (nul ≥ 0) && decide (v ≥ nul)) [] []
    else if k = 10 then .mk 0 [] (t.z && decide (nul ≥ 0) && decide (v ≥ nul)) (fitL sub v t 0) ((unkn (known sub) t.u).map cut)
    else if k = 11 then .mk 0 [] ((t.z && decide (nul ≥ 0) && decide (v ≥ nul)) || (decide (tag ≥ 0) && decide (t.l.length = 0))) ((t.l.take 32767).map fun y =>
      if o = 8 ∨ o = 9 then .mk 0 (y.s.take 32767) false [] [] else if o = 10 then .mk 0 [] false (fitL sub v y 0) ((unkn (known sub) y.u).map cut) else .mk y.n y.s false [] []) []
    else .mk t.n t.s false [] []
def fitL : List Fld → Int → Tre → Nat → List Tre
  | [], _, _, _ => []
  | f :: r, v, t, i => fitF f v (t.at_ i) :: fitL r v t (i + 1)
end
def fitT (fs : List Fld) (v : Int) (t : Tre) : Tre := .mk 0 [] false (fitL fs v t 0) ((unkn (known fs) t.u).map cut)
def Fld.one (f : Fld) : Fld := .mk f.of_ f.frm f.to (-1) (-1) f.dflt f.of_ f.sub
theorem fitF_eq (f : Fld) (v : Int) (t : Tre) (ho : f.of_ ≠ 11) : fitF f v t =
    if f.kind = 8 ∨ f.kind = 9 then .mk 0 (t.s.take 32767) (nullB f v t) [] []
    else if f.kind = 10 then .mk 0 [] (nullB f v t) (fitL f.sub v t 0) ((unkn (known f.sub) t.u).map cut)
    else if f.kind = 11 then .mk 0 [] (nullB f v t || (decide (f.tag ≥ 0) && decide (t.l.length = 0))) ((t.l.take 32767).map (fitF f.one v)) []
    else .mk t.n t.s false [] [] := by
  cases f with
  | mk k a b nul tag d o sub =>
  simp only [Fld.of_] at ho
  have e : (fun y : Tre => if o = 8 ∨ o = 9 then Tre.mk 0 (y.s.take 32767) false [] [] else if o = 10 then .mk 0 [] false (fitL sub v y 0) ((unkn (known sub) y.u).map cut) else .mk y.n y.s false [] []) = fitF (Fld.one (.mk k a b nul tag d o sub)) v := by
    funext y
    simp [Fld.one, fitF, Fld.kind, Fld.frm, Fld.to, Fld.dflt, Fld.of_, Fld.sub, ho]
  simp only [fitF, e]
  rfl
theorem fitL_drop {fs : List Fld} {v : Int} {x : Tre} {i : Nat} (hi : i < fs.length) : fitL (fs.drop i) v x i = fitF fs[i] v (x.at_ i) :: fitL (fs.drop (i + 1)) v x (i + 1) := by
  rw [List.drop_eq_getElem_cons hi, fitL]
theorem RTs.cells {s : Vw} : ∀ {l : List Tre} {cs : List Value}, RTs s l cs → ∀ u ∈ cs, u.oneCell' = true
  | [], cs, h => by simp only [RTs] at h; subst h; simp
  | x :: r, cs, h => by
    simp only [RTs] at h
    obtain ⟨c, c', rfl, h1, h2⟩ := h
    intro u hu
    rcases List.mem_append.1 hu with hu | hu
    · exact h1.cells u hu
    · exact RTs.cells h2 u hu
theorem rs_nil (s : Vw) (sz : Nat) : RS s sz (.slice none 0 0) 0 [] := ⟨by simp, by simp, .inl ⟨rfl, rfl⟩⟩
theorem unkn_le (least : Int) (l : Tags) : (unkn least l).length ≤ 32767 := by
  have h : ∀ (l out : Tags), (l.foldl (insT least) out).length ≤ out.length + l.length := by
    intro l
    induction l with
    | nil => intro out; simp
    | cons y r ih =>
      intro out
      have h1 := ih (insT least out y)
      have h2 := insT_length least out y
      simp only [List.foldl_cons, List.length_cons]
      omega
  have := h (l.take 32767) []
  unfold unkn
  simp only [List.length_nil, List.length_take] at this
  omega
end K
end Go.Proofs.YtepbicjadambbabGreatDoor
namespace Go.Proofs.YtepbicjadambbabGreatDoor
namespace K
open Go Go.Lib
theorem RF.one_ {s : Vw} {f : Fld} {sv : Value} (h : RF s f [.int .i64 f.kind, .int .i64 f.frm, .int .i64 f.to, .int .i64 f.nul, .int .i64 f.tag, .int .i64 f.dflt, .int .i64 f.of_, sv]) : RF s f.one [.int .i64 f.of_, .int .i64 f.frm, .int .i64 f.to, .int .i64 (-1), .int .i64 (-1), .int .i64 f.dflt, .int .i64 f.of_, sv] := by
  obtain ⟨sv', he, lc, h1, h2⟩ := h.open
  simp only [List.cons.injEq, and_true, true_and] at he
  subst he
  cases f
  simp only [RF, Fld.one, Fld.kind, Fld.frm, Fld.to, Fld.nul, Fld.tag, Fld.dflt, Fld.of_, Fld.sub] at h1 h2 ⊢
  exact ⟨_, rfl, lc, h1, h2⟩
mutual
def ofOk : Fld → Bool
  | .mk _ _ _ _ _ _ o sub => decide (o ≠ 11) && ofOks sub
def ofOks : List Fld → Bool
  | [] => true
  | f :: r => ofOk f && ofOks r
end
theorem ofOks.mem : ∀ {l : List Fld}, ofOks l = true → ∀ f ∈ l, ofOk f = true
  | [], _, f, h => by simp at h
  | g :: r, h, f, hf => by
    simp only [ofOks, Bool.and_eq_true] at h
    rcases List.mem_cons.1 hf with rfl | hf
    · exact h.1
    · exact ofOks.mem h.2 f hf
theorem ofOk.of {f : Fld} (h : ofOk f = true) : f.of_ ≠ 11 ∧ ofOks f.sub = true := by
  cases f
  simpa only [ofOk, Bool.and_eq_true, decide_eq_true_eq, Fld.of_, Fld.sub] using h
end K
end Go.Proofs.YtepbicjadambbabGreatDoor
namespace Go.Proofs.YtepbicjadambbabGreatDoor
namespace K
open Go Go.Lib
mutual
theorem smT_fitF : ∀ (f : Fld) (v : Int) (x : Tre), okF f = true → smT x → smT (fitF f v x)
  | .mk k a b nul tag d o sub, v, x, hok, hx => by
    have h1 := hx.open
    simp only [okF, Bool.and_eq_true, decide_eq_true_eq] at hok
    have hL : ∀ y, smT y → smTs (fitL sub v y 0) ∧ (fitL sub v y 0).length = sub.length := fun y hy => smT_fitL sub v y 0 hok.2 hy
    simp only [fitF]
    split
    · simp only [smT, smTs, List.length_take, List.length_nil, and_true]; omega
    · split
      · have h2 := unkn_le (known sub) x.u
        have h3 := hL x hx
        simp only [smT, smTs, List.length_map, List.length_nil]
        exact ⟨by omega, by omega, by omega, h3.1⟩
      · split
        · have h4 : ∀ (g : Tre → Tre) (l : List Tre), (∀ y ∈ l, smT (g y)) → smTs (l.map g) := by
            intro g l
            induction l with
            | nil => intro _; simp [smTs]
            | cons y r ih => intro h; exact ⟨h y (by simp), ih fun z hz => h z (by simp [hz])⟩
          simp only [smT, List.length_map, List.length_take, List.length_nil]
          refine ⟨by omega, by omega, by omega, h4 _ _ fun y hy => ?_⟩
          have hy := smTs.mem h1.2.2.2 y (List.mem_of_mem_take hy)
          have hy1 := hy.open
          split
          · simp only [smT, smTs, List.length_take, List.length_nil, and_true]; omega
          · split
            · have h2 := unkn_le (known sub) y.u
              have h3 := hL y hy
              simp only [smT, List.length_map, List.length_nil]
              exact ⟨by omega, by omega, by omega, h3.1⟩
            · simp only [smT, smTs, List.length_nil, and_true]; omega
        · simp only [smT, smTs, List.length_nil, and_true]; omega
theorem smT_fitL : ∀ (fs : List Fld) (v : Int) (x : Tre) (i : Nat), okFs fs = true → smT x → smTs (fitL fs v x i) ∧ (fitL fs v x i).length = fs.length
  | [], v, x, i, hok, hx => ⟨by simp [fitL, smTs], rfl⟩
  | f :: r, v, x, i, hok, hx => by
    simp only [okFs, Bool.and_eq_true] at hok
    have h1 := smT_fitF f v (x.at_ i) hok.1 (hx.at_ i)
    have h2 := smT_fitL r v x (i + 1) hok.2 hx
    simp only [fitL, smTs, List.length_cons]
    exact ⟨⟨h1, h2.1⟩, by omega⟩
end
theorem smT_fitT (fs : List Fld) (v : Int) (x : Tre) (hok : okFs fs = true) (hl : fs.length < 1000000) (hx : smT x) : smT (fitT fs v x) := by
  have h1 := smT_fitL fs v x 0 hok hx
  have h2 := unkn_le (known fs) x.u
  simp only [fitT, smT, List.length_map, List.length_nil]
  exact ⟨by omega, by omega, by omega, h1.1⟩
end K
end Go.Proofs.YtepbicjadambbabGreatDoor
