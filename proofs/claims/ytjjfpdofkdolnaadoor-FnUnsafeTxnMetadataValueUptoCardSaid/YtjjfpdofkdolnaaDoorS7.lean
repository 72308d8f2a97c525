import Derived.Test.YtjjfpdofkdolnaaDoorS6
set_option linter.unusedVariables false
set_option linter.unusedSimpArgs false
namespace Go.Proofs.YtjjfpdofkdolnaaDoor
namespace K
open Go Go.Lib
theorem plainB_drop {fs : List Fld} {v : Int} {flex : Bool} {x : Tre} {i : Nat} (hi : i < fs.length) : plainB (fs.drop i) v flex x i = (if decide (fs[i].tag < 0) && hasB fs[i] v then fieldB fs[i] v flex (x.at_ i) else []) ++ plainB (fs.drop (i + 1)) v flex x (i + 1) := by
  rw [List.drop_eq_getElem_cons hi, plainB]
def TG (fs : List Fld) (v : Int) (x : Tre) (i k : Nat) : List (Nat × List UInt8) := ((tgB (fs.drop i) v true x i).filter fun y => decide (y.1 = (k : Int))).map fun y => (k, y.2)
theorem TG_in {fs : List Fld} {v : Int} {x : Tre} {i k : Nat} (hi : i < fs.length) (ht : fs[i].tag = (k : Int)) (hu : usualB fs[i] (x.at_ i) = false) : TG fs v x i k = (k, fieldB fs[i] v true (x.at_ i)) :: TG fs v x (i + 1) k := by
  unfold TG
  rw [List.drop_eq_getElem_cons hi, tgB, hu]
  simp [ht]
theorem TG_usual {fs : List Fld} {v : Int} {x : Tre} {i k : Nat} (hi : i < fs.length) (hu : usualB fs[i] (x.at_ i) = true) : TG fs v x i k = TG fs v x (i + 1) k := by
  unfold TG
  rw [List.drop_eq_getElem_cons hi, tgB, hu]
  simp
theorem TG_out {fs : List Fld} {v : Int} {x : Tre} {i k : Nat} (hi : i < fs.length) (ht : ¬ fs[i].tag = (k : Int)) : TG fs v x i k = TG fs v x (i + 1) k := by
  unfold TG
  rw [List.drop_eq_getElem_cons hi, tgB]
  cases usualB fs[i] (x.at_ i) <;> simp [ht]
theorem TG_end {fs : List Fld} {v : Int} {x : Tre} {k : Nat} : TG fs v x fs.length k = [] := by
  unfold TG
  rw [List.drop_length, tgB]
  rfl
def TGs (fs : List Fld) (v : Int) (x : Tre) (k : Nat) : List (Nat × List UInt8) := (List.range k).flatMap (TG fs v x 0)
theorem TGs_succ (fs : List Fld) (v : Int) (x : Tre) (k : Nat) : TGs fs v x (k + 1) = TGs fs v x k ++ TG fs v x 0 k := by
  unfold TGs
  rw [List.range_succ, List.flatMap_append]
  simp
theorem TGs_le (fs : List Fld) (v : Int) (x : Tre) (k : Nat) : ∀ {m : Nat}, k ≤ m → ((TGs fs v x k).flatMap tagB).length ≤ ((TGs fs v x m).flatMap tagB).length ∧ (TGs fs v x k).length ≤ (TGs fs v x m).length
  | 0, h => by
    have : k = 0 := by omega
    subst this
    exact ⟨Nat.le_refl _, Nat.le_refl _⟩
  | m + 1, h => by
    by_cases e : k = m + 1
    · subst e; exact ⟨Nat.le_refl _, Nat.le_refl _⟩
    · have ih := TGs_le fs v x k (m := m) (by omega)
      rw [TGs_succ, List.flatMap_append, List.length_append, List.length_append]
      omega
theorem uvar_pos (n : Nat) : 0 < (uvar n).length := by
  rw [uvar]
  split <;> simp
theorem tags_len : ∀ (l : List (Nat × List UInt8)), l.length ≤ (l.flatMap tagB).length
  | [] => by simp
  | x :: r => by
    have := tags_len r
    have h := uvar_pos x.1
    simp only [List.flatMap_cons, List.length_append, List.length_cons, tagB]
    omega
theorem tags_snoc (l : List (Nat × List UInt8)) (k : Nat) (b : List UInt8) : (l ++ [(k, b)]).flatMap tagB = l.flatMap tagB ++ uvar k ++ uvar b.length ++ b := by
  simp [List.flatMap_append, tagB]
theorem partB_false (fs : List Fld) (v : Int) (x : Tre) : partB fs v false x = plainB fs v false x 0 := by
  unfold partB partOf
  simp
theorem partB_true (fs : List Fld) (v : Int) (x : Tre) : partB fs v true x = plainB fs v true x 0 ++ (uvar (TGs fs v x (known fs).toNat ++ (unkn (known fs) x.u).map cut).length ++ (TGs fs v x (known fs).toNat ++ (unkn (known fs) x.u).map cut).flatMap tagB) := by
  unfold partB partOf TGs TG
  simp only [if_true, List.drop_zero]
theorem spec_part1 (fs : List Fld) (hok : okFs fs = true) (hlen : fs.length < 1000000) (hFd : ∀ g ∈ fs, FieldC g) : PartC fs := by
  intro t vf lf cs v flex x hVf hFf hx hsm hB
  obtain ⟨sS, sL, sU, rfl, hn, hS, ⟨lc, hL, hLs⟩, hU⟩ := hx.open
  obtain ⟨adS, cS, rfl, hleS⟩ := hS.shape
  obtain ⟨adL, cL, rfl, hleL⟩ := hL.shape
  have hU0 := hU
  obtain ⟨uc, hU1, hUs⟩ := hU0
  obtain ⟨hz1, hz2, hz3, hz4⟩ := hsm.open
  obtain ⟨adf, cf, rfl, hlef⟩ := hVf.shape
  have hT := okFs.tags hok
  have hk0 := known_nonneg fs
  have hk1 := known_le hT
  obtain ⟨kn, hkn⟩ : ∃ kn : Nat, known fs = (kn : Int) := ⟨(known fs).toNat, by omega⟩
  refine ca_enter Tryd.func109 rfl Tryd.ntmps109 rfl ?_
  cases flex with
  | false =>
    have hB2 := hB
    rw [partB_false] at hB2
    refine cd_sr ?_
    refine ln_box rfl rfl rfl (fun b1 => ?_)
    refine ln_pv (pv_assign rfl) rfl ?_
    refine ln_cd ?_
    refine cd_nilrow 5 1 ?_
    refine cd_sr ?_
    refine ln_pv (pv_assign rfl) rfl ?_
    refine ln_pv (pv_assign rfl) rfl ?_
    refine ln_cd ?_
    refine cd_sr ?_
    refine ln_pv (pv_assign rfl) rfl ?_
    refine ln_cd ?_
    refine cd_seq ?_
    refine cd_sr ?_
    refine ln_pv (pv_move rfl) rfl ?_
    refine ln_pv (pv_len_slice Tryd.underlying40 rfl) rfl ?_
    refine ln_pv (pv_move rfl) rfl ?_
    refine ln_cd ?_
    refine cd_block ?_
    refine cd_loop (⟨fun (z : Nat × List UInt8 × Value) => [(0, .slice adf fs.length cf), (1, .int .i64 v), (2, .bool false), (7, .pointer (some ⟨b1, 0, none⟩)), (9, z.2.2), (10, .slice none 0 0), (11, .int .i64 0), (21, .slice adf fs.length cf), (22, .int .i64 (fs.length : Int)), (23, .int .i64 ((z.1 : Nat) : Int))], fun (z : Nat × List UInt8 × Value) => [.row z.2.2 5 1 z.2.1.length (u8s z.2.1), .obj b1 (.cells [.int .i64 x.n, .slice adS x.s.length cS, .bool x.z, .slice adL x.l.length cL, sU].toArray 35)], fun (z : Nat × List UInt8 × Value) s => z.1 ≤ fs.length ∧ z.2.1 ++ plainB (fs.drop z.1) v false x z.1 = plainB fs v false x 0, fun (z : Nat × List UInt8 × Value) => fs.length - z.1⟩ : Lp (Nat × List UInt8 × Value)) (0, [], .slice none 0 0) ?_ ?_ ?_ ?_
    · intro s0 hs0
      exact ⟨Nat.zero_le _, rfl⟩
    · exact ⟨rfl, rfl, rfl, rfl, rfl, rfl, rfl, rfl, rfl, rfl,  trivial⟩
    · exact (.cons_cons _ (.cons_cons _ .slnil))
    intro z s1 hl1 hI
    obtain ⟨i, acc, vv⟩ := z
    dsimp only at hI ⊢
    have hVf := hVf.mv hl1
    have hFf := hFf.mv hl1
    have hx := hx.mv hl1
    have hS := hS.mv hl1
    have hU := hU.mv hl1
    have hU1 := hU1.mv hl1
    have hUs := hUs.mv hl1
    have hL := hL.mv hl1
    have hLs := hLs.mv hl1
    obtain ⟨hI, hI2⟩ := hI
    have hI3 := congrArg List.length hI2
    rw [List.length_append] at hI3
    refine cd_sr ?_
    refine ln_pv (pv_lss rfl rfl) rfl ?_
    refine ln_cd ?_
    refine cd_seq ?_
    refine cd_if rfl (fun hc1 => ?_) (fun hc1 => ?_)
    · -- yes
      refine cd_skip ?_
      refine at_cd ?_
      refine cd_seq ?_
      refine cd_block ?_
      have hi : i < fs.length := by omega
      obtain ⟨b0, o0, rfl, hrc⟩ := hVf.pos (by omega) (by decide)
      obtain ⟨c1, c2, c3, he, hk, hr⟩ := RFs.at_ hi hFf
      have hsub := hrc.sub (i * 8) he hk
      obtain ⟨svf, rfl, lf2, hVf2, hFf2⟩ := hr.open
      refine cd_sr ?_
      refine ln_pv (pv_move rfl) rfl ?_
      refine ln_pv (pv_ixN Tryd.underlying40 tispec_Field.size rfl rfl hi) rfl ?_
      refine ln_pv (pv_ldR hsub Tryd.underlying87 rfl (tispec_Field).size rfl rfl) rfl ?_
      refine ln_alloc tispec_Field rfl rfl (fun b2 => ?_)
      refine ln_pv (pv_assign rfl) rfl ?_
      refine ln_storeW (i := 0) rfl rfl rfl rfl (tispec_Field).size rfl (by simp [(RS.one hVf2)]) ?_
      refine ln_cd ?_
      by_cases htg : fs[i].tag < 0
      cases hhas : hasB fs[i] v
      · skip
        refine cd_sr ?_
        refine ln_pv (pv_fieldAddr (off := 4) (r := 4) Tryd.underlying87 rfl (tiint).size rfl rfl rfl) rfl ?_
        refine ln_pv (pv_ldo (i := 0) rfl Tryd.underlying3 rfl rfl rfl) rfl ?_
        refine ln_pv (pv_tt (pv_lss rfl rfl) htg) rfl ?_
        refine ln_pv (pv_move rfl) rfl ?_
        refine ln_gt rfl rfl rfl (pv_ldO (i := 0) rfl Tryd.underlying87 rfl (tispec_Field).size rfl rfl) rfl ?_
        refine ln_gt rfl rfl rfl (pv_move rfl) rfl ?_
        refine ln_gE rfl rfl rfl ?_
        refine ln_callS en_149 rfl (fun u hu => by have h := spec_has u fs[i] _ v (RF.mv hr hu); rwa [hhas] at h) rfl ?_
        refine ln_pv (pv_pick rfl (fun _ => rfl) (fun _ => rfl)) rfl ?_
        refine ln_cd ?_
        refine cd_ff rfl ?_
        refine cd_skip ?_
        refine at_cd ?_
        refine cd_region ?_
        refine ln_pv (pv_add' rfl rfl (wrap_succ (by omega))) rfl ?_
        refine ln_pv (pv_move rfl) rfl ?_
        refine ln_nil ?_
        refine at_rnd (i + 1, acc, vv) hl1 ?_ ?_ ⟨rfl, rfl, rfl, rfl, rfl, rfl, rfl, rfl, rfl, rfl,  trivial⟩ (.cons _ (.cons_cons _ (.cons_cons _ .slnil)))
        · intro s9 hs9
          refine ⟨by dsimp only; omega, ?_⟩
          rw [← hI2, plainB_drop hi, if_neg (by simp [htg, hhas])]
          simp
        · dsimp only; omega
      · skip
        refine cd_sr ?_
        refine ln_pv (pv_fieldAddr (off := 4) (r := 4) Tryd.underlying87 rfl (tiint).size rfl rfl rfl) rfl ?_
        refine ln_pv (pv_ldo (i := 0) rfl Tryd.underlying3 rfl rfl rfl) rfl ?_
        refine ln_pv (pv_tt (pv_lss rfl rfl) htg) rfl ?_
        refine ln_pv (pv_move rfl) rfl ?_
        refine ln_gt rfl rfl rfl (pv_ldO (i := 0) rfl Tryd.underlying87 rfl (tispec_Field).size rfl rfl) rfl ?_
        refine ln_gt rfl rfl rfl (pv_move rfl) rfl ?_
        refine ln_gE rfl rfl rfl ?_
        refine ln_callS en_149 rfl (fun u hu => by have h := spec_has u fs[i] _ v (RF.mv hr hu); rwa [hhas] at h) rfl ?_
        refine ln_pv (pv_pick rfl (fun _ => rfl) (fun _ => rfl)) rfl ?_
        refine ln_cd ?_
        refine cd_tt rfl ?_
        have hI4 := congrArg List.length (plainB_drop (v := v) (flex := false) (x := x) hi)
        rw [if_pos (by simp [htg, hhas]), List.length_append] at hI4
        refine cd_draw' [0, 2] [0, 1, 2, 3, 4, 5, 9] [0, 1, 2, 3, 4, 5, 6, 7, 8, 9] mixed (by kernel_rfl) ?_
        refine lo_pv rfl rfl (sk_js (Tr.refl _) [0, 2] rfl) (pv_move rfl) rfl ?_
        refine lo_pv rfl rfl (sk_js (Tr.refl _) [0, 2] rfl) (pv_ldO (i := 0) rfl Tryd.underlying87 rfl (tispec_Field).size rfl rfl) rfl ?_
        refine lo_pv rfl rfl (sk_js (Tr.refl _) [0, 2] rfl) (pv_move rfl) rfl ?_
        refine lo_pv rfl rfl (sk_js (Tr.refl _) [0, 2] rfl) (pv_move rfl) rfl ?_
        refine lo_pv rfl rfl (sk_js (Tr.refl _) [0, 2] rfl) (pv_ldO (i := 1) rfl Tryd.underlying35 rfl (tispec_Tree).size rfl rfl) rfl ?_
        refine lo_pv rfl rfl (sk_js (Tr.refl _) [0, 2] rfl) (pv_move rfl) rfl ?_
        refine lo_eff rfl rfl ?_
        refine ln_callA en_151 rfl (fun u hu => spec_at u x _ i (RT.mv hx hu)) rfl (fun u1 v1 ht1 hR1 => ?_)
        have hVf := hVf.mv ht1
        have hFf := hFf.mv ht1
        have hx := hx.mv ht1
        have hS := hS.mv ht1
        have hU := hU.mv ht1
        have hU1 := hU1.mv ht1
        have hUs := hUs.mv ht1
        have hL := hL.mv ht1
        have hLs := hLs.mv ht1
        have hr := hr.mv ht1
        have hVf2 := hVf2.mv ht1
        obtain ⟨ds1, rfl, hds1⟩ := hR1
        refine lo_back (sk_js ht1 [0, 2] rfl) ?_
        refine lo_eff rfl rfl ?_
        refine ln_callA en_150 rfl (fun u hu => (hFd _ (List.getElem_mem hi)) u _ _ v false (x.at_ i) (RF.mv hr hu) (RT.mv hds1 hu) (hsm.at_ i) (by omega)) rfl (fun u2 v2 ht2 hR2 => ?_)
        have hVf := hVf.mv ht2
        have hFf := hFf.mv ht2
        have hx := hx.mv ht2
        have hS := hS.mv ht2
        have hU := hU.mv ht2
        have hU1 := hU1.mv ht2
        have hUs := hUs.mv ht2
        have hL := hL.mv ht2
        have hLs := hLs.mv ht2
        have hr := hr.mv ht2
        have hVf2 := hVf2.mv ht2
        have hds1 := hds1.mv ht2
        refine lo_back (sk_js (ht1.trans ht2) [0, 2] rfl) ?_
        refine lo_eff rfl rfl ?_
        refine ln_append (i := 1) rfl Tryd.underlying22 tiuint8 rfl (by decide) rfl rfl (RS.src hR2) (by (try simp only [List.length_append, maxLen]); omega) (by (try simp only [List.length_append, maxLen]); omega) rfl (k' := (acc ++ fieldB fs[i] v false (x.at_ i)).length) (xs' := u8s (acc ++ fieldB fs[i] v false (x.at_ i))) (by simp only [List.length_append]) (by simp only [u8s, List.map_append]) (fun v3 hv3 => ?_)
        refine lo_back (sk_js (ht1.trans ht2) [0, 2] rfl) ?_
        refine lo_pv rfl rfl (sk_js (ht1.trans ht2) [0, 2] rfl) (pv_assign rfl) rfl ?_
        refine lo_nil ?_
        refine at_cd ?_
        refine cd_region ?_
        refine ln_pv (pv_add' rfl rfl (wrap_succ (by omega))) rfl ?_
        refine ln_pv (pv_move rfl) rfl ?_
        refine ln_nil ?_
        refine at_rnd (i + 1, acc ++ fieldB fs[i] v false (x.at_ i), v3) ((hl1.trans ht1).trans ht2) ?_ ?_ ⟨rfl, rfl, rfl, rfl, rfl, rfl, rfl, rfl, rfl, rfl,  trivial⟩ (.cons _ (.cons_cons _ (.cons_cons _ .slnil)))
        · intro s9 hs9
          refine ⟨by dsimp only; omega, ?_⟩
          rw [← hI2, plainB_drop hi, if_pos (by simp [htg, hhas])]
          simp
        · dsimp only; omega
      · skip
        refine cd_sr ?_
        refine ln_pv (pv_fieldAddr (off := 4) (r := 4) Tryd.underlying87 rfl (tiint).size rfl rfl rfl) rfl ?_
        refine ln_pv (pv_ldo (i := 0) rfl Tryd.underlying3 rfl rfl rfl) rfl ?_
        refine ln_pv (pv_ff (pv_lss rfl rfl) htg) rfl ?_
        refine ln_pv (pv_move rfl) rfl ?_
        refine ln_gf rfl rfl rfl rfl rfl ?_
        refine ln_gf rfl rfl rfl rfl rfl ?_
        refine ln_gf rfl rfl rfl rfl rfl ?_
        refine ln_pv (pv_pick rfl (fun _ => rfl) (fun _ => rfl)) rfl ?_
        refine ln_cd ?_
        refine cd_ff rfl ?_
        refine cd_skip ?_
        refine at_cd ?_
        refine cd_region ?_
        refine ln_pv (pv_add' rfl rfl (wrap_succ (by omega))) rfl ?_
        refine ln_pv (pv_move rfl) rfl ?_
        refine ln_nil ?_
        refine at_rnd (i + 1, acc, vv) hl1 ?_ ?_ ⟨rfl, rfl, rfl, rfl, rfl, rfl, rfl, rfl, rfl, rfl,  trivial⟩ (.cons _ (.cons_cons _ (.cons_cons _ .slnil)))
        · intro s9 hs9
          refine ⟨by dsimp only; omega, ?_⟩
          rw [← hI2, plainB_drop hi, if_neg (by simp [htg])]
          simp
        · dsimp only; omega
    · -- no
      refine cd_exit rfl ?_
      refine at_cd ?_
      refine cd_seq ?_
      refine cd_sr ?_
      refine ln_pv (pv_move rfl) rfl ?_
      refine ln_pv (pv_not rfl) rfl ?_
      refine ln_cd ?_
      refine cd_tt rfl ?_
      refine cd_sr ?_
      refine ln_pv (pv_move rfl) rfl ?_
      refine ln_pv (pv_assign rfl) rfl ?_
      refine ln_cd ?_
      refine cd_ret ?_
      have e : i = fs.length := by omega
      subst e
      rw [List.drop_length, plainB, List.append_nil] at hI2
      subst hI2
      refine at_retA rfl rfl (fun w hS => ?_)
      rw [partB_false]
      exact row_rs hS (j := 0) rfl (u8s_one _)
  | true =>
    have hB2 := hB
    rw [partB_true] at hB2
    simp only [List.length_append] at hB2
    refine cd_sr ?_
    refine ln_box rfl rfl rfl (fun b1 => ?_)
    refine ln_pv (pv_assign rfl) rfl ?_
    refine ln_cd ?_
    refine cd_nilrow 5 1 ?_
    refine cd_sr ?_
    refine ln_pv (pv_assign rfl) rfl ?_
    refine ln_pv (pv_assign rfl) rfl ?_
    refine ln_cd ?_
    refine cd_sr ?_
    refine ln_pv (pv_assign rfl) rfl ?_
    refine ln_cd ?_
    refine cd_seq ?_
    refine cd_sr ?_
    refine ln_pv (pv_move rfl) rfl ?_
    refine ln_pv (pv_len_slice Tryd.underlying40 rfl) rfl ?_
    refine ln_pv (pv_move rfl) rfl ?_
    refine ln_cd ?_
    refine cd_block ?_
    refine cd_loop (⟨fun (z : Nat × List UInt8 × Value) => [(0, .slice adf fs.length cf), (1, .int .i64 v), (2, .bool true), (7, .pointer (some ⟨b1, 0, none⟩)), (9, z.2.2), (10, .slice none 0 0), (11, .int .i64 0), (21, .slice adf fs.length cf), (22, .int .i64 (fs.length : Int)), (23, .int .i64 ((z.1 : Nat) : Int))], fun (z : Nat × List UInt8 × Value) => [.row z.2.2 5 1 z.2.1.length (u8s z.2.1), .obj b1 (.cells [.int .i64 x.n, .slice adS x.s.length cS, .bool x.z, .slice adL x.l.length cL, sU].toArray 35)], fun (z : Nat × List UInt8 × Value) s => z.1 ≤ fs.length ∧ z.2.1 ++ plainB (fs.drop z.1) v true x z.1 = plainB fs v true x 0, fun (z : Nat × List UInt8 × Value) => fs.length - z.1⟩ : Lp (Nat × List UInt8 × Value)) (0, [], .slice none 0 0) ?_ ?_ ?_ ?_
    · intro s0 hs0
      exact ⟨Nat.zero_le _, rfl⟩
    · exact ⟨rfl, rfl, rfl, rfl, rfl, rfl, rfl, rfl, rfl, rfl,  trivial⟩
    · exact (.cons_cons _ (.cons_cons _ .slnil))
    intro z s1 hl1 hI
    obtain ⟨i, acc, vv⟩ := z
    dsimp only at hI ⊢
    have hVf := hVf.mv hl1
    have hFf := hFf.mv hl1
    have hx := hx.mv hl1
    have hS := hS.mv hl1
    have hU := hU.mv hl1
    have hU1 := hU1.mv hl1
    have hUs := hUs.mv hl1
    have hL := hL.mv hl1
    have hLs := hLs.mv hl1
    obtain ⟨hI, hI2⟩ := hI
    have hI3 := congrArg List.length hI2
    rw [List.length_append] at hI3
    refine cd_sr ?_
    refine ln_pv (pv_lss rfl rfl) rfl ?_
    refine ln_cd ?_
    refine cd_seq ?_
    refine cd_if rfl (fun hc1 => ?_) (fun hc1 => ?_)
    · -- yes
      refine cd_skip ?_
      refine at_cd ?_
      refine cd_seq ?_
      refine cd_block ?_
      have hi : i < fs.length := by omega
      obtain ⟨b0, o0, rfl, hrc⟩ := hVf.pos (by omega) (by decide)
      obtain ⟨c1, c2, c3, he, hk, hr⟩ := RFs.at_ hi hFf
      have hsub := hrc.sub (i * 8) he hk
      obtain ⟨svf, rfl, lf2, hVf2, hFf2⟩ := hr.open
      refine cd_sr ?_
      refine ln_pv (pv_move rfl) rfl ?_
      refine ln_pv (pv_ixN Tryd.underlying40 tispec_Field.size rfl rfl hi) rfl ?_
      refine ln_pv (pv_ldR hsub Tryd.underlying87 rfl (tispec_Field).size rfl rfl) rfl ?_
      refine ln_alloc tispec_Field rfl rfl (fun b2 => ?_)
      refine ln_pv (pv_assign rfl) rfl ?_
      refine ln_storeW (i := 0) rfl rfl rfl rfl (tispec_Field).size rfl (by simp [(RS.one hVf2)]) ?_
      refine ln_cd ?_
      by_cases htg : fs[i].tag < 0
      cases hhas : hasB fs[i] v
      · skip
        refine cd_sr ?_
        refine ln_pv (pv_fieldAddr (off := 4) (r := 4) Tryd.underlying87 rfl (tiint).size rfl rfl rfl) rfl ?_
        refine ln_pv (pv_ldo (i := 0) rfl Tryd.underlying3 rfl rfl rfl) rfl ?_
        refine ln_pv (pv_tt (pv_lss rfl rfl) htg) rfl ?_
        refine ln_pv (pv_move rfl) rfl ?_
        refine ln_gt rfl rfl rfl (pv_ldO (i := 0) rfl Tryd.underlying87 rfl (tispec_Field).size rfl rfl) rfl ?_
        refine ln_gt rfl rfl rfl (pv_move rfl) rfl ?_
        refine ln_gE rfl rfl rfl ?_
        refine ln_callS en_149 rfl (fun u hu => by have h := spec_has u fs[i] _ v (RF.mv hr hu); rwa [hhas] at h) rfl ?_
        refine ln_pv (pv_pick rfl (fun _ => rfl) (fun _ => rfl)) rfl ?_
        refine ln_cd ?_
        refine cd_ff rfl ?_
        refine cd_skip ?_
        refine at_cd ?_
        refine cd_region ?_
        refine ln_pv (pv_add' rfl rfl (wrap_succ (by omega))) rfl ?_
        refine ln_pv (pv_move rfl) rfl ?_
        refine ln_nil ?_
        refine at_rnd (i + 1, acc, vv) hl1 ?_ ?_ ⟨rfl, rfl, rfl, rfl, rfl, rfl, rfl, rfl, rfl, rfl,  trivial⟩ (.cons _ (.cons_cons _ (.cons_cons _ .slnil)))
        · intro s9 hs9
          refine ⟨by dsimp only; omega, ?_⟩
          rw [← hI2, plainB_drop hi, if_neg (by simp [htg, hhas])]
          simp
        · dsimp only; omega
      · skip
        refine cd_sr ?_
        refine ln_pv (pv_fieldAddr (off := 4) (r := 4) Tryd.underlying87 rfl (tiint).size rfl rfl rfl) rfl ?_
        refine ln_pv (pv_ldo (i := 0) rfl Tryd.underlying3 rfl rfl rfl) rfl ?_
        refine ln_pv (pv_tt (pv_lss rfl rfl) htg) rfl ?_
        refine ln_pv (pv_move rfl) rfl ?_
        refine ln_gt rfl rfl rfl (pv_ldO (i := 0) rfl Tryd.underlying87 rfl (tispec_Field).size rfl rfl) rfl ?_
        refine ln_gt rfl rfl rfl (pv_move rfl) rfl ?_
        refine ln_gE rfl rfl rfl ?_
        refine ln_callS en_149 rfl (fun u hu => by have h := spec_has u fs[i] _ v (RF.mv hr hu); rwa [hhas] at h) rfl ?_
        refine ln_pv (pv_pick rfl (fun _ => rfl) (fun _ => rfl)) rfl ?_
        refine ln_cd ?_
        refine cd_tt rfl ?_
        have hI4 := congrArg List.length (plainB_drop (v := v) (flex := true) (x := x) hi)
        rw [if_pos (by simp [htg, hhas]), List.length_append] at hI4
        refine cd_draw' [0, 2] [0, 1, 2, 3, 4, 5, 9] [0, 1, 2, 3, 4, 5, 6, 7, 8, 9] mixed (by kernel_rfl) ?_
        refine lo_pv rfl rfl (sk_js (Tr.refl _) [0, 2] rfl) (pv_move rfl) rfl ?_
        refine lo_pv rfl rfl (sk_js (Tr.refl _) [0, 2] rfl) (pv_ldO (i := 0) rfl Tryd.underlying87 rfl (tispec_Field).size rfl rfl) rfl ?_
        refine lo_pv rfl rfl (sk_js (Tr.refl _) [0, 2] rfl) (pv_move rfl) rfl ?_
        refine lo_pv rfl rfl (sk_js (Tr.refl _) [0, 2] rfl) (pv_move rfl) rfl ?_
        refine lo_pv rfl rfl (sk_js (Tr.refl _) [0, 2] rfl) (pv_ldO (i := 1) rfl Tryd.underlying35 rfl (tispec_Tree).size rfl rfl) rfl ?_
        refine lo_pv rfl rfl (sk_js (Tr.refl _) [0, 2] rfl) (pv_move rfl) rfl ?_
        refine lo_eff rfl rfl ?_
        refine ln_callA en_151 rfl (fun u hu => spec_at u x _ i (RT.mv hx hu)) rfl (fun u1 v1 ht1 hR1 => ?_)
        have hVf := hVf.mv ht1
        have hFf := hFf.mv ht1
        have hx := hx.mv ht1
        have hS := hS.mv ht1
        have hU := hU.mv ht1
        have hU1 := hU1.mv ht1
        have hUs := hUs.mv ht1
        have hL := hL.mv ht1
        have hLs := hLs.mv ht1
        have hr := hr.mv ht1
        have hVf2 := hVf2.mv ht1
        obtain ⟨ds1, rfl, hds1⟩ := hR1
        refine lo_back (sk_js ht1 [0, 2] rfl) ?_
        refine lo_eff rfl rfl ?_
        refine ln_callA en_150 rfl (fun u hu => (hFd _ (List.getElem_mem hi)) u _ _ v true (x.at_ i) (RF.mv hr hu) (RT.mv hds1 hu) (hsm.at_ i) (by omega)) rfl (fun u2 v2 ht2 hR2 => ?_)
        have hVf := hVf.mv ht2
        have hFf := hFf.mv ht2
        have hx := hx.mv ht2
        have hS := hS.mv ht2
        have hU := hU.mv ht2
        have hU1 := hU1.mv ht2
        have hUs := hUs.mv ht2
        have hL := hL.mv ht2
        have hLs := hLs.mv ht2
        have hr := hr.mv ht2
        have hVf2 := hVf2.mv ht2
        have hds1 := hds1.mv ht2
        refine lo_back (sk_js (ht1.trans ht2) [0, 2] rfl) ?_
        refine lo_eff rfl rfl ?_
        refine ln_append (i := 1) rfl Tryd.underlying22 tiuint8 rfl (by decide) rfl rfl (RS.src hR2) (by (try simp only [List.length_append, maxLen]); omega) (by (try simp only [List.length_append, maxLen]); omega) rfl (k' := (acc ++ fieldB fs[i] v true (x.at_ i)).length) (xs' := u8s (acc ++ fieldB fs[i] v true (x.at_ i))) (by simp only [List.length_append]) (by simp only [u8s, List.map_append]) (fun v3 hv3 => ?_)
        refine lo_back (sk_js (ht1.trans ht2) [0, 2] rfl) ?_
        refine lo_pv rfl rfl (sk_js (ht1.trans ht2) [0, 2] rfl) (pv_assign rfl) rfl ?_
        refine lo_nil ?_
        refine at_cd ?_
        refine cd_region ?_
        refine ln_pv (pv_add' rfl rfl (wrap_succ (by omega))) rfl ?_
        refine ln_pv (pv_move rfl) rfl ?_
        refine ln_nil ?_
        refine at_rnd (i + 1, acc ++ fieldB fs[i] v true (x.at_ i), v3) ((hl1.trans ht1).trans ht2) ?_ ?_ ⟨rfl, rfl, rfl, rfl, rfl, rfl, rfl, rfl, rfl, rfl,  trivial⟩ (.cons _ (.cons_cons _ (.cons_cons _ .slnil)))
        · intro s9 hs9
          refine ⟨by dsimp only; omega, ?_⟩
          rw [← hI2, plainB_drop hi, if_pos (by simp [htg, hhas])]
          simp
        · dsimp only; omega
      · skip
        refine cd_sr ?_
        refine ln_pv (pv_fieldAddr (off := 4) (r := 4) Tryd.underlying87 rfl (tiint).size rfl rfl rfl) rfl ?_
        refine ln_pv (pv_ldo (i := 0) rfl Tryd.underlying3 rfl rfl rfl) rfl ?_
        refine ln_pv (pv_ff (pv_lss rfl rfl) htg) rfl ?_
        refine ln_pv (pv_move rfl) rfl ?_
        refine ln_gf rfl rfl rfl rfl rfl ?_
        refine ln_gf rfl rfl rfl rfl rfl ?_
        refine ln_gf rfl rfl rfl rfl rfl ?_
        refine ln_pv (pv_pick rfl (fun _ => rfl) (fun _ => rfl)) rfl ?_
        refine ln_cd ?_
        refine cd_ff rfl ?_
        refine cd_skip ?_
        refine at_cd ?_
        refine cd_region ?_
        refine ln_pv (pv_add' rfl rfl (wrap_succ (by omega))) rfl ?_
        refine ln_pv (pv_move rfl) rfl ?_
        refine ln_nil ?_
        refine at_rnd (i + 1, acc, vv) hl1 ?_ ?_ ⟨rfl, rfl, rfl, rfl, rfl, rfl, rfl, rfl, rfl, rfl,  trivial⟩ (.cons _ (.cons_cons _ (.cons_cons _ .slnil)))
        · intro s9 hs9
          refine ⟨by dsimp only; omega, ?_⟩
          rw [← hI2, plainB_drop hi, if_neg (by simp [htg])]
          simp
        · dsimp only; omega
    · -- no
      refine cd_exit rfl ?_
      refine at_cd ?_
      refine cd_seq ?_
      refine cd_sr ?_
      refine ln_pv (pv_move rfl) rfl ?_
      refine ln_pv (pv_not rfl) rfl ?_
      refine ln_cd ?_
      refine cd_ff rfl ?_
      refine cd_skip ?_
      refine at_cd ?_
      refine cd_seq ?_
      have e : i = fs.length := by omega
      subst e
      rw [List.drop_length, plainB, List.append_nil] at hI2
      subst hI2
      have hB3 := hB
      rw [partB_true, show (known fs).toNat = kn by omega] at hB3
      simp only [List.length_append, List.flatMap_append] at hB3
      have hunl : ∀ j, j ≤ (unkn (known fs) x.u).length → (((TGs fs v x kn) ++ ((unkn (known fs) x.u).take j).map cut).flatMap tagB).length < 1099511627776 ∧ ((TGs fs v x kn) ++ ((unkn (known fs) x.u).take j).map cut).length < 1099511627776 := fun j hj => by
        have h1 := flat_le tagB ((unkn (known fs) x.u).map cut) j
        rw [← List.map_take] at h1
        have h2 := tags_len ((TGs fs v x kn) ++ ((unkn (known fs) x.u).take j).map cut)
        simp only [List.flatMap_append, List.length_append] at h2 ⊢
        omega
      have hul : (unkn (known fs) x.u).length < 1099511627776 := by
        have h := (hunl _ (Nat.le_refl _)).2
        rw [List.take_length, List.length_append, List.length_map] at h
        omega
      refine cd_nilrow 5 1 ?_
      have hd1 : 0 = 0 := rfl
      refine cd_sr ?_
      refine ln_pv (pv_move rfl) rfl ?_
      refine ln_callS en_152 rfl (fun u hu => by have h := spec_known u _ fs lf (RS.mv hVf hu) (RFs.mv hFf hu) hT (by omega); rwa [hkn] at h) rfl ?_
      refine ln_pv (pv_conv' Tryd.underlying55 Tryd.underlying3 rfl (wrap_i64 (by omega) (by omega))) rfl ?_
      refine ln_pv (pv_move rfl) rfl ?_
      refine ln_cd ?_
      refine cd_block ?_
      refine cd_loop (⟨fun (z : Nat × Value) => [(0, .slice adf fs.length cf), (1, .int .i64 v), (2, .bool true), (7, .pointer (some ⟨b1, 0, none⟩)), (9, vv), (10, z.2), (11, .int .i64 ((TGs fs v x z.1).length : Int)), (51, .int .i64 (kn : Int)), (52, .int .i64 ((z.1 : Nat) : Int))], fun (z : Nat × Value) => [.row z.2 5 1 ((TGs fs v x z.1).flatMap tagB).length (u8s ((TGs fs v x z.1).flatMap tagB)), .row vv 5 1 (plainB fs v true x 0).length (u8s (plainB fs v true x 0)), .obj b1 (.cells [.int .i64 x.n, .slice adS x.s.length cS, .bool x.z, .slice adL x.l.length cL, sU].toArray 35)], fun (z : Nat × Value) s => z.1 ≤ kn, fun (z : Nat × Value) => kn - z.1⟩ : Lp (Nat × Value)) (0, .slice none 0 0) ?_ ?_ ?_ ?_
      · intro s0 hs0
        exact Nat.zero_le _
      · exact ⟨rfl, rfl, rfl, rfl, rfl, rfl, rfl, rfl, rfl,  trivial⟩
      · exact (.cons_cons _ (.cons_cons _ (.cons_cons _ .slnil)))
      intro z s2 hl2 hI
      obtain ⟨k, v1⟩ := z
      dsimp only at hI ⊢
      have hVf := hVf.mv hl2
      have hFf := hFf.mv hl2
      have hx := hx.mv hl2
      have hS := hS.mv hl2
      have hU := hU.mv hl2
      have hU1 := hU1.mv hl2
      have hUs := hUs.mv hl2
      have hL := hL.mv hl2
      have hLs := hLs.mv hl2
      refine cd_sr ?_
      refine ln_pv (pv_lss rfl rfl) rfl ?_
      refine ln_cd ?_
      refine cd_seq ?_
      refine cd_if rfl (fun hc3 => ?_) (fun hc3 => ?_)
      · -- yes
        refine cd_skip ?_
        refine at_cd ?_
        refine cd_seq ?_
        refine cd_block ?_
        refine cd_sr ?_
        refine ln_pv (pv_move rfl) rfl ?_
        refine ln_pv (pv_assign rfl) rfl ?_
        refine ln_cd ?_
        refine cd_sr ?_
        refine ln_pv (pv_move rfl) rfl ?_
        refine ln_pv (pv_len_slice Tryd.underlying40 rfl) rfl ?_
        refine ln_pv (pv_move rfl) rfl ?_
        refine ln_cd ?_
        refine cd_block ?_
        refine cd_loop (⟨fun (z : Nat × List (Nat × List UInt8) × Value) => [(0, .slice adf fs.length cf), (1, .int .i64 v), (2, .bool true), (7, .pointer (some ⟨b1, 0, none⟩)), (9, vv), (10, z.2.2), (11, .int .i64 (z.2.1.length : Int)), (14, .int .i64 (k : Int)), (51, .int .i64 (kn : Int)), (52, .int .i64 (k : Int)), (55, .slice adf fs.length cf), (56, .int .i64 (fs.length : Int)), (57, .int .i64 ((z.1 : Nat) : Int))], fun (z : Nat × List (Nat × List UInt8) × Value) => [.row z.2.2 5 1 (z.2.1.flatMap tagB).length (u8s (z.2.1.flatMap tagB)), .row vv 5 1 (plainB fs v true x 0).length (u8s (plainB fs v true x 0)), .obj b1 (.cells [.int .i64 x.n, .slice adS x.s.length cS, .bool x.z, .slice adL x.l.length cL, sU].toArray 35)], fun (z : Nat × List (Nat × List UInt8) × Value) s => z.1 ≤ fs.length ∧ z.2.1 ++ TG fs v x z.1 k = TGs fs v x (k + 1), fun (z : Nat × List (Nat × List UInt8) × Value) => fs.length - z.1⟩ : Lp (Nat × List (Nat × List UInt8) × Value)) (0, TGs fs v x k, v1) ?_ ?_ ?_ ?_
        · intro s0 hs0
          exact ⟨Nat.zero_le _, (TGs_succ fs v x k).symm⟩
        · exact ⟨rfl, rfl, rfl, rfl, rfl, rfl, rfl, rfl, rfl, rfl, rfl, rfl, rfl,  trivial⟩
        · exact (.cons_cons _ (.cons_cons _ (.cons_cons _ .slnil)))
        intro z s3 hl3 hI
        obtain ⟨i, acc2, v2⟩ := z
        dsimp only at hI ⊢
        have hVf := hVf.mv hl3
        have hFf := hFf.mv hl3
        have hx := hx.mv hl3
        have hS := hS.mv hl3
        have hU := hU.mv hl3
        have hU1 := hU1.mv hl3
        have hUs := hUs.mv hl3
        have hL := hL.mv hl3
        have hLs := hLs.mv hl3
        obtain ⟨hJ1, hJ2⟩ := hI
        have hJ3 := congrArg (fun l => (l.flatMap tagB).length) hJ2
        simp only [List.flatMap_append, List.length_append] at hJ3
        have hJ4 := (TGs_le fs v x (k + 1) (m := kn) (by omega)).1
        have hJ5 := tags_len acc2
        refine cd_sr ?_
        refine ln_pv (pv_lss rfl rfl) rfl ?_
        refine ln_cd ?_
        refine cd_seq ?_
        refine cd_if rfl (fun hc4 => ?_) (fun hc4 => ?_)
        · -- yes
          refine cd_skip ?_
          refine at_cd ?_
          refine cd_seq ?_
          refine cd_block ?_
          have hi : i < fs.length := by omega
          obtain ⟨b0, o0, rfl, hrc⟩ := hVf.pos (by omega) (by decide)
          obtain ⟨c1, c2, c3, he, hk, hr⟩ := RFs.at_ hi hFf
          have hsub := hrc.sub (i * 8) he hk
          obtain ⟨svf, rfl, lf2, hVf2, hFf2⟩ := hr.open
          refine cd_sr ?_
          refine ln_pv (pv_move rfl) rfl ?_
          refine ln_pv (pv_ixN Tryd.underlying40 tispec_Field.size rfl rfl hi) rfl ?_
          refine ln_pv (pv_ldR hsub Tryd.underlying87 rfl (tispec_Field).size rfl rfl) rfl ?_
          refine ln_alloc tispec_Field rfl rfl (fun b3 => ?_)
          refine ln_pv (pv_assign rfl) rfl ?_
          refine ln_storeW (i := 0) rfl rfl rfl rfl (tispec_Field).size rfl (by simp [(RS.one hVf2)]) ?_
          refine ln_cd ?_
          by_cases htg : fs[i].tag = (k : Int)
          cases hus : usualB fs[i] (x.at_ i)
          · skip
            refine cd_dr' [0, 3] [0, 1, 2, 3, 4, 5, 6, 7, 10, 11] [0, 1, 2, 3, 4, 5, 6, 7, 8, 9, 10, 11] mixed (by kernel_rfl) ?_
            refine lo_pv rfl rfl (sk_js (Tr.refl _) [0, 3] rfl) (pv_fieldAddr (off := 4) (r := 4) Tryd.underlying87 rfl (tiint).size rfl rfl rfl) rfl ?_
            refine lo_pv rfl rfl (sk_js (Tr.refl _) [0, 3] rfl) (pv_ldo (i := 0) rfl Tryd.underlying3 rfl rfl rfl) rfl ?_
            refine lo_pv rfl rfl (sk_js (Tr.refl _) [0, 3] rfl) (pv_move rfl) rfl ?_
            refine lo_pv rfl rfl (sk_js (Tr.refl _) [0, 3] rfl) (pv_tt (pv_eql rfl rfl) htg) rfl ?_
            refine lo_pv rfl rfl (sk_js (Tr.refl _) [0, 3] rfl) (pv_move rfl) rfl ?_
            refine lo_gt rfl rfl (sk_js (Tr.refl _) [0, 3] rfl) rfl rfl rfl (pv_ldO (i := 0) rfl Tryd.underlying87 rfl (tispec_Field).size rfl rfl) rfl ?_
            refine lo_gt rfl rfl (sk_js (Tr.refl _) [0, 3] rfl) rfl rfl rfl (pv_ldO (i := 1) rfl Tryd.underlying35 rfl (tispec_Tree).size rfl rfl) rfl ?_
            refine lo_gt rfl rfl (sk_js (Tr.refl _) [0, 3] rfl) rfl rfl rfl (pv_move rfl) rfl ?_
            refine lo_eff rfl rfl ?_
            refine ln_gE rfl rfl rfl ?_
            refine ln_callA en_151 rfl (fun u hu => spec_at u x _ i (RT.mv hx hu)) rfl (fun u4 v4 ht4 hR4 => ?_)
            have hVf := hVf.mv ht4
            have hFf := hFf.mv ht4
            have hx := hx.mv ht4
            have hS := hS.mv ht4
            have hU := hU.mv ht4
            have hU1 := hU1.mv ht4
            have hUs := hUs.mv ht4
            have hL := hL.mv ht4
            have hLs := hLs.mv ht4
            have hr := hr.mv ht4
            have hVf2 := hVf2.mv ht4
            obtain ⟨ds4, rfl, hds4⟩ := hR4
            refine lo_back (sk_js ht4 [0, 3] rfl) ?_
            refine lo_eff rfl rfl ?_
            refine ln_gE rfl rfl rfl ?_
            refine ln_callS en_153 rfl (fun u hu => by have h := spec_usual fs[i] (okFs.mem hok _ (List.getElem_mem hi)) u _ _ (x.at_ i) (RF.mv hr hu) (RT.mv hds4 hu) (hsm.at_ i); rwa [hus] at h) rfl ?_
            refine lo_back (sk_js ht4 [0, 3] rfl) ?_
            refine lo_gt rfl rfl (sk_js ht4 [0, 3] rfl) rfl rfl rfl (pv_not rfl) rfl ?_
            refine lo_pv rfl rfl (sk_js ht4 [0, 3] rfl) (pv_pick rfl (fun _ => rfl) (fun _ => rfl)) rfl ?_
            refine lo_cd ?_
            refine cd_tt rfl ?_
            have hJ6 : ((acc2 ++ [(k, fieldB fs[i] v true (x.at_ i))] ++ TG fs v x (i + 1) k).flatMap tagB).length = ((TGs fs v x (k + 1)).flatMap tagB).length := by
              rw [← hJ2, TG_in hi htg hus]
              simp
            rw [List.flatMap_append, tags_snoc] at hJ6
            simp only [List.length_append] at hJ6
            refine cd_dr' [0, 3] [0, 1, 2, 3, 4, 7] [0, 1, 2, 3, 4, 5, 6, 7] mixed (by kernel_rfl) ?_
            refine lo_pv rfl rfl (sk_js (Tr.refl _) [0, 3] rfl) (pv_ldO (i := 0) rfl Tryd.underlying87 rfl (tispec_Field).size rfl rfl) rfl ?_
            refine lo_pv rfl rfl (sk_js (Tr.refl _) [0, 3] rfl) (pv_move rfl) rfl ?_
            refine lo_pv rfl rfl (sk_js (Tr.refl _) [0, 3] rfl) (pv_move rfl) rfl ?_
            refine lo_pv rfl rfl (sk_js (Tr.refl _) [0, 3] rfl) (pv_ldO (i := 1) rfl Tryd.underlying35 rfl (tispec_Tree).size rfl rfl) rfl ?_
            refine lo_pv rfl rfl (sk_js (Tr.refl _) [0, 3] rfl) (pv_move rfl) rfl ?_
            refine lo_eff rfl rfl ?_
            refine ln_callA en_151 rfl (fun u hu => spec_at u x _ i (RT.mv hx hu)) rfl (fun u5 v5 ht5 hR5 => ?_)
            have hVf := hVf.mv ht5
            have hFf := hFf.mv ht5
            have hx := hx.mv ht5
            have hS := hS.mv ht5
            have hU := hU.mv ht5
            have hU1 := hU1.mv ht5
            have hUs := hUs.mv ht5
            have hL := hL.mv ht5
            have hLs := hLs.mv ht5
            have hr := hr.mv ht5
            have hVf2 := hVf2.mv ht5
            have hds4 := hds4.mv ht5
            obtain ⟨ds5, rfl, hds5⟩ := hR5
            refine lo_back (sk_js ht5 [0, 3] rfl) ?_
            refine lo_eff rfl rfl ?_
            refine ln_callA en_150 rfl (fun u hu => (hFd _ (List.getElem_mem hi)) u _ _ v true (x.at_ i) (RF.mv hr hu) (RT.mv hds5 hu) (hsm.at_ i) (by omega)) rfl (fun u6 v6 ht6 hR6 => ?_)
            have hVf := hVf.mv ht6
            have hFf := hFf.mv ht6
            have hx := hx.mv ht6
            have hS := hS.mv ht6
            have hU := hU.mv ht6
            have hU1 := hU1.mv ht6
            have hUs := hUs.mv ht6
            have hL := hL.mv ht6
            have hLs := hLs.mv ht6
            have hr := hr.mv ht6
            have hVf2 := hVf2.mv ht6
            have hds4 := hds4.mv ht6
            have hds5 := hds5.mv ht6
            obtain ⟨adr6, cr6, rfl, hler6⟩ := RS.shape hR6
            refine lo_back (sk_js (ht5.trans ht6) [0, 3] rfl) ?_
            refine lo_pv rfl rfl (sk_js (ht5.trans ht6) [0, 3] rfl) (pv_assign rfl) rfl ?_
            refine lo_cd ?_
            refine cd_sr ?_
            refine ln_pv (pv_move rfl) rfl ?_
            refine ln_pv (pv_move rfl) rfl ?_
            refine ln_pv (pv_conv' Tryd.underlying3 Tryd.underlying180 rfl (wrap_u64_in (by omega) (by omega))) rfl ?_
            refine ln_callA en_154 rfl (fun u hu => spec_Uvarint u k (by omega)) rfl (fun u7 v7 ht7 hR7 => ?_)
            have hVf := hVf.mv ht7
            have hFf := hFf.mv ht7
            have hx := hx.mv ht7
            have hS := hS.mv ht7
            have hU := hU.mv ht7
            have hU1 := hU1.mv ht7
            have hUs := hUs.mv ht7
            have hL := hL.mv ht7
            have hLs := hLs.mv ht7
            have hr := hr.mv ht7
            have hVf2 := hVf2.mv ht7
            have hds4 := hds4.mv ht7
            have hds5 := hds5.mv ht7
            have hR6 := hR6.mv ht7
            refine ln_append (i := 1) rfl Tryd.underlying22 tiuint8 rfl (by decide) rfl rfl (RS.src hR7) (by (try simp only [List.length_append, maxLen]); omega) (by (try simp only [List.length_append, maxLen]); omega) rfl (k' := (acc2.flatMap tagB ++ uvar k).length) (xs' := u8s (acc2.flatMap tagB ++ uvar k)) (by simp only [List.length_append]) (by simp only [u8s, List.map_append]) (fun v8 hv8 => ?_)
            refine ln_pv (pv_move rfl) rfl ?_
            refine ln_pv (pv_len_slice Tryd.underlying22 rfl) rfl ?_
            refine ln_pv (pv_conv' Tryd.underlying3 Tryd.underlying180 rfl (wrap_u64_in (by omega) (by omega))) rfl ?_
            refine ln_callA en_154 rfl (fun u hu => spec_Uvarint u (fieldB fs[i] v true (x.at_ i)).length (by omega)) rfl (fun u9 v9 ht9 hR9 => ?_)
            have hVf := hVf.mv ht9
            have hFf := hFf.mv ht9
            have hx := hx.mv ht9
            have hS := hS.mv ht9
            have hU := hU.mv ht9
            have hU1 := hU1.mv ht9
            have hUs := hUs.mv ht9
            have hL := hL.mv ht9
            have hLs := hLs.mv ht9
            have hr := hr.mv ht9
            have hVf2 := hVf2.mv ht9
            have hds4 := hds4.mv ht9
            have hds5 := hds5.mv ht9
            have hR6 := hR6.mv ht9
            have hR7 := hR7.mv ht9
            refine ln_append (i := 1) rfl Tryd.underlying22 tiuint8 rfl (by decide) rfl rfl (RS.src hR9) (by (try simp only [List.length_append, maxLen]); omega) (by (try simp only [List.length_append, maxLen]); omega) rfl (k' := (acc2.flatMap tagB ++ uvar k ++ uvar (fieldB fs[i] v true (x.at_ i)).length).length) (xs' := u8s (acc2.flatMap tagB ++ uvar k ++ uvar (fieldB fs[i] v true (x.at_ i)).length)) (by simp only [List.length_append]) (by simp only [u8s, List.map_append]) (fun v10 hv10 => ?_)
            refine ln_pv (pv_move rfl) rfl ?_
            refine ln_append (i := 1) rfl Tryd.underlying22 tiuint8 rfl (by decide) rfl rfl (RS.src hR6) (by (try simp only [List.length_append, maxLen]); omega) (by (try simp only [List.length_append, maxLen]); omega) rfl (k' := ((acc2 ++ [(k, fieldB fs[i] v true (x.at_ i))]).flatMap tagB).length) (xs' := u8s ((acc2 ++ [(k, fieldB fs[i] v true (x.at_ i))]).flatMap tagB)) (by rw [tags_snoc]; simp only [List.length_append]) (by rw [tags_snoc]; simp only [u8s, List.map_append]) (fun v11 hv11 => ?_)
            refine ln_pv (pv_assign rfl) rfl ?_
            refine ln_cd ?_
            refine cd_region ?_
            refine ln_pv (pv_move rfl) rfl ?_
            refine ln_pv (pv_add' rfl rfl (wrap_i64 (by omega) (by omega))) rfl ?_
            refine ln_pv (pv_assign rfl) rfl ?_
            refine ln_nil ?_
            refine at_cd ?_
            refine cd_region ?_
            refine ln_pv (pv_add' rfl rfl (wrap_succ (by omega))) rfl ?_
            refine ln_pv (pv_move rfl) rfl ?_
            refine ln_nil ?_
            refine at_rnd (i + 1, acc2 ++ [(k, fieldB fs[i] v true (x.at_ i))], v11) (((((hl3.trans ht4).trans ht5).trans ht6).trans ht7).trans ht9) ?_ ?_ ⟨rfl, rfl, rfl, rfl, rfl, rfl, (congrArg (fun q : Int => some (Value.int .i64 q)) (by simp)), rfl, rfl, rfl, rfl, rfl, rfl,  trivial⟩ (.cons _ (.cons_cons _ (.cons_cons _ (.cons_cons _ .slnil))))
            · intro s9 hs9
              exact ⟨by dsimp only; omega, by rw [← hJ2, TG_in hi htg hus]; simp⟩
            · dsimp only; omega
          · skip
            refine cd_dr' [0, 3] [0, 1, 2, 3, 4, 5, 6, 7, 10, 11] [0, 1, 2, 3, 4, 5, 6, 7, 8, 9, 10, 11] mixed (by kernel_rfl) ?_
            refine lo_pv rfl rfl (sk_js (Tr.refl _) [0, 3] rfl) (pv_fieldAddr (off := 4) (r := 4) Tryd.underlying87 rfl (tiint).size rfl rfl rfl) rfl ?_
            refine lo_pv rfl rfl (sk_js (Tr.refl _) [0, 3] rfl) (pv_ldo (i := 0) rfl Tryd.underlying3 rfl rfl rfl) rfl ?_
            refine lo_pv rfl rfl (sk_js (Tr.refl _) [0, 3] rfl) (pv_move rfl) rfl ?_
            refine lo_pv rfl rfl (sk_js (Tr.refl _) [0, 3] rfl) (pv_tt (pv_eql rfl rfl) htg) rfl ?_
            refine lo_pv rfl rfl (sk_js (Tr.refl _) [0, 3] rfl) (pv_move rfl) rfl ?_
            refine lo_gt rfl rfl (sk_js (Tr.refl _) [0, 3] rfl) rfl rfl rfl (pv_ldO (i := 0) rfl Tryd.underlying87 rfl (tispec_Field).size rfl rfl) rfl ?_
            refine lo_gt rfl rfl (sk_js (Tr.refl _) [0, 3] rfl) rfl rfl rfl (pv_ldO (i := 1) rfl Tryd.underlying35 rfl (tispec_Tree).size rfl rfl) rfl ?_
            refine lo_gt rfl rfl (sk_js (Tr.refl _) [0, 3] rfl) rfl rfl rfl (pv_move rfl) rfl ?_
            refine lo_eff rfl rfl ?_
            refine ln_gE rfl rfl rfl ?_
            refine ln_callA en_151 rfl (fun u hu => spec_at u x _ i (RT.mv hx hu)) rfl (fun u12 v12 ht12 hR12 => ?_)
            have hVf := hVf.mv ht12
            have hFf := hFf.mv ht12
            have hx := hx.mv ht12
            have hS := hS.mv ht12
            have hU := hU.mv ht12
            have hU1 := hU1.mv ht12
            have hUs := hUs.mv ht12
            have hL := hL.mv ht12
            have hLs := hLs.mv ht12
            have hr := hr.mv ht12
            have hVf2 := hVf2.mv ht12
            obtain ⟨ds12, rfl, hds12⟩ := hR12
            refine lo_back (sk_js ht12 [0, 3] rfl) ?_
            refine lo_eff rfl rfl ?_
            refine ln_gE rfl rfl rfl ?_
            refine ln_callS en_153 rfl (fun u hu => by have h := spec_usual fs[i] (okFs.mem hok _ (List.getElem_mem hi)) u _ _ (x.at_ i) (RF.mv hr hu) (RT.mv hds12 hu) (hsm.at_ i); rwa [hus] at h) rfl ?_
            refine lo_back (sk_js ht12 [0, 3] rfl) ?_
            refine lo_gt rfl rfl (sk_js ht12 [0, 3] rfl) rfl rfl rfl (pv_not rfl) rfl ?_
            refine lo_pv rfl rfl (sk_js ht12 [0, 3] rfl) (pv_pick rfl (fun _ => rfl) (fun _ => rfl)) rfl ?_
            refine lo_cd ?_
            refine cd_ff rfl ?_
            refine cd_skip ?_
            refine at_cd ?_
            refine cd_region ?_
            refine ln_pv (pv_add' rfl rfl (wrap_succ (by omega))) rfl ?_
            refine ln_pv (pv_move rfl) rfl ?_
            refine ln_nil ?_
            refine at_rnd (i + 1, acc2, v2) (hl3.trans ht12) ?_ ?_ ⟨rfl, rfl, rfl, rfl, rfl, rfl, rfl, rfl, rfl, rfl, rfl, rfl, rfl,  trivial⟩ (.cons _ (.cons_cons _ (.cons_cons _ (.cons_cons _ .slnil))))
            · intro s9 hs9
              exact ⟨by dsimp only; omega, by rw [← hJ2, TG_usual hi hus]⟩
            · dsimp only; omega
          · skip
            refine cd_dr' [0, 3] [0, 1, 2, 3, 4, 5, 6, 7, 10, 11] [0, 1, 2, 3, 4, 5, 6, 7, 8, 9, 10, 11] mixed (by kernel_rfl) ?_
            refine lo_pv rfl rfl (sk_js (Tr.refl _) [0, 3] rfl) (pv_fieldAddr (off := 4) (r := 4) Tryd.underlying87 rfl (tiint).size rfl rfl rfl) rfl ?_
            refine lo_pv rfl rfl (sk_js (Tr.refl _) [0, 3] rfl) (pv_ldo (i := 0) rfl Tryd.underlying3 rfl rfl rfl) rfl ?_
            refine lo_pv rfl rfl (sk_js (Tr.refl _) [0, 3] rfl) (pv_move rfl) rfl ?_
            refine lo_pv rfl rfl (sk_js (Tr.refl _) [0, 3] rfl) (pv_ff (pv_eql rfl rfl) htg) rfl ?_
            refine lo_pv rfl rfl (sk_js (Tr.refl _) [0, 3] rfl) (pv_move rfl) rfl ?_
            refine lo_gf rfl rfl (sk_js (Tr.refl _) [0, 3] rfl) rfl rfl rfl rfl rfl ?_
            refine lo_gf rfl rfl (sk_js (Tr.refl _) [0, 3] rfl) rfl rfl rfl rfl rfl ?_
            refine lo_gf rfl rfl (sk_js (Tr.refl _) [0, 3] rfl) rfl rfl rfl rfl rfl ?_
            refine lo_ef rfl rfl (fun _ => sk_js (Tr.refl _) [0, 3] rfl) rfl rfl rfl rfl rfl ?_
            refine lo_ef rfl rfl (fun _ => sk_js (Tr.refl _) [0, 3] rfl) rfl rfl rfl rfl rfl ?_
            refine lo_gf rfl rfl (sk_js (Tr.refl _) [0, 3] rfl) rfl rfl rfl rfl rfl ?_
            refine lo_pv rfl rfl (sk_js (Tr.refl _) [0, 3] rfl) (pv_pick rfl (fun _ => rfl) (fun _ => rfl)) rfl ?_
            refine lo_cd ?_
            refine cd_ff rfl ?_
            refine cd_skip ?_
            refine at_cd ?_
            refine cd_region ?_
            refine ln_pv (pv_add' rfl rfl (wrap_succ (by omega))) rfl ?_
            refine ln_pv (pv_move rfl) rfl ?_
            refine ln_nil ?_
            refine at_rnd (i + 1, acc2, v2) hl3 ?_ ?_ ⟨rfl, rfl, rfl, rfl, rfl, rfl, rfl, rfl, rfl, rfl, rfl, rfl, rfl,  trivial⟩ (.cons _ (.cons_cons _ (.cons_cons _ (.cons_cons _ .slnil))))
            · intro s9 hs9
              exact ⟨by dsimp only; omega, by rw [← hJ2, TG_out hi htg]⟩
            · dsimp only; omega
        · -- no
          refine cd_exit rfl ?_
          refine at_cd ?_
          refine cd_region ?_
          refine ln_pv (pv_add' rfl rfl (wrap_succ (by omega))) rfl ?_
          refine ln_pv (pv_move rfl) rfl ?_
          refine ln_nil ?_
          have hE : acc2 = TGs fs v x (k + 1) := by
            have e : i = fs.length := by omega
            subst e
            rw [TG_end, List.append_nil] at hJ2
            exact hJ2
          subst hE
          refine at_rnd (k + 1, v2) (hl2.trans hl3) ?_ ?_ ⟨rfl, rfl, rfl, rfl, rfl, rfl, rfl, rfl, rfl,  trivial⟩ (.cons_cons _ (.cons_cons _ (.cons_cons _ .slnil)))
          · intro s9 hs9
            show k + 1 ≤ kn
            omega
          · dsimp only; omega
      · -- no
        refine cd_exit rfl ?_
        refine at_cd ?_
        refine cd_seq ?_
        have ek : kn = k := by omega
        subst ek
        refine cd_sr ?_
        refine ln_pv (pv_move rfl) rfl ?_
        refine ln_pv (pv_fieldAddr (off := 4) (r := 4) Tryd.underlying35 rfl (tiSl_spec_Tag).size rfl rfl rfl) rfl ?_
        refine ln_pv (pv_ldo (i := 2) rfl Tryd.underlying33 rfl rfl rfl) rfl ?_
        refine ln_callA en_155 rfl (fun u hu => spec_unknown u _ _ fs lf uc x.u (RS.mv hVf hu) (RFs.mv hFf hu) hT (by omega) (RS.mv hU1 hu) (RUs.mv hu hUs)) rfl (fun u13 v13 ht13 hR13 => ?_)
        have hVf := hVf.mv ht13
        have hFf := hFf.mv ht13
        have hx := hx.mv ht13
        have hS := hS.mv ht13
        have hU := hU.mv ht13
        have hU1 := hU1.mv ht13
        have hUs := hUs.mv ht13
        have hL := hL.mv ht13
        have hLs := hLs.mv ht13
        obtain ⟨uq, hq, hqs⟩ := hR13
        obtain ⟨adq, cq, rfl, hleq⟩ := hq.shape
        refine ln_pv (pv_len_slice Tryd.underlying33 rfl) rfl ?_
        refine ln_pv (pv_move rfl) rfl ?_
        refine ln_cd ?_
        refine cd_block ?_
        refine cd_row (i := 0) (m' := (((TGs fs v x kn) ++ ((unkn (known fs) x.u).take 0).map cut).flatMap tagB).length) (xs' := u8s (((TGs fs v x kn) ++ ((unkn (known fs) x.u).take 0).map cut).flatMap tagB)) rfl (by simp) (by simp) ?_
        refine cd_loop (⟨fun (z : Nat × Value) => [(9, vv), (10, z.2), (11, .int .i64 (((TGs fs v x kn) ++ ((unkn (known fs) x.u).take z.1).map cut).length : Int)), (100, .slice adq (unkn (known fs) x.u).length cq), (101, .int .i64 ((unkn (known fs) x.u).length : Int)), (102, .int .i64 ((z.1 : Nat) : Int))], fun (z : Nat × Value) => [.row z.2 5 1 (((TGs fs v x kn) ++ ((unkn (known fs) x.u).take z.1).map cut).flatMap tagB).length (u8s (((TGs fs v x kn) ++ ((unkn (known fs) x.u).take z.1).map cut).flatMap tagB)), .row vv 5 1 (plainB fs v true x 0).length (u8s (plainB fs v true x 0))], fun (z : Nat × Value) s => z.1 ≤ (unkn (known fs) x.u).length, fun (z : Nat × Value) => (unkn (known fs) x.u).length - z.1⟩ : Lp (Nat × Value)) (0, v1) ?_ ?_ ?_ ?_
        · intro s0 hs0
          exact Nat.zero_le _
        · exact ⟨rfl, rfl, (congrArg (fun q : Int => some (Value.int .i64 q)) (by simp)), rfl, rfl, rfl,  trivial⟩
        · exact (.cons_cons _ (.cons_cons _ (.cons _ .slnil)))
        intro z s4 hl4 hI
        obtain ⟨j, v3⟩ := z
        dsimp only at hI ⊢
        have hVf := hVf.mv hl4
        have hFf := hFf.mv hl4
        have hx := hx.mv hl4
        have hS := hS.mv hl4
        have hU := hU.mv hl4
        have hU1 := hU1.mv hl4
        have hUs := hUs.mv hl4
        have hL := hL.mv hl4
        have hLs := hLs.mv hl4
        have hq := hq.mv hl4
        have hqs := hqs.mv hl4
        have hun := hunl j hI
        refine cd_sr ?_
        refine ln_pv (pv_lss rfl rfl) rfl ?_
        refine ln_cd ?_
        refine cd_seq ?_
        refine cd_if rfl (fun hc4 => ?_) (fun hc4 => ?_)
        · -- yes
          refine cd_skip ?_
          refine at_cd ?_
          refine cd_seq ?_
          refine cd_block ?_
          have hj : j < (unkn (known fs) x.u).length := by omega
          obtain ⟨b0, o0, rfl, hrc⟩ := hq.pos (by omega) (by decide)
          obtain ⟨c1, tv, c3, he, hk, hkk, hTv⟩ := RUs.at_ hj hqs
          have hsub := hrc.sub (j * 2) he hk
          have hsn : ((TGs fs v x kn) ++ ((unkn (known fs) x.u).take (j + 1)).map cut) = ((TGs fs v x kn) ++ ((unkn (known fs) x.u).take j).map cut) ++ [((unkn (known fs) x.u)[j].1, (unkn (known fs) x.u)[j].2.take 32767)] := by rw [take_snoc' hj, List.map_append, ← List.append_assoc]; rfl
          have hun2 := hunl (j + 1) (by omega)
          rw [hsn, tags_snoc] at hun2
          simp only [List.length_append] at hun2
          refine cd_sr ?_
          refine ln_pv (pv_ixN Tryd.underlying33 tispec_Tag.size rfl rfl hj) rfl ?_
          refine ln_pv (pv_ldR hsub Tryd.underlying57 rfl (tispec_Tag).size rfl rfl) rfl ?_
          refine ln_alloc tispec_Tag rfl rfl (fun b4 => ?_)
          refine ln_storeW (i := 0) rfl rfl rfl rfl (tispec_Tag).size rfl (by simp [(RS.one hTv)]) ?_
          refine ln_cd ?_
          refine cd_sr ?_
          refine ln_pv (pv_fieldAddr (off := 1) (r := 1) Tryd.underlying57 rfl (tiSl_uint8).size rfl rfl rfl) rfl ?_
          refine ln_pv (pv_ldo (i := 0) rfl Tryd.underlying22 rfl rfl rfl) rfl ?_
          refine ln_callA en_156 rfl (fun u hu => spec_whole u _ _ (RSv.mv hTv hu)) rfl (fun u14 v14 ht14 hR14 => ?_)
          have hVf := hVf.mv ht14
          have hFf := hFf.mv ht14
          have hx := hx.mv ht14
          have hS := hS.mv ht14
          have hU := hU.mv ht14
          have hU1 := hU1.mv ht14
          have hUs := hUs.mv ht14
          have hL := hL.mv ht14
          have hLs := hLs.mv ht14
          have hq := hq.mv ht14
          have hqs := hqs.mv ht14
          have hTv := hTv.mv ht14
          obtain ⟨adr14, cr14, rfl, hler14⟩ := RS.shape hR14
          refine ln_pv (pv_assign rfl) rfl ?_
          refine ln_cd ?_
          refine cd_sr ?_
          refine ln_pv (pv_move rfl) rfl ?_
          refine ln_pv (pv_fieldAddr (off := 0) (r := 0) Tryd.underlying57 rfl (tiuint32).size rfl rfl rfl) rfl ?_
          refine ln_pv (pv_ldo (i := 0) rfl Tryd.underlying55 rfl rfl rfl) rfl ?_
          refine ln_pv (pv_conv' Tryd.underlying55 Tryd.underlying180 rfl (wrap_u64_in (by omega) (by omega))) rfl ?_
          refine ln_callA en_154 rfl (fun u hu => spec_Uvarint u (unkn (known fs) x.u)[j].1 (by omega)) rfl (fun u15 v15 ht15 hR15 => ?_)
          have hVf := hVf.mv ht15
          have hFf := hFf.mv ht15
          have hx := hx.mv ht15
          have hS := hS.mv ht15
          have hU := hU.mv ht15
          have hU1 := hU1.mv ht15
          have hUs := hUs.mv ht15
          have hL := hL.mv ht15
          have hLs := hLs.mv ht15
          have hq := hq.mv ht15
          have hqs := hqs.mv ht15
          have hTv := hTv.mv ht15
          have hR14 := hR14.mv ht15
          refine ln_append (i := 1) rfl Tryd.underlying22 tiuint8 rfl (by decide) rfl rfl (RS.src hR15) (by (try simp only [List.length_append, List.length_take, maxLen] at *); omega) (by (try simp only [List.length_append, List.length_take, maxLen] at *); omega) rfl (k' := (((TGs fs v x kn) ++ ((unkn (known fs) x.u).take j).map cut).flatMap tagB ++ uvar (unkn (known fs) x.u)[j].1).length) (xs' := u8s (((TGs fs v x kn) ++ ((unkn (known fs) x.u).take j).map cut).flatMap tagB ++ uvar (unkn (known fs) x.u)[j].1)) (by simp only [List.length_append]) (by simp only [u8s, List.map_append]) (fun v16 hv16 => ?_)
          refine ln_pv (pv_move rfl) rfl ?_
          refine ln_pv (pv_len_slice Tryd.underlying22 rfl) rfl ?_
          refine ln_pv (pv_conv' Tryd.underlying3 Tryd.underlying180 rfl (wrap_u64_in (by omega) (by simp only [List.length_take]; omega))) rfl ?_
          refine ln_callA en_154 rfl (fun u hu => spec_Uvarint u ((unkn (known fs) x.u)[j].2.take 32767).length (by simp only [List.length_take]; omega)) rfl (fun u17 v17 ht17 hR17 => ?_)
          have hVf := hVf.mv ht17
          have hFf := hFf.mv ht17
          have hx := hx.mv ht17
          have hS := hS.mv ht17
          have hU := hU.mv ht17
          have hU1 := hU1.mv ht17
          have hUs := hUs.mv ht17
          have hL := hL.mv ht17
          have hLs := hLs.mv ht17
          have hq := hq.mv ht17
          have hqs := hqs.mv ht17
          have hTv := hTv.mv ht17
          have hR14 := hR14.mv ht17
          have hR15 := hR15.mv ht17
          refine ln_append (i := 1) rfl Tryd.underlying22 tiuint8 rfl (by decide) rfl rfl (RS.src hR17) (by (try simp only [List.length_append, List.length_take, maxLen] at *); omega) (by (try simp only [List.length_append, List.length_take, maxLen] at *); omega) rfl (k' := (((TGs fs v x kn) ++ ((unkn (known fs) x.u).take j).map cut).flatMap tagB ++ uvar (unkn (known fs) x.u)[j].1 ++ uvar ((unkn (known fs) x.u)[j].2.take 32767).length).length) (xs' := u8s (((TGs fs v x kn) ++ ((unkn (known fs) x.u).take j).map cut).flatMap tagB ++ uvar (unkn (known fs) x.u)[j].1 ++ uvar ((unkn (known fs) x.u)[j].2.take 32767).length)) (by simp only [List.length_append]) (by simp only [u8s, List.map_append]) (fun v18 hv18 => ?_)
          refine ln_pv (pv_move rfl) rfl ?_
          refine ln_append (i := 1) rfl Tryd.underlying22 tiuint8 rfl (by decide) rfl rfl (RS.src hR14) (by (try simp only [List.length_append, List.length_take, maxLen] at *); omega) (by (try simp only [List.length_append, List.length_take, maxLen] at *); omega) rfl (k' := (((TGs fs v x kn) ++ ((unkn (known fs) x.u).take (j + 1)).map cut).flatMap tagB).length) (xs' := u8s (((TGs fs v x kn) ++ ((unkn (known fs) x.u).take (j + 1)).map cut).flatMap tagB)) (by rw [hsn, tags_snoc]; simp only [List.length_append]) (by rw [hsn, tags_snoc]; simp only [u8s, List.map_append]) (fun v19 hv19 => ?_)
          refine ln_pv (pv_assign rfl) rfl ?_
          refine ln_cd ?_
          refine cd_region ?_
          refine ln_pv (pv_move rfl) rfl ?_
          refine ln_pv (pv_add' rfl rfl (wrap_i64 (by omega) (by omega))) rfl ?_
          refine ln_pv (pv_assign rfl) rfl ?_
          refine ln_nil ?_
          refine at_cd ?_
          refine cd_region ?_
          refine ln_pv (pv_add' rfl rfl (wrap_succ (by omega))) rfl ?_
          refine ln_pv (pv_move rfl) rfl ?_
          refine ln_nil ?_
          refine at_rnd (j + 1, v19) (((hl4.trans ht14).trans ht15).trans ht17) ?_ ?_ ⟨rfl, rfl, (congrArg (fun q : Int => some (Value.int .i64 q)) (by rw [hsn]; simp; omega)), rfl, rfl, rfl,  trivial⟩ (.cons _ (.cons_cons _ (.cons_cons _ .slnil)))
          · intro s9 hs9
            show j + 1 ≤ _
            omega
          · dsimp only; omega
        · -- no
          refine cd_exit rfl ?_
          refine at_cd ?_
          have ej : j = (unkn (known fs) x.u).length := by omega
          subst ej
          have huv := uvar_length_le ((TGs fs v x kn) ++ ((unkn (known fs) x.u).take (unkn (known fs) x.u).length).map cut).length 9 (by omega)
          have hpl : (plainB fs v true x 0 ++ uvar ((TGs fs v x kn) ++ ((unkn (known fs) x.u).take (unkn (known fs) x.u).length).map cut).length).length = (plainB fs v true x 0).length + (uvar ((TGs fs v x kn) ++ ((unkn (known fs) x.u).take (unkn (known fs) x.u).length).map cut).length).length := List.length_append
          refine cd_sr ?_
          refine ln_pv (pv_move rfl) rfl ?_
          refine ln_pv (pv_move rfl) rfl ?_
          refine ln_pv (pv_conv' Tryd.underlying3 Tryd.underlying180 rfl (wrap_u64_in (by omega) (by omega))) rfl ?_
          refine ln_callA en_154 rfl (fun u hu => spec_Uvarint u ((TGs fs v x kn) ++ ((unkn (known fs) x.u).take (unkn (known fs) x.u).length).map cut).length (by omega)) rfl (fun u20 v20 ht20 hR20 => ?_)
          have hVf := hVf.mv ht20
          have hFf := hFf.mv ht20
          have hx := hx.mv ht20
          have hS := hS.mv ht20
          have hU := hU.mv ht20
          have hU1 := hU1.mv ht20
          have hUs := hUs.mv ht20
          have hL := hL.mv ht20
          have hLs := hLs.mv ht20
          have hq := hq.mv ht20
          have hqs := hqs.mv ht20
          refine ln_append (i := 1) rfl Tryd.underlying22 tiuint8 rfl (by decide) rfl rfl (RS.src hR20) (by first | omega | (simp only [maxLen]; omega)) (by first | omega | (simp only [maxLen]; omega)) rfl (k' := (plainB fs v true x 0 ++ uvar ((TGs fs v x kn) ++ ((unkn (known fs) x.u).take (unkn (known fs) x.u).length).map cut).length).length) (xs' := u8s (plainB fs v true x 0 ++ uvar ((TGs fs v x kn) ++ ((unkn (known fs) x.u).take (unkn (known fs) x.u).length).map cut).length)) (by simp only [List.length_append]) (by simp only [u8s, List.map_append]) (fun v21 hv21 => ?_)
          refine ln_pv (pv_move rfl) rfl ?_
          refine ln_append (i := 1) rfl Tryd.underlying22 tiuint8 rfl (by decide) rfl rfl (row_src (j := 0) rfl (u8s_one _)) (by first | omega | (simp only [maxLen]; omega)) (by first | omega | (simp only [maxLen]; omega)) rfl (k' := (plainB fs v true x 0 ++ uvar ((TGs fs v x kn) ++ ((unkn (known fs) x.u).take (unkn (known fs) x.u).length).map cut).length ++ ((TGs fs v x kn) ++ ((unkn (known fs) x.u).take (unkn (known fs) x.u).length).map cut).flatMap tagB).length) (xs' := u8s (plainB fs v true x 0 ++ uvar ((TGs fs v x kn) ++ ((unkn (known fs) x.u).take (unkn (known fs) x.u).length).map cut).length ++ ((TGs fs v x kn) ++ ((unkn (known fs) x.u).take (unkn (known fs) x.u).length).map cut).flatMap tagB)) (by simp only [List.length_append]) (by simp only [u8s, List.map_append]) (fun v22 hv22 => ?_)
          refine ln_pv (pv_assign rfl) rfl ?_
          refine ln_cd ?_
          refine cd_ret ?_
          refine at_retA rfl rfl (fun w hS => ?_)
          have e2 : partB fs v true x = plainB fs v true x 0 ++ uvar ((TGs fs v x kn) ++ ((unkn (known fs) x.u).take (unkn (known fs) x.u).length).map cut).length ++ ((TGs fs v x kn) ++ ((unkn (known fs) x.u).take (unkn (known fs) x.u).length).map cut).flatMap tagB := by
            rw [partB_true, show (known fs).toNat = kn by omega, List.take_length, List.append_assoc]
          rw [e2]
          exact row_rs hS (j := 1) rfl (u8s_one _)
theorem spec_part_n : ∀ (n : Nat) (fs : List Fld), SizeOf.sizeOf fs < n → okFs fs = true → fs.length < 1000000 → PartC fs
  | 0, _, h, _, _ => absurd h (by omega)
  | n + 1, fs, h, hok, hl => spec_part1 fs hok hl fun g hg => spec_field1 g (spec_part_n n g.sub (by
      have h1 := List.sizeOf_lt_of_mem hg
      cases g
      simp only [Fld.sub]
      simp only [Fld.mk.sizeOf_spec] at h1
      omega) (okF.sub (okFs.mem hok g hg)) (okF.len (okFs.mem hok g hg)))
theorem spec_part (fs : List Fld) (hok : okFs fs = true) (hl : fs.length < 1000000) : PartC fs := spec_part_n _ fs (Nat.lt_succ_self _) hok hl
end K
end Go.Proofs.YtjjfpdofkdolnaaDoor
