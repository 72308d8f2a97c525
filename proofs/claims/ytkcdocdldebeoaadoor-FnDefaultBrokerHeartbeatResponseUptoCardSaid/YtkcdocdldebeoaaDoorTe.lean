import Derived.Test.YtkcdocdldebeoaaDoorTd
set_option linter.unusedVariables false
set_option linter.unusedSimpArgs false
namespace Go.Proofs.YtkcdocdldebeoaaDoor
namespace K
open Go Go.Lib
def numK (k n : Int) : Int := if k = 0 then n % 2 else if k = 1 then IntKind.i8.wrap n else if k = 2 then IntKind.i16.wrap n else if k = 3 then IntKind.i32.wrap n else if k = 5 then IntKind.u16.wrap n else n
theorem spec_number (t : Vw) (k n : Int) (hn : I64 n) : CS Tryd.prog 30 [.int .i64 k, .int .i64 n] t (.int .i64 (numK k n)) := by
  refine CA.cs ?_
  refine ca_enter Tryd.func30 rfl Tryd.ntmps30 rfl ?_
  by_cases h0 : k = 0
  · skip
    refine cd_sr ?_
    refine ln_pv (pv_assign rfl) rfl ?_
    refine ln_cd ?_
    refine cd_seq ?_
    refine cd_sr ?_
    refine ln_pv (pv_move rfl) rfl ?_
    refine ln_cd ?_
    refine cd_block ?_
    refine cd_sr ?_
    refine ln_pv (pv_tt (pv_eql rfl rfl) h0) rfl ?_
    refine ln_pv (pv_assign rfl) rfl ?_
    refine ln_cd ?_
    refine cd_tt rfl ?_
    refine cd_sr ?_
    refine ln_pv (pv_move rfl) rfl ?_
    refine ln_pv (pv_and' rfl rfl (and1_i64 hn.1 hn.2)) rfl ?_
    refine ln_pv (pv_assign rfl) rfl ?_
    refine ln_cd ?_
    refine cd_ret ?_
    refine at_retA rfl rfl (fun w hS => ?_)
    simp [numK, h0]
  by_cases h1 : k = 1
  · skip
    refine cd_sr ?_
    refine ln_pv (pv_assign rfl) rfl ?_
    refine ln_cd ?_
    refine cd_seq ?_
    refine cd_sr ?_
    refine ln_pv (pv_move rfl) rfl ?_
    refine ln_cd ?_
    refine cd_block ?_
    refine cd_sr ?_
    refine ln_pv (pv_ff (pv_eql rfl rfl) h0) rfl ?_
    refine ln_pv (pv_assign rfl) rfl ?_
    refine ln_cd ?_
    refine cd_ff rfl ?_
    refine cd_sr ?_
    refine ln_pv (pv_tt (pv_eql rfl rfl) h1) rfl ?_
    refine ln_pv (pv_assign rfl) rfl ?_
    refine ln_cd ?_
    refine cd_tt rfl ?_
    refine cd_sr ?_
    refine ln_pv (pv_move rfl) rfl ?_
    refine ln_pv (pv_conv' Tryd.underlying2 Tryd.underlying90 rfl rfl) rfl ?_
    refine ln_pv (pv_conv' Tryd.underlying90 Tryd.underlying2 rfl (w64_i8 _)) rfl ?_
    refine ln_pv (pv_assign rfl) rfl ?_
    refine ln_cd ?_
    refine cd_ret ?_
    refine at_retA rfl rfl (fun w hS => ?_)
    simp [numK, h0, h1]
  by_cases h2 : k = 2
  · skip
    refine cd_sr ?_
    refine ln_pv (pv_assign rfl) rfl ?_
    refine ln_cd ?_
    refine cd_seq ?_
    refine cd_sr ?_
    refine ln_pv (pv_move rfl) rfl ?_
    refine ln_cd ?_
    refine cd_block ?_
    refine cd_sr ?_
    refine ln_pv (pv_ff (pv_eql rfl rfl) h0) rfl ?_
    refine ln_pv (pv_assign rfl) rfl ?_
    refine ln_cd ?_
    refine cd_ff rfl ?_
    refine cd_sr ?_
    refine ln_pv (pv_ff (pv_eql rfl rfl) h1) rfl ?_
    refine ln_pv (pv_assign rfl) rfl ?_
    refine ln_cd ?_
    refine cd_ff rfl ?_
    refine cd_sr ?_
    refine ln_pv (pv_tt (pv_eql rfl rfl) h2) rfl ?_
    refine ln_pv (pv_assign rfl) rfl ?_
    refine ln_cd ?_
    refine cd_tt rfl ?_
    refine cd_sr ?_
    refine ln_pv (pv_move rfl) rfl ?_
    refine ln_pv (pv_conv' Tryd.underlying2 Tryd.underlying49 rfl rfl) rfl ?_
    refine ln_pv (pv_conv' Tryd.underlying49 Tryd.underlying2 rfl (w64_i16 _)) rfl ?_
    refine ln_pv (pv_assign rfl) rfl ?_
    refine ln_cd ?_
    refine cd_ret ?_
    refine at_retA rfl rfl (fun w hS => ?_)
    simp [numK, h0, h1, h2]
  by_cases h3 : k = 3
  · skip
    refine cd_sr ?_
    refine ln_pv (pv_assign rfl) rfl ?_
    refine ln_cd ?_
    refine cd_seq ?_
    refine cd_sr ?_
    refine ln_pv (pv_move rfl) rfl ?_
    refine ln_cd ?_
    refine cd_block ?_
    refine cd_sr ?_
    refine ln_pv (pv_ff (pv_eql rfl rfl) h0) rfl ?_
    refine ln_pv (pv_assign rfl) rfl ?_
    refine ln_cd ?_
    refine cd_ff rfl ?_
    refine cd_sr ?_
    refine ln_pv (pv_ff (pv_eql rfl rfl) h1) rfl ?_
    refine ln_pv (pv_assign rfl) rfl ?_
    refine ln_cd ?_
    refine cd_ff rfl ?_
    refine cd_sr ?_
    refine ln_pv (pv_ff (pv_eql rfl rfl) h2) rfl ?_
    refine ln_pv (pv_assign rfl) rfl ?_
    refine ln_cd ?_
    refine cd_ff rfl ?_
    refine cd_sr ?_
    refine ln_pv (pv_tt (pv_eql rfl rfl) h3) rfl ?_
    refine ln_pv (pv_assign rfl) rfl ?_
    refine ln_cd ?_
    refine cd_tt rfl ?_
    refine cd_sr ?_
    refine ln_pv (pv_move rfl) rfl ?_
    refine ln_pv (pv_conv' Tryd.underlying2 Tryd.underlying21 rfl rfl) rfl ?_
    refine ln_pv (pv_conv' Tryd.underlying21 Tryd.underlying2 rfl (w64_i32 _)) rfl ?_
    refine ln_pv (pv_assign rfl) rfl ?_
    refine ln_cd ?_
    refine cd_ret ?_
    refine at_retA rfl rfl (fun w hS => ?_)
    simp [numK, h0, h1, h2, h3]
  by_cases h5 : k = 5
  · skip
    refine cd_sr ?_
    refine ln_pv (pv_assign rfl) rfl ?_
    refine ln_cd ?_
    refine cd_seq ?_
    refine cd_sr ?_
    refine ln_pv (pv_move rfl) rfl ?_
    refine ln_cd ?_
    refine cd_block ?_
    refine cd_sr ?_
    refine ln_pv (pv_ff (pv_eql rfl rfl) h0) rfl ?_
    refine ln_pv (pv_assign rfl) rfl ?_
    refine ln_cd ?_
    refine cd_ff rfl ?_
    refine cd_sr ?_
    refine ln_pv (pv_ff (pv_eql rfl rfl) h1) rfl ?_
    refine ln_pv (pv_assign rfl) rfl ?_
    refine ln_cd ?_
    refine cd_ff rfl ?_
    refine cd_sr ?_
    refine ln_pv (pv_ff (pv_eql rfl rfl) h2) rfl ?_
    refine ln_pv (pv_assign rfl) rfl ?_
    refine ln_cd ?_
    refine cd_ff rfl ?_
    refine cd_sr ?_
    refine ln_pv (pv_ff (pv_eql rfl rfl) h3) rfl ?_
    refine ln_pv (pv_assign rfl) rfl ?_
    refine ln_cd ?_
    refine cd_ff rfl ?_
    refine cd_sr ?_
    refine ln_pv (pv_tt (pv_eql rfl rfl) h5) rfl ?_
    refine ln_pv (pv_assign rfl) rfl ?_
    refine ln_cd ?_
    refine cd_tt rfl ?_
    refine cd_sr ?_
    refine ln_pv (pv_move rfl) rfl ?_
    refine ln_pv (pv_conv' Tryd.underlying2 Tryd.underlying91 rfl rfl) rfl ?_
    refine ln_pv (pv_conv' Tryd.underlying91 Tryd.underlying2 rfl (w64_u16 _)) rfl ?_
    refine ln_pv (pv_assign rfl) rfl ?_
    refine ln_cd ?_
    refine cd_ret ?_
    refine at_retA rfl rfl (fun w hS => ?_)
    simp [numK, h0, h1, h2, h3, h5]
  refine cd_sr ?_
  refine ln_pv (pv_assign rfl) rfl ?_
  refine ln_cd ?_
  refine cd_seq ?_
  refine cd_sr ?_
  refine ln_pv (pv_move rfl) rfl ?_
  refine ln_cd ?_
  refine cd_block ?_
  refine cd_sr ?_
  refine ln_pv (pv_ff (pv_eql rfl rfl) h0) rfl ?_
  refine ln_pv (pv_assign rfl) rfl ?_
  refine ln_cd ?_
  refine cd_ff rfl ?_
  refine cd_sr ?_
  refine ln_pv (pv_ff (pv_eql rfl rfl) h1) rfl ?_
  refine ln_pv (pv_assign rfl) rfl ?_
  refine ln_cd ?_
  refine cd_ff rfl ?_
  refine cd_sr ?_
  refine ln_pv (pv_ff (pv_eql rfl rfl) h2) rfl ?_
  refine ln_pv (pv_assign rfl) rfl ?_
  refine ln_cd ?_
  refine cd_ff rfl ?_
  refine cd_sr ?_
  refine ln_pv (pv_ff (pv_eql rfl rfl) h3) rfl ?_
  refine ln_pv (pv_assign rfl) rfl ?_
  refine ln_cd ?_
  refine cd_ff rfl ?_
  refine cd_sr ?_
  refine ln_pv (pv_ff (pv_eql rfl rfl) h5) rfl ?_
  refine ln_pv (pv_assign rfl) rfl ?_
  refine ln_cd ?_
  refine cd_ff rfl ?_
  refine cd_skip ?_
  refine at_cd ?_
  refine cd_sr ?_
  refine ln_pv (pv_move rfl) rfl ?_
  refine ln_pv (pv_assign rfl) rfl ?_
  refine ln_cd ?_
  refine cd_ret ?_
  refine at_retA rfl rfl (fun w hS => ?_)
  simp [numK, h0, h1, h2, h3, h5]
theorem bool_tree (t : Vw) (b : Bool) : CA Tryd.prog 55 [.bool b] t fun u r => r = .agg [.int .i64 (if b then 1 else 0), .slice none 0 0, .bool false, .slice none 0 0, .slice none 0 0].toArray := by
  refine ca_enter Tryd.func55 rfl Tryd.ntmps55 rfl ?_
  cases b with
  | false =>
    refine cd_sr ?_
    refine ln_alloc tiimpl_Tree rfl rfl (fun b1 => ?_)
    refine ln_cd ?_
    refine cd_seq ?_
    refine cd_sr ?_
    refine ln_pv (pv_move rfl) rfl ?_
    refine ln_cd ?_
    refine cd_ff rfl ?_
    refine cd_skip ?_
    refine at_cd ?_
    refine cd_sr ?_
    refine ln_pv (pv_struct [(0, 1), (1, 1), (2, 1), (3, 1), (4, 1)] (l := [_, _, _, _, _]) rfl Tryd.underlying37 tiimpl_Tree (by kernel_rfl) rfl rfl) rfl ?_
    refine ln_storeW (i := 0) rfl rfl rfl rfl (tiimpl_Tree).size rfl (by simp []) ?_
    refine ln_cd ?_
    refine cd_ret ?_
    refine at_retC (i := 0) rfl rfl rfl Tryd.underlying37 rfl tiimpl_Tree.size rfl (fun w hS => ?_)
    rfl
  | true =>
    refine cd_sr ?_
    refine ln_alloc tiimpl_Tree rfl rfl (fun b1 => ?_)
    refine ln_cd ?_
    refine cd_seq ?_
    refine cd_sr ?_
    refine ln_pv (pv_move rfl) rfl ?_
    refine ln_cd ?_
    refine cd_tt rfl ?_
    refine cd_sr ?_
    refine ln_pv (pv_struct [(0, 1), (1, 1), (2, 1), (3, 1), (4, 1)] (l := [_, _, _, _, _]) rfl Tryd.underlying37 tiimpl_Tree (by kernel_rfl) rfl rfl) rfl ?_
    refine ln_storeW (i := 0) rfl rfl rfl rfl (tiimpl_Tree).size rfl (by simp []) ?_
    refine ln_cd ?_
    refine cd_ret ?_
    refine at_retC (i := 0) rfl rfl rfl Tryd.underlying37 rfl tiimpl_Tree.size rfl (fun w hS => ?_)
    rfl
theorem spec_Defaults (fs : List Fld) (hId : ∀ g ∈ fs, I64 g.dflt) (hlen : fs.length < 1000000) (t : Vw) (vf : Value) (lc cs : List Value) (x : Tre) (hVf : RS t 8 vf fs.length lc) (hFf : RFs t fs lc) (hx : RT t x cs) (hD : ∀ i, (hi : i < fs.length) → ¬ fs[i].dflt = 0 → (x.at_ i).n = numK fs[i].kind fs[i].dflt) : CS Tryd.prog 12 [vf, .agg cs.toArray] t (.bool true) := by
  obtain ⟨sS, sL, sU, rfl, hn, hS, ⟨lcx, hL, hLs⟩, hU⟩ := hx.open
  obtain ⟨adS, cS, rfl, hleS⟩ := hS.shape
  obtain ⟨adL, cL, rfl, hleL⟩ := hL.shape
  obtain ⟨adf, cf, rfl, hlef⟩ := hVf.shape
  refine CA.cs ?_
  refine ca_enter Tryd.func12 rfl Tryd.ntmps12 rfl ?_
  refine cd_sr ?_
  refine ln_box rfl rfl rfl (fun b1 => ?_)
  refine ln_pv (pv_assign rfl) rfl ?_
  refine ln_cd ?_
  refine cd_seq ?_
  refine cd_sr ?_
  refine ln_pv (pv_move rfl) rfl ?_
  refine ln_pv (pv_len_slice Tryd.underlying29 rfl) rfl ?_
  refine ln_pv (pv_move rfl) rfl ?_
  refine ln_cd ?_
  refine cd_block ?_
  refine cd_loop (⟨fun (z : Nat) => [(3, .pointer (some ⟨b1, 0, none⟩)), (7, .slice adf fs.length cf), (8, .int .i64 (fs.length : Int)), (9, .int .i64 ((z : Nat) : Int))], fun (z : Nat) => [.obj b1 (.cells [.int .i64 x.n, .slice adS x.s.length cS, .bool x.z, .slice adL x.l.length cL, sU].toArray 26)], fun (z : Nat) s => z ≤ fs.length, fun (z : Nat) => fs.length - z⟩ : Lp (Nat)) 0 ?_ ?_ ?_ ?_
  · intro s0 hs0
    exact Nat.zero_le _
  · exact ⟨rfl, rfl, rfl, rfl,  trivial⟩
  · exact (.cons_cons _ .slnil)
  intro i s1 hl1 hI
  dsimp only at hI ⊢
  have hx := hx.mv hl1
  have hVf := hVf.mv hl1
  have hFf := hFf.mv hl1
  refine cd_sr ?_
  refine ln_pv (pv_lss rfl rfl) rfl ?_
  refine ln_cd ?_
  refine cd_seq ?_
  refine cd_if rfl (fun hc1 => ?_) (fun hc1 => ?_)
  · -- yes
    refine cd_skip ?_
    refine at_cd ?_
    refine cd_seq ?_
    refine cd_block ?_
    have hi : i < fs.length := by omega
    obtain ⟨b0, o0, rfl, hrc⟩ := hVf.pos (by omega) (by decide)
    obtain ⟨c1, c2, c3, he, hk, hr⟩ := RFs.at_ hi hFf
    have hsub := hrc.sub (i * 8) he hk
    obtain ⟨svf, rfl, lf2, hVf2, hFf2⟩ := hr.open
    refine cd_sr ?_
    refine ln_pv (pv_move rfl) rfl ?_
    refine ln_pv (pv_ixN Tryd.underlying29 tispec_Field.size rfl rfl hi) rfl ?_
    refine ln_pv (pv_ldR hsub Tryd.underlying54 rfl tispec_Field.size rfl rfl) rfl ?_
    refine ln_alloc tispec_Field rfl rfl (fun b2 => ?_)
    refine ln_pv (pv_assign rfl) rfl ?_
    refine ln_storeW (i := 0) rfl rfl rfl rfl (tispec_Field).size rfl (by simp [(RS.one hVf2)]) ?_
    refine ln_cd ?_
    by_cases hd : fs[i].dflt = 0
    · skip
      refine cd_dr' [0, 1] [0, 1, 2, 3, 4, 5, 7, 8, 9, 10, 11, 13, 14] [0, 1, 2, 3, 4, 5, 8, 9, 10, 11, 6, 7, 12, 13, 14] mixed (by kernel_rfl) ?_
      refine lo_pv rfl rfl (sk_js (Tr.refl _) [0, 1] rfl) (pv_fieldAddr (off := 5) (r := 5) Tryd.underlying54 rfl (tiint64).size rfl rfl rfl) rfl ?_
      refine lo_pv rfl rfl (sk_js (Tr.refl _) [0, 1] rfl) (pv_ldo (i := 0) rfl Tryd.underlying2 rfl rfl rfl) rfl ?_
      refine lo_pv rfl rfl (sk_js (Tr.refl _) [0, 1] rfl) (pv_ff (pv_neq rfl rfl) (fun q => q hd)) rfl ?_
      refine lo_pv rfl rfl (sk_js (Tr.refl _) [0, 1] rfl) (pv_move rfl) rfl ?_
      refine lo_gf rfl rfl (sk_js (Tr.refl _) [0, 1] rfl) rfl rfl rfl rfl rfl ?_
      refine lo_gf rfl rfl (sk_js (Tr.refl _) [0, 1] rfl) rfl rfl rfl rfl rfl ?_
      refine lo_gf rfl rfl (sk_js (Tr.refl _) [0, 1] rfl) rfl rfl rfl rfl rfl ?_
      refine lo_gf rfl rfl (sk_js (Tr.refl _) [0, 1] rfl) rfl rfl rfl rfl rfl ?_
      refine lo_gf rfl rfl (sk_js (Tr.refl _) [0, 1] rfl) rfl rfl rfl rfl rfl ?_
      refine lo_gf rfl rfl (sk_js (Tr.refl _) [0, 1] rfl) rfl rfl rfl rfl rfl ?_
      refine lo_ef rfl rfl (fun _ => sk_js (Tr.refl _) [0, 1] rfl) rfl rfl rfl rfl rfl ?_
      refine lo_gf rfl rfl (sk_js (Tr.refl _) [0, 1] rfl) rfl rfl rfl rfl rfl ?_
      refine lo_ef rfl rfl (fun _ => sk_js (Tr.refl _) [0, 1] rfl) rfl rfl rfl rfl rfl ?_
      refine lo_gf rfl rfl (sk_js (Tr.refl _) [0, 1] rfl) rfl rfl rfl rfl rfl ?_
      refine lo_pv rfl rfl (sk_js (Tr.refl _) [0, 1] rfl) (pv_pick rfl (fun _ => rfl) (fun _ => rfl)) rfl ?_
      refine lo_cd ?_
      refine cd_ff rfl ?_
      refine cd_skip ?_
      refine at_cd ?_
      refine cd_region ?_
      refine ln_pv (pv_add' rfl rfl (wrap_succ (by omega))) rfl ?_
      refine ln_pv (pv_move rfl) rfl ?_
      refine ln_nil ?_
      refine at_rnd (i + 1) hl1 ?_ ?_ ⟨rfl, rfl, rfl, rfl,  trivial⟩ (.cons _ (.cons_cons _ .slnil))
      · intro s9 hs9
        show i + 1 ≤ _
        omega
      · dsimp only; omega
    · skip
      refine cd_dr' [0, 1] [0, 1, 2, 3, 4, 5, 7, 8, 9, 10, 11, 13, 14] [0, 1, 2, 3, 4, 5, 8, 9, 10, 11, 6, 7, 12, 13, 14] mixed (by kernel_rfl) ?_
      refine lo_pv rfl rfl (sk_js (Tr.refl _) [0, 1] rfl) (pv_fieldAddr (off := 5) (r := 5) Tryd.underlying54 rfl (tiint64).size rfl rfl rfl) rfl ?_
      refine lo_pv rfl rfl (sk_js (Tr.refl _) [0, 1] rfl) (pv_ldo (i := 0) rfl Tryd.underlying2 rfl rfl rfl) rfl ?_
      refine lo_pv rfl rfl (sk_js (Tr.refl _) [0, 1] rfl) (pv_tt (pv_neq rfl rfl) hd) rfl ?_
      refine lo_pv rfl rfl (sk_js (Tr.refl _) [0, 1] rfl) (pv_move rfl) rfl ?_
      refine lo_gt rfl rfl (sk_js (Tr.refl _) [0, 1] rfl) rfl rfl rfl (pv_ldO (i := 1) rfl Tryd.underlying26 rfl (tispec_Tree).size rfl rfl) rfl ?_
      refine lo_gt rfl rfl (sk_js (Tr.refl _) [0, 1] rfl) rfl rfl rfl (pv_move rfl) rfl ?_
      refine lo_gt rfl rfl (sk_js (Tr.refl _) [0, 1] rfl) rfl rfl rfl (pv_fieldAddr (off := 0) (r := 0) Tryd.underlying54 rfl (tiint).size rfl rfl rfl) rfl ?_
      refine lo_gt rfl rfl (sk_js (Tr.refl _) [0, 1] rfl) rfl rfl rfl (pv_ldo (i := 0) rfl Tryd.underlying3 rfl rfl rfl) rfl ?_
      refine lo_gt rfl rfl (sk_js (Tr.refl _) [0, 1] rfl) rfl rfl rfl (pv_fieldAddr (off := 5) (r := 5) Tryd.underlying54 rfl (tiint64).size rfl rfl rfl) rfl ?_
      refine lo_gt rfl rfl (sk_js (Tr.refl _) [0, 1] rfl) rfl rfl rfl (pv_ldo (i := 0) rfl Tryd.underlying2 rfl rfl rfl) rfl ?_
      refine lo_eff rfl rfl ?_
      refine ln_gE rfl rfl rfl ?_
      refine ln_callA en_29 rfl (fun u hu => spec_at u x _ i (RT.mv hx hu)) rfl (fun u1 v1 ht1 hR1 => ?_)
      have hx := hx.mv ht1
      have hVf := hVf.mv ht1
      have hFf := hFf.mv ht1
      have hVf2 := hVf2.mv ht1
      obtain ⟨ds, rfl, hds⟩ := hR1
      obtain ⟨qS, qL, qU, rfl, hqn, hqS, hqL, hqU⟩ := hds.open
      refine lo_back (sk_js ht1 [0, 1] rfl) ?_
      refine lo_gt rfl rfl (sk_js ht1 [0, 1] rfl) rfl rfl rfl (pv_field1 Tryd.underlying26 rfl Tryd.underlying2 rfl rfl rfl) rfl ?_
      refine lo_eff rfl rfl ?_
      refine ln_gE rfl rfl rfl ?_
      refine ln_callS en_30 rfl (fun u hu => spec_number u _ _ (hId _ (List.getElem_mem hi))) rfl ?_
      refine lo_back (sk_js ht1 [0, 1] rfl) ?_
      refine lo_gt rfl rfl (sk_js ht1 [0, 1] rfl) rfl rfl rfl (pv_ff (pv_neq rfl rfl) (fun q => q (hD i hi hd))) rfl ?_
      refine lo_pv rfl rfl (sk_js ht1 [0, 1] rfl) (pv_pick rfl (fun _ => rfl) (fun _ => rfl)) rfl ?_
      refine lo_cd ?_
      refine cd_ff rfl ?_
      refine cd_skip ?_
      refine at_cd ?_
      refine cd_region ?_
      refine ln_pv (pv_add' rfl rfl (wrap_succ (by omega))) rfl ?_
      refine ln_pv (pv_move rfl) rfl ?_
      refine ln_nil ?_
      refine at_rnd (i + 1) (hl1.trans ht1) ?_ ?_ ⟨rfl, rfl, rfl, rfl,  trivial⟩ (.cons _ (.cons_cons _ .slnil))
      · intro s9 hs9
        show i + 1 ≤ _
        omega
      · dsimp only; omega
  · -- no
    refine cd_exit rfl ?_
    refine at_cd ?_
    refine cd_sr ?_
    refine ln_pv (pv_assign rfl) rfl ?_
    refine ln_cd ?_
    refine cd_ret ?_
    refine at_retA rfl rfl (fun w hS => ?_)
    rfl
theorem at_retCA2 {P : Program} {n : Nat} {L : Env} {H : Hp} {s : Vw} {fn : Func} {t : Vw} {R : Vw → Value → Prop} {q q2 i b sz : Nat} {rt e : TypeId} {l : List Value} {v2 : Value} {dd : TypeDesc} (hr : fn.results = #[.cell q rt, .tmp q2]) (hv : lk L q = some (.pointer (some ⟨b, 0, none⟩))) (hv2 : lk L q2 = some v2) (hi : H[i]? = some (.obj b (.cells l.toArray e)))
    (hd : P.underlying rt = some dd) (hna : (match dd with | .struct _ | .array _ _ => true | _ => false) = true) (hsz : (P.info? rt).map (·.size) = some sz) (hl : l.length = sz)
    (h : ∀ w, ∀ hS : St ⟨t, No⟩ s H w, R hS.fin (.tuple #[.agg l.toArray, v2])) : At (rpA P fn t R) n L H ⟨t, No⟩ s := fun a w hF hS => by
  refine ⟨hF.df, .tuple #[.agg l.toArray, v2], ?_, hS.fin.lt, hS.whole, h w hS⟩
  have hb := hS.sk.obj hi
  have hg := hF.get q _ hv
  have hg2 := hF.get q2 _ hv2
  have hrun := run_loadA (P := P) (w := w) (b := b) (o := 0) hd hna hsz hl (fun j v hj => cell_of_list hb _ (by simpa using hj))
  simp [results, hr, hg, hg2, asAddr, hrun, Result.andThen]
theorem imU_facts {fs : List Fld} (q : Bool) {u : Tags} (hk : ∀ y ∈ u, y.1 < 4294967296) : (imU fs q u).Pairwise (fun x z => x.1 < z.1) ∧ (∀ z ∈ imU fs q u, z.1 < 4294967296) ∧ (∀ z ∈ imU fs q u, z.2.length ≤ 4398046511104) ∧ (imU fs q u).length ≤ 32767 := by
  unfold imU
  cases q with
  | false => simp
  | true =>
    refine ⟨srt_cut (unkn_sorted _ _), fun z hz => ?_, fun z hz => ?_, ?_⟩
    · obtain ⟨y, hy, rfl⟩ := List.mem_map.1 hz
      exact hk y (unkn_mem hy).1
    · obtain ⟨y, hy, rfl⟩ := List.mem_map.1 hz
      simp only [cut, List.length_take]
      omega
    · have := unkn_le (known fs) u
      simpa using this
theorem smT_num {l : List Int} {u : Tags} (hl : l.length < 1000) (hu : u.length ≤ 32767) : smT (.mk 0 [] false (l.map fun n => .mk n [] false [] []) u) := by
  have h : ∀ l : List Int, smTs (l.map fun n => .mk n [] false [] []) := by
    intro l
    induction l with
    | nil => simp [smTs]
    | cons n r ih => exact ⟨by simp [smT, smTs], ih⟩
  exact ⟨by simp, by simp; omega, by omega, h l⟩
end K
end Go.Proofs.YtkcdocdldebeoaaDoor
