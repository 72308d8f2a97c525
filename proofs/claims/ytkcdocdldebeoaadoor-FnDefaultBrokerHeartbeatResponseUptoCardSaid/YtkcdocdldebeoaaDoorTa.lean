import Derived.Test.YtkcdocdldebeoaaDoorS10
set_option linter.unusedVariables false
set_option linter.unusedSimpArgs false
namespace Go.Proofs.YtkcdocdldebeoaaDoor
namespace K
open Go Go.Lib
def GotC (x : Tre) : Prop := ∀ (t : Vw) (cs : List Value), RT t x cs → smT x → CA Tryd.prog 13 [.agg cs.toArray] t fun u r => ∃ ds, r = .agg ds.toArray ∧ RT u x ds
theorem laws_got1 (x : Tre) (ih : ∀ y ∈ x.l, GotC y) : GotC x := by
  intro t cs hx hsm
  obtain ⟨sS, sL, sU, rfl, hn, hS, ⟨lc, hL, hLs⟩, hU⟩ := hx.open
  obtain ⟨adS, cS, rfl, hleS⟩ := hS.shape
  obtain ⟨adL, cL, rfl, hleL⟩ := hL.shape
  have hU0 := hU
  obtain ⟨uc, hU1, hUs⟩ := hU0
  obtain ⟨hz1, hz2, hz3, hz4⟩ := hsm.open
  obtain ⟨adU, cU, rfl, hleU⟩ := hU1.shape
  refine ca_enter Tryd.func13 rfl Tryd.ntmps13 rfl ?_
  refine cd_sr ?_
  refine ln_box rfl rfl rfl (fun b1 => ?_)
  refine ln_alloc tispec_Tree rfl rfl (fun b2 => ?_)
  refine ln_cd ?_
  refine cd_sr ?_
  refine ln_pv (pv_fieldAddr (off := 0) (r := 0) Tryd.underlying37 rfl (tiint64).size rfl rfl rfl) rfl ?_
  refine ln_pv (pv_ldo (i := 1) rfl Tryd.underlying2 rfl rfl rfl) rfl ?_
  refine ln_pv (pv_fieldAddr (off := 1) (r := 1) Tryd.underlying37 rfl (tiSl_uint8).size rfl rfl rfl) rfl ?_
  refine ln_pv (pv_ldo (i := 1) rfl Tryd.underlying22 rfl rfl rfl) rfl ?_
  refine ln_pv (pv_fieldAddr (off := 2) (r := 2) Tryd.underlying37 rfl (tibool).size rfl rfl rfl) rfl ?_
  refine ln_pv (pv_ldo (i := 1) rfl Tryd.underlying4 rfl rfl rfl) rfl ?_
  refine ln_pv (pv_struct [(0, 1), (1, 1), (2, 1), (3, 1), (4, 1)] (l := [_, _, _, _, _]) rfl Tryd.underlying26 tispec_Tree (by kernel_rfl) rfl (by simp [okL, Nat.ble_eq, Value.cells, (RS.one hS)])) rfl ?_
  refine ln_alloc tispec_Tree rfl rfl (fun b3 => ?_)
  refine ln_storeW (i := 0) rfl rfl rfl rfl (tispec_Tree).size rfl (by simp [(RS.one hS)]) ?_
  refine ln_cd ?_
  refine cd_seq ?_
  refine cd_nilrow 26 5 ?_
  refine cd_sr ?_
  refine ln_pv (pv_fieldAddr (off := 3) (r := 3) Tryd.underlying37 rfl (tiSl_impl_Tree).size rfl rfl rfl) rfl ?_
  refine ln_pv (pv_ldo (i := 3) rfl Tryd.underlying34 rfl rfl rfl) rfl ?_
  refine ln_pv (pv_len_slice Tryd.underlying34 rfl) rfl ?_
  refine ln_pv (pv_move rfl) rfl ?_
  refine ln_cd ?_
  refine cd_block ?_
  refine cd_loop (⟨fun (z : Nat × List Value × Value) => [(1, .pointer (some ⟨b1, 0, none⟩)), (2, .pointer (some ⟨b2, 0, none⟩)), (3, .pointer (some ⟨b3, 0, none⟩)), (16, .slice adL x.l.length cL), (17, .int .i64 (x.l.length : Int)), (18, .int .i64 ((z.1 : Nat) : Int))], fun (z : Nat × List Value × Value) => [.row z.2.2 26 5 (x.l.take z.1).length (z.2.1), .obj b3 (.cells [.int .i64 x.n, .slice adS x.s.length cS, .bool x.z, z.2.2, .slice none 0 0].toArray 26), .obj b2 (.cells [.int .i64 0, .slice none 0 0, .bool false, .slice none 0 0, .slice none 0 0].toArray 26), .obj b1 (.cells [.int .i64 x.n, .slice adS x.s.length cS, .bool x.z, .slice adL x.l.length cL, .slice adU x.u.length cU].toArray 37)], fun (z : Nat × List Value × Value) s => z.1 ≤ x.l.length ∧ RTs s (x.l.take z.1) z.2.1, fun (z : Nat × List Value × Value) => x.l.length - z.1⟩ : Lp (Nat × List Value × Value)) (0, [], .slice none 0 0) ?_ ?_ ?_ ?_
  · intro s0 hs0
    exact ⟨Nat.zero_le _, rfl⟩
  · exact ⟨rfl, rfl, rfl, rfl, rfl, rfl,  trivial⟩
  · exact (.cons_cons _ (.cons_cons _ (.cons_cons _ (.cons_cons _ .slnil))))
  intro z s1 hl1 hI
  obtain ⟨i, ys, vv⟩ := z
  dsimp only at hI ⊢
  have hx := hx.mv hl1
  have hS := hS.mv hl1
  have hU := hU.mv hl1
  have hU1 := hU1.mv hl1
  have hUs := hUs.mv hl1
  have hL := hL.mv hl1
  have hLs := hLs.mv hl1
  obtain ⟨hI, hIr⟩ := hI
  refine cd_sr ?_
  refine ln_pv (pv_lss rfl rfl) rfl ?_
  refine ln_cd ?_
  refine cd_seq ?_
  refine cd_if rfl (fun hc1 => ?_) (fun hc1 => ?_)
  · -- yes
    refine cd_skip ?_
    refine at_cd ?_
    refine cd_seq ?_
    refine cd_block ?_
    have hi : i < x.l.length := by omega
    obtain ⟨b0, o0, rfl, hrc⟩ := hL.pos (by omega) (by decide)
    obtain ⟨c1, c2, c3, he, hk, hr⟩ := RTs.at_ hi hLs
    have hsub := hrc.sub (i * 5) he hk
    have hsl : (x.l.take (i + 1)).length = (x.l.take i).length + 1 := by simp only [List.length_take]; omega
    have hil : (x.l.take i).length = i := by rw [List.length_take]; omega
    refine cd_sr ?_
    refine ln_pv (pv_ixN Tryd.underlying34 tiimpl_Tree.size rfl rfl hi) rfl ?_
    refine ln_pv (pv_ldR hsub Tryd.underlying37 rfl tiimpl_Tree.size rfl hr.len) rfl ?_
    refine ln_alloc tiimpl_Tree rfl rfl (fun b4 => ?_)
    refine ln_storeW (i := 0) rfl rfl rfl rfl (tiimpl_Tree).size hr.len hr.cells ?_
    refine ln_cd ?_
    refine cd_draw' [0, 2, 3, 4] [0, 1, 2, 6] [0, 1, 2, 3, 4, 5, 6, 7] mixed (by kernel_rfl) ?_
    refine lo_pv rfl rfl (sk_js (Tr.refl _) [0, 2, 3, 4] rfl) (pv_fieldAddr (off := 3) (r := 3) Tryd.underlying26 rfl (tiSl_spec_Tree).size rfl rfl rfl) rfl ?_
    refine lo_pv rfl rfl (sk_js (Tr.refl _) [0, 2, 3, 4] rfl) (pv_ldo (i := 1) rfl Tryd.underlying23 rfl rfl rfl) rfl ?_
    refine lo_pv rfl rfl (sk_js (Tr.refl _) [0, 2, 3, 4] rfl) (pv_ldO (i := 0) rfl Tryd.underlying37 rfl (tiimpl_Tree).size rfl hr.len) rfl ?_
    refine lo_eff rfl rfl ?_
    refine ln_callA en_13 rfl (fun u hu => ih _ (List.getElem_mem hi) u _ (RT.mv hr hu) (smTs.mem hz4 _ (List.getElem_mem hi))) rfl (fun u1 v1 ht1 hR1 => ?_)
    have hx := hx.mv ht1
    have hS := hS.mv ht1
    have hU := hU.mv ht1
    have hU1 := hU1.mv ht1
    have hUs := hUs.mv ht1
    have hL := hL.mv ht1
    have hLs := hLs.mv ht1
    have hIr := hIr.mv ht1
    have hr := hr.mv ht1
    obtain ⟨dsF, rfl, hdsF⟩ := hR1
    refine lo_back (sk_js ht1 [0, 2, 3, 4] rfl) ?_
    refine lo_eff rfl rfl ?_
    refine ln_lit (vs := [_]) Tryd.underlying23 tispec_Tree rfl (by decide) rfl rfl rfl (by simp [partsOk, Value.cells, hdsF.len]; try exact .inl rfl) rfl rfl (fun b5 => ?_)
    refine lo_back (sk_js ht1 [1, 3, 4, 5] rfl) ?_
    refine lo_eff rfl rfl ?_
    refine ln_append (i := 2) rfl Tryd.underlying23 tispec_Tree rfl (by decide) rfl rfl (src_obj (j := 0) rfl (by simp [flat, Value.cells, hdsF.len]) (List.all_eq_true.2 (by simpa [flat, Value.cells] using hdsF.cells))) (by rw [hil]; first | omega | (simp only [maxLen]; omega)) (by rw [hil]; first | omega | (simp only [maxLen]; omega)) rfl (k' := (x.l.take (i + 1)).length) (xs' := ys ++ dsF) hsl.symm (by simp [flat, Value.cells]) (fun v2 hv2 => ?_)
    refine lo_back (sk_js ht1 [1, 3, 4, 5] rfl) ?_
    refine lo_pv rfl rfl (sk_js ht1 [1, 3, 4, 5] rfl) (pv_fieldAddr (off := 3) (r := 3) Tryd.underlying26 rfl (tiSl_spec_Tree).size rfl rfl rfl) rfl ?_
    refine lo_eff rfl rfl ?_
    refine ln_store1 (i := 3) rfl rfl rfl hv2.2 (tiSl_spec_Tree).size rfl ?_
    refine lo_last (by kernel_rfl) ?_
    refine lo_nil ?_
    refine at_cd ?_
    refine cd_region ?_
    refine ln_pv (pv_add' rfl rfl (wrap_succ (by omega))) rfl ?_
    refine ln_pv (pv_move rfl) rfl ?_
    refine ln_nil ?_
    refine at_rnd (i + 1, ys ++ dsF, v2) (hl1.trans ht1) ?_ ?_ ⟨rfl, rfl, rfl, rfl, rfl, rfl,  trivial⟩ (.cons _ (.cons _ (.cons_cons _ (.cons_cons _ (.cons_cons _ (.cons_cons _ .slnil))))))
    · intro s9 hs9
      exact ⟨by dsimp only; omega, by rw [take_snoc' hi]; exact RTs.append (RTs.mv hIr hs9) (RTs.one (RT.mv hdsF hs9))⟩
    · dsimp only; omega
  · -- no
    refine cd_exit rfl ?_
    refine at_cd ?_
    refine cd_seq ?_
    refine cd_nilrow 66 2 ?_
    refine cd_sr ?_
    refine ln_pv (pv_fieldAddr (off := 4) (r := 4) Tryd.underlying37 rfl (tiSl_impl_Tag).size rfl rfl rfl) rfl ?_
    refine ln_pv (pv_ldo (i := 4) rfl Tryd.underlying35 rfl rfl rfl) rfl ?_
    refine ln_pv (pv_len_slice Tryd.underlying35 rfl) rfl ?_
    refine ln_pv (pv_move rfl) rfl ?_
    refine ln_cd ?_
    refine cd_block ?_
    refine cd_loop (⟨fun (z : Nat × List Value × Value) => [(2, .pointer (some ⟨b2, 0, none⟩)), (3, .pointer (some ⟨b3, 0, none⟩)), (31, .slice adU x.u.length cU), (32, .int .i64 (x.u.length : Int)), (33, .int .i64 ((z.1 : Nat) : Int))], fun (z : Nat × List Value × Value) => [.row z.2.2 66 2 (x.u.take z.1).length (z.2.1), .row vv 26 5 (x.l.take i).length (ys), .obj b3 (.cells [.int .i64 x.n, .slice adS x.s.length cS, .bool x.z, vv, z.2.2].toArray 26), .obj b2 (.cells [.int .i64 0, .slice none 0 0, .bool false, .slice none 0 0, .slice none 0 0].toArray 26)], fun (z : Nat × List Value × Value) s => z.1 ≤ x.u.length ∧ RUs s (x.u.take z.1) z.2.1, fun (z : Nat × List Value × Value) => x.u.length - z.1⟩ : Lp (Nat × List Value × Value)) (0, [], .slice none 0 0) ?_ ?_ ?_ ?_
    · intro s0 hs0
      exact ⟨Nat.zero_le _, rfl⟩
    · exact ⟨rfl, rfl, rfl, rfl, rfl,  trivial⟩
    · exact (.cons_cons _ (.cons_cons _ (.cons_cons _ (.cons_cons _ (.cons _ .slnil)))))
    intro z s2 hl2 hI
    obtain ⟨j, us, v3⟩ := z
    dsimp only at hI ⊢
    have hx := hx.mv hl2
    have hS := hS.mv hl2
    have hU := hU.mv hl2
    have hU1 := hU1.mv hl2
    have hUs := hUs.mv hl2
    have hL := hL.mv hl2
    have hLs := hLs.mv hl2
    have hIr := hIr.mv hl2
    obtain ⟨hJ, hJ2⟩ := hI
    refine cd_sr ?_
    refine ln_pv (pv_lss rfl rfl) rfl ?_
    refine ln_cd ?_
    refine cd_seq ?_
    refine cd_if rfl (fun hc2 => ?_) (fun hc2 => ?_)
    · -- yes
      refine cd_skip ?_
      refine at_cd ?_
      refine cd_seq ?_
      refine cd_block ?_
      have hj : j < x.u.length := by omega
      obtain ⟨b0, o0, rfl, hrc⟩ := hU1.pos (by omega) (by decide)
      obtain ⟨c1, tv, c3, he, hk, hkk, hTv⟩ := RUs.at_ hj hUs
      have hsub := hrc.sub (j * 2) he hk
      have hsl : (x.u.take (j + 1)).length = (x.u.take j).length + 1 := by simp only [List.length_take]; omega
      have hil : (x.u.take j).length = j := by rw [List.length_take]; omega
      refine cd_sr ?_
      refine ln_pv (pv_ixN Tryd.underlying35 tiimpl_Tag.size rfl rfl hj) rfl ?_
      refine ln_pv (pv_ldR hsub Tryd.underlying65 rfl (tiimpl_Tag).size rfl rfl) rfl ?_
      refine ln_alloc tiimpl_Tag rfl rfl (fun b6 => ?_)
      refine ln_storeW (i := 0) rfl rfl rfl rfl (tiimpl_Tag).size rfl (by simp [(RS.one hTv)]) ?_
      refine ln_cd ?_
      refine cd_region ?_
      refine ln_pv (pv_fieldAddr (off := 4) (r := 4) Tryd.underlying26 rfl (tiSl_spec_Tag).size rfl rfl rfl) rfl ?_
      refine ln_pv (pv_ldo (i := 3) rfl Tryd.underlying24 rfl rfl rfl) rfl ?_
      refine ln_pv (pv_fieldAddr (off := 0) (r := 0) Tryd.underlying65 rfl (tiuint32).size rfl rfl rfl) rfl ?_
      refine ln_pv (pv_ldo (i := 0) rfl Tryd.underlying63 rfl rfl rfl) rfl ?_
      refine ln_pv (pv_fieldAddr (off := 1) (r := 1) Tryd.underlying65 rfl (tiSl_uint8).size rfl rfl rfl) rfl ?_
      refine ln_pv (pv_ldo (i := 0) rfl Tryd.underlying22 rfl rfl rfl) rfl ?_
      refine ln_pv (pv_struct [(0, 1), (1, 1)] (l := [_, _]) rfl Tryd.underlying66 tispec_Tag (by kernel_rfl) rfl (by simp [okL, Nat.ble_eq, Value.cells, (RS.one hTv)])) rfl ?_
      refine ln_lit (vs := [_]) Tryd.underlying24 tispec_Tag rfl (by decide) rfl rfl rfl rfl rfl rfl (fun b7 => ?_)
      refine ln_append (i := 2) rfl Tryd.underlying24 tispec_Tag rfl (by decide) rfl rfl (src_obj (j := 0) rfl rfl (by simp [flat, Value.cells, (RS.one hTv)])) (by rw [hil]; first | omega | (simp only [maxLen]; omega)) (by rw [hil]; first | omega | (simp only [maxLen]; omega)) rfl (k' := (x.u.take (j + 1)).length) (xs' := us ++ [.int .u32 (x.u[j].1 : Int), tv]) hsl.symm rfl (fun v3 hv3 => ?_)
      refine ln_pv (pv_fieldAddr (off := 4) (r := 4) Tryd.underlying26 rfl (tiSl_spec_Tag).size rfl rfl rfl) rfl ?_
      refine ln_store1 (i := 4) rfl rfl rfl hv3.2 (tiSl_spec_Tag).size rfl ?_
      refine ln_nil ?_
      refine at_cd ?_
      refine cd_region ?_
      refine ln_pv (pv_add' rfl rfl (wrap_succ (by omega))) rfl ?_
      refine ln_pv (pv_move rfl) rfl ?_
      refine ln_nil ?_
      refine at_rnd (j + 1, us ++ [.int .u32 (x.u[j].1 : Int), tv], v3) hl2 ?_ ?_ ⟨rfl, rfl, rfl, rfl, rfl,  trivial⟩ (.cons _ (.cons _ (.cons_cons _ (.cons_cons _ (.cons_cons _ (.cons_cons _ .slnil))))))
      · intro s9 hs9
        refine ⟨by dsimp only; omega, ?_⟩
        rw [take_snoc' hj]
        exact RUs.append (RUs.mv hs9 hJ2) (RUs.one_ hkk (RSv.mv hTv hs9))
      · dsimp only; omega
    · -- no
      refine cd_exit rfl ?_
      refine at_cd ?_
      refine cd_rowone (i := 1) rfl (fun hoL => ?_)
      refine cd_rowone (i := 0) rfl (fun hoU => ?_)
      have hSx := hS
      refine cd_sr ?_
      refine ln_pv (pv_ldO (i := 2) rfl Tryd.underlying26 rfl (tispec_Tree).size rfl rfl) rfl ?_
      refine ln_storeW (i := 3) rfl rfl rfl rfl (tispec_Tree).size rfl (by simp [(RS.one hS), hoL, hoU]) ?_
      refine ln_cd ?_
      refine cd_ret ?_
      refine at_retC (i := 3) rfl rfl rfl Tryd.underlying26 rfl tispec_Tree.size rfl (fun w hS => ?_)
      have hi2 : i = x.l.length := by omega
      subst hi2
      have hj2 : j = x.u.length := by omega
      subst hj2
      rw [List.take_length] at hJ2 hIr
      refine ⟨_, rfl, RT.shut ⟨_, _, _, rfl, hn, RSv.mv hSx hS.trFin, ⟨ys, ?_, RTs.mv hIr hS.trFin⟩, ⟨us, ?_, RUs.mv hS.trFin hJ2⟩⟩⟩
      · have h := row_rs hS (j := 1) rfl (RTs.cells hIr)
        have e : (x.l.take x.l.length).length = x.l.length := by rw [List.take_length]
        exact Eq.mp (congrArg (fun k => RS hS.fin 5 vv k ys) e) h
      · have h := row_rs hS (j := 0) rfl (RUs.cells hJ2).2
        have e : (x.u.take x.u.length).length = x.u.length := by rw [List.take_length]
        exact Eq.mp (congrArg (fun k => RS hS.fin 2 v3 k us) e) h
theorem laws_got_n : ∀ (n : Nat) (x : Tre), SizeOf.sizeOf x < n → GotC x
  | 0, _, h => absurd h (by omega)
  | n + 1, x, h => laws_got1 x fun y hy => laws_got_n n y (by
      have h1 := List.sizeOf_lt_of_mem hy
      cases x
      simp only [Tre.l] at h1
      simp only [Tre.mk.sizeOf_spec] at h
      omega)
theorem laws_got (x : Tre) : GotC x := laws_got_n _ x (Nat.lt_succ_self _)
end K
end Go.Proofs.YtkcdocdldebeoaaDoor
