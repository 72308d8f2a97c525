import Derived.Test.YtjjfpdofkdolnaaDoorS10
import Derived.Test.YtjjfpdofkdolnaaDoorW4
import Derived.Test.YtjjfpdofkdolnaaDoorG4
import Derived.Test.YtjjfpdofkdolnaaDoorQ1
import Derived.Test.YtjjfpdofkdolnaaDoorK2
set_option linter.unusedVariables false
set_option linter.unusedSimpArgs false
namespace Go.Proofs.YtjjfpdofkdolnaaDoor
namespace K
open Go Go.Lib
def GotC (x : Tre) : Prop := ∀ (t : Vw) (cs : List Value), RT t x cs → smT x → CA Tryd.prog 15 [.agg cs.toArray] t fun u r => ∃ ds, r = .agg ds.toArray ∧ RT u x ds
theorem laws_got1 (x : Tre) (ih : ∀ y ∈ x.l, GotC y) : GotC x := by
  intro t cs hx hsm
  obtain ⟨sS, sL, sU, rfl, hn, hS, ⟨lc, hL, hLs⟩, hU⟩ := hx.open
  obtain ⟨adS, cS, rfl, hleS⟩ := hS.shape
  obtain ⟨adL, cL, rfl, hleL⟩ := hL.shape
  have hU0 := hU
  obtain ⟨uc, hU1, hUs⟩ := hU0
  obtain ⟨hz1, hz2, hz3, hz4⟩ := hsm.open
  obtain ⟨adU, cU, rfl, hleU⟩ := hU1.shape
  refine ca_enter Tryd.func15 rfl Tryd.ntmps15 rfl ?_
  refine cd_sr ?_
  refine ln_box rfl rfl rfl (fun b1 => ?_)
  refine ln_alloc tispec_Tree rfl rfl (fun b2 => ?_)
  refine ln_cd ?_
  refine cd_sr ?_
  refine ln_pv (pv_fieldAddr (off := 0) (r := 0) Tryd.underlying27 rfl (tiint64).size rfl rfl rfl) rfl ?_
  refine ln_pv (pv_ldo (i := 1) rfl Tryd.underlying2 rfl rfl rfl) rfl ?_
  refine ln_pv (pv_fieldAddr (off := 1) (r := 1) Tryd.underlying27 rfl (tiSl_uint8).size rfl rfl rfl) rfl ?_
  refine ln_pv (pv_ldo (i := 1) rfl Tryd.underlying22 rfl rfl rfl) rfl ?_
  refine ln_pv (pv_fieldAddr (off := 2) (r := 2) Tryd.underlying27 rfl (tibool).size rfl rfl rfl) rfl ?_
  refine ln_pv (pv_ldo (i := 1) rfl Tryd.underlying4 rfl rfl rfl) rfl ?_
  refine ln_pv (pv_struct [(0, 1), (1, 1), (2, 1), (3, 1), (4, 1)] (l := [_, _, _, _, _]) rfl Tryd.underlying35 tispec_Tree (by kernel_rfl) rfl (by simp [okL, Nat.ble_eq, Value.cells, (RS.one hS)])) rfl ?_
  refine ln_alloc tispec_Tree rfl rfl (fun b3 => ?_)
  refine ln_storeW (i := 0) rfl rfl rfl rfl (tispec_Tree).size rfl (by simp [(RS.one hS)]) ?_
  refine ln_cd ?_
  refine cd_seq ?_
  refine cd_nilrow 35 5 ?_
  refine cd_sr ?_
  refine ln_pv (pv_fieldAddr (off := 3) (r := 3) Tryd.underlying27 rfl (tiSl_impl_Tree).size rfl rfl rfl) rfl ?_
  refine ln_pv (pv_ldo (i := 3) rfl Tryd.underlying24 rfl rfl rfl) rfl ?_
  refine ln_pv (pv_len_slice Tryd.underlying24 rfl) rfl ?_
  refine ln_pv (pv_move rfl) rfl ?_
  refine ln_cd ?_
  refine cd_block ?_
  refine cd_loop (⟨fun (z : Nat × List Value × Value) => [(1, .pointer (some ⟨b1, 0, none⟩)), (2, .pointer (some ⟨b2, 0, none⟩)), (3, .pointer (some ⟨b3, 0, none⟩)), (16, .slice adL x.l.length cL), (17, .int .i64 (x.l.length : Int)), (18, .int .i64 ((z.1 : Nat) : Int))], fun (z : Nat × List Value × Value) => [.row z.2.2 35 5 (x.l.take z.1).length (z.2.1), .obj b3 (.cells [.int .i64 x.n, .slice adS x.s.length cS, .bool x.z, z.2.2, .slice none 0 0].toArray 35), .obj b2 (.cells [.int .i64 0, .slice none 0 0, .bool false, .slice none 0 0, .slice none 0 0].toArray 35), .obj b1 (.cells [.int .i64 x.n, .slice adS x.s.length cS, .bool x.z, .slice adL x.l.length cL, .slice adU x.u.length cU].toArray 27)], fun (z : Nat × List Value × Value) s => z.1 ≤ x.l.length ∧ RTs s (x.l.take z.1) z.2.1, fun (z : Nat × List Value × Value) => x.l.length - z.1⟩ : Lp (Nat × List Value × Value)) (0, [], .slice none 0 0) ?_ ?_ ?_ ?_
  · intro s0 hs0
    exact ⟨Nat.zero_le _, rfl⟩
  · exact ⟨rfl, rfl, rfl, rfl, rfl, rfl,  trivial⟩
  · exact (.cons_cons _ (.cons_cons _ (.cons_cons _ (.cons_cons _ .slnil))))
  intro z s1 hl1 hI
  obtain ⟨i, ys, vv⟩ := z
  dsimp only at hI ⊢
  have hx := hx.mv hl1
  have hS := hS.mv hl1
  have hU := hU.mv hl1
  have hU1 := hU1.mv hl1
  have hUs := hUs.mv hl1
  have hL := hL.mv hl1
  have hLs := hLs.mv hl1
  obtain ⟨hI, hIr⟩ := hI
  refine cd_sr ?_
  refine ln_pv (pv_lss rfl rfl) rfl ?_
  refine ln_cd ?_
  refine cd_seq ?_
  refine cd_if rfl (fun hc1 => ?_) (fun hc1 => ?_)
  · -- yes
    refine cd_skip ?_
    refine at_cd ?_
    refine cd_seq ?_
    refine cd_block ?_
    have hi : i < x.l.length := by omega
    obtain ⟨b0, o0, rfl, hrc⟩ := hL.pos (by omega) (by decide)
    obtain ⟨c1, c2, c3, he, hk, hr⟩ := RTs.at_ hi hLs
    have hsub := hrc.sub (i * 5) he hk
    have hsl : (x.l.take (i + 1)).length = (x.l.take i).length + 1 := by simp only [List.length_take]; omega
    have hil : (x.l.take i).length = i := by rw [List.length_take]; omega
    refine cd_sr ?_
    refine ln_pv (pv_ixN Tryd.underlying24 tiimpl_Tree.size rfl rfl hi) rfl ?_
    refine ln_pv (pv_ldR hsub Tryd.underlying27 rfl tiimpl_Tree.size rfl hr.len) rfl ?_
    refine ln_alloc tiimpl_Tree rfl rfl (fun b4 => ?_)
    refine ln_storeW (i := 0) rfl rfl rfl rfl (tiimpl_Tree).size hr.len hr.cells ?_
    refine ln_cd ?_
    refine cd_draw' [0, 2, 3, 4] [0, 1, 2, 6] [0, 1, 2, 3, 4, 5, 6, 7] mixed (by kernel_rfl) ?_
    refine lo_pv rfl rfl (sk_js (Tr.refl _) [0, 2, 3, 4] rfl) (pv_fieldAddr (off := 3) (r := 3) Tryd.underlying35 rfl (tiSl_spec_Tree).size rfl rfl rfl) rfl ?_
    refine lo_pv rfl rfl (sk_js (Tr.refl _) [0, 2, 3, 4] rfl) (pv_ldo (i := 1) rfl Tryd.underlying32 rfl rfl rfl) rfl ?_
    refine lo_pv rfl rfl (sk_js (Tr.refl _) [0, 2, 3, 4] rfl) (pv_ldO (i := 0) rfl Tryd.underlying27 rfl (tiimpl_Tree).size rfl hr.len) rfl ?_
    refine lo_eff rfl rfl ?_
    refine ln_callA en_15 rfl (fun u hu => ih _ (List.getElem_mem hi) u _ (RT.mv hr hu) (smTs.mem hz4 _ (List.getElem_mem hi))) rfl (fun u1 v1 ht1 hR1 => ?_)
    have hx := hx.mv ht1
    have hS := hS.mv ht1
    have hU := hU.mv ht1
    have hU1 := hU1.mv ht1
    have hUs := hUs.mv ht1
    have hL := hL.mv ht1
    have hLs := hLs.mv ht1
    have hIr := hIr.mv ht1
    have hr := hr.mv ht1
    obtain ⟨dsF, rfl, hdsF⟩ := hR1
    refine lo_back (sk_js ht1 [0, 2, 3, 4] rfl) ?_
    refine lo_eff rfl rfl ?_
    refine ln_lit (vs := [_]) Tryd.underlying32 tispec_Tree rfl (by decide) rfl rfl rfl (by simp [partsOk, Value.cells, hdsF.len]; try exact .inl rfl) rfl rfl (fun b5 => ?_)
    refine lo_back (sk_js ht1 [1, 3, 4, 5] rfl) ?_
    refine lo_eff rfl rfl ?_
    refine ln_append (i := 2) rfl Tryd.underlying32 tispec_Tree rfl (by decide) rfl rfl (src_obj (j := 0) rfl (by simp [flat, Value.cells, hdsF.len]) (List.all_eq_true.2 (by simpa [flat, Value.cells] using hdsF.cells))) (by rw [hil]; first | omega | (simp only [maxLen]; omega)) (by rw [hil]; first | omega | (simp only [maxLen]; omega)) rfl (k' := (x.l.take (i + 1)).length) (xs' := ys ++ dsF) hsl.symm (by simp [flat, Value.cells]) (fun v2 hv2 => ?_)
    refine lo_back (sk_js ht1 [1, 3, 4, 5] rfl) ?_
    refine lo_pv rfl rfl (sk_js ht1 [1, 3, 4, 5] rfl) (pv_fieldAddr (off := 3) (r := 3) Tryd.underlying35 rfl (tiSl_spec_Tree).size rfl rfl rfl) rfl ?_
    refine lo_eff rfl rfl ?_
    refine ln_store1 (i := 3) rfl rfl rfl hv2.2 (tiSl_spec_Tree).size rfl ?_
    refine lo_last (by kernel_rfl) ?_
    refine lo_nil ?_
    refine at_cd ?_
    refine cd_region ?_
    refine ln_pv (pv_add' rfl rfl (wrap_succ (by omega))) rfl ?_
    refine ln_pv (pv_move rfl) rfl ?_
    refine ln_nil ?_
    refine at_rnd (i + 1, ys ++ dsF, v2) (hl1.trans ht1) ?_ ?_ ⟨rfl, rfl, rfl, rfl, rfl, rfl,  trivial⟩ (.cons _ (.cons _ (.cons_cons _ (.cons_cons _ (.cons_cons _ (.cons_cons _ .slnil))))))
    · intro s9 hs9
      exact ⟨by dsimp only; omega, by rw [take_snoc' hi]; exact RTs.append (RTs.mv hIr hs9) (RTs.one (RT.mv hdsF hs9))⟩
    · dsimp only; omega
  · -- no
    refine cd_exit rfl ?_
    refine at_cd ?_
    refine cd_seq ?_
    refine cd_nilrow 57 2 ?_
    refine cd_sr ?_
    refine ln_pv (pv_fieldAddr (off := 4) (r := 4) Tryd.underlying27 rfl (tiSl_impl_Tag).size rfl rfl rfl) rfl ?_
    refine ln_pv (pv_ldo (i := 4) rfl Tryd.underlying25 rfl rfl rfl) rfl ?_
    refine ln_pv (pv_len_slice Tryd.underlying25 rfl) rfl ?_
    refine ln_pv (pv_move rfl) rfl ?_
    refine ln_cd ?_
    refine cd_block ?_
    refine cd_loop (⟨fun (z : Nat × List Value × Value) => [(2, .pointer (some ⟨b2, 0, none⟩)), (3, .pointer (some ⟨b3, 0, none⟩)), (31, .slice adU x.u.length cU), (32, .int .i64 (x.u.length : Int)), (33, .int .i64 ((z.1 : Nat) : Int))], fun (z : Nat × List Value × Value) => [.row z.2.2 57 2 (x.u.take z.1).length (z.2.1), .row vv 35 5 (x.l.take i).length (ys), .obj b3 (.cells [.int .i64 x.n, .slice adS x.s.length cS, .bool x.z, vv, z.2.2].toArray 35), .obj b2 (.cells [.int .i64 0, .slice none 0 0, .bool false, .slice none 0 0, .slice none 0 0].toArray 35)], fun (z : Nat × List Value × Value) s => z.1 ≤ x.u.length ∧ RUs s (x.u.take z.1) z.2.1, fun (z : Nat × List Value × Value) => x.u.length - z.1⟩ : Lp (Nat × List Value × Value)) (0, [], .slice none 0 0) ?_ ?_ ?_ ?_
    · intro s0 hs0
      exact ⟨Nat.zero_le _, rfl⟩
    · exact ⟨rfl, rfl, rfl, rfl, rfl,  trivial⟩
    · exact (.cons_cons _ (.cons_cons _ (.cons_cons _ (.cons_cons _ (.cons _ .slnil)))))
    intro z s2 hl2 hI
    obtain ⟨j, us, v3⟩ := z
    dsimp only at hI ⊢
    have hx := hx.mv hl2
    have hS := hS.mv hl2
    have hU := hU.mv hl2
    have hU1 := hU1.mv hl2
    have hUs := hUs.mv hl2
    have hL := hL.mv hl2
    have hLs := hLs.mv hl2
    have hIr := hIr.mv hl2
    obtain ⟨hJ, hJ2⟩ := hI
    refine cd_sr ?_
    refine ln_pv (pv_lss rfl rfl) rfl ?_
    refine ln_cd ?_
    refine cd_seq ?_
    refine cd_if rfl (fun hc2 => ?_) (fun hc2 => ?_)
    · -- yes
      refine cd_skip ?_
      refine at_cd ?_
      refine cd_seq ?_
      refine cd_block ?_
      have hj : j < x.u.length := by omega
      obtain ⟨b0, o0, rfl, hrc⟩ := hU1.pos (by omega) (by decide)
      obtain ⟨c1, tv, c3, he, hk, hkk, hTv⟩ := RUs.at_ hj hUs
      have hsub := hrc.sub (j * 2) he hk
      have hsl : (x.u.take (j + 1)).length = (x.u.take j).length + 1 := by simp only [List.length_take]; omega
      have hil : (x.u.take j).length = j := by rw [List.length_take]; omega
      refine cd_sr ?_
      refine ln_pv (pv_ixN Tryd.underlying25 tiimpl_Tag.size rfl rfl hj) rfl ?_
      refine ln_pv (pv_ldR hsub Tryd.underlying58 rfl (tiimpl_Tag).size rfl rfl) rfl ?_
      refine ln_alloc tiimpl_Tag rfl rfl (fun b6 => ?_)
      refine ln_storeW (i := 0) rfl rfl rfl rfl (tiimpl_Tag).size rfl (by simp [(RS.one hTv)]) ?_
      refine ln_cd ?_
      refine cd_region ?_
      refine ln_pv (pv_fieldAddr (off := 4) (r := 4) Tryd.underlying35 rfl (tiSl_spec_Tag).size rfl rfl rfl) rfl ?_
      refine ln_pv (pv_ldo (i := 3) rfl Tryd.underlying33 rfl rfl rfl) rfl ?_
      refine ln_pv (pv_fieldAddr (off := 0) (r := 0) Tryd.underlying58 rfl (tiuint32).size rfl rfl rfl) rfl ?_
      refine ln_pv (pv_ldo (i := 0) rfl Tryd.underlying55 rfl rfl rfl) rfl ?_
      refine ln_pv (pv_fieldAddr (off := 1) (r := 1) Tryd.underlying58 rfl (tiSl_uint8).size rfl rfl rfl) rfl ?_
      refine ln_pv (pv_ldo (i := 0) rfl Tryd.underlying22 rfl rfl rfl) rfl ?_
      refine ln_pv (pv_struct [(0, 1), (1, 1)] (l := [_, _]) rfl Tryd.underlying57 tispec_Tag (by kernel_rfl) rfl (by simp [okL, Nat.ble_eq, Value.cells, (RS.one hTv)])) rfl ?_
      refine ln_lit (vs := [_]) Tryd.underlying33 tispec_Tag rfl (by decide) rfl rfl rfl rfl rfl rfl (fun b7 => ?_)
      refine ln_append (i := 2) rfl Tryd.underlying33 tispec_Tag rfl (by decide) rfl rfl (src_obj (j := 0) rfl rfl (by simp [flat, Value.cells, (RS.one hTv)])) (by rw [hil]; first | omega | (simp only [maxLen]; omega)) (by rw [hil]; first | omega | (simp only [maxLen]; omega)) rfl (k' := (x.u.take (j + 1)).length) (xs' := us ++ [.int .u32 (x.u[j].1 : Int), tv]) hsl.symm rfl (fun v3 hv3 => ?_)
      refine ln_pv (pv_fieldAddr (off := 4) (r := 4) Tryd.underlying35 rfl (tiSl_spec_Tag).size rfl rfl rfl) rfl ?_
      refine ln_store1 (i := 4) rfl rfl rfl hv3.2 (tiSl_spec_Tag).size rfl ?_
      refine ln_nil ?_
      refine at_cd ?_
      refine cd_region ?_
      refine ln_pv (pv_add' rfl rfl (wrap_succ (by omega))) rfl ?_
      refine ln_pv (pv_move rfl) rfl ?_
      refine ln_nil ?_
      refine at_rnd (j + 1, us ++ [.int .u32 (x.u[j].1 : Int), tv], v3) hl2 ?_ ?_ ⟨rfl, rfl, rfl, rfl, rfl,  trivial⟩ (.cons _ (.cons _ (.cons_cons _ (.cons_cons _ (.cons_cons _ (.cons_cons _ .slnil))))))
      · intro s9 hs9
        refine ⟨by dsimp only; omega, ?_⟩
        rw [take_snoc' hj]
        exact RUs.append (RUs.mv hs9 hJ2) (RUs.one_ hkk (RSv.mv hTv hs9))
      · dsimp only; omega
    · -- no
      refine cd_exit rfl ?_
      refine at_cd ?_
      refine cd_rowone (i := 1) rfl (fun hoL => ?_)
      refine cd_rowone (i := 0) rfl (fun hoU => ?_)
      have hSx := hS
      refine cd_sr ?_
      refine ln_pv (pv_ldO (i := 2) rfl Tryd.underlying35 rfl (tispec_Tree).size rfl rfl) rfl ?_
      refine ln_storeW (i := 3) rfl rfl rfl rfl (tispec_Tree).size rfl (by simp [(RS.one hS), hoL, hoU]) ?_
      refine ln_cd ?_
      refine cd_ret ?_
      refine at_retC (i := 3) rfl rfl rfl Tryd.underlying35 rfl tispec_Tree.size rfl (fun w hS => ?_)
      have hi2 : i = x.l.length := by omega
      subst hi2
      have hj2 : j = x.u.length := by omega
      subst hj2
      rw [List.take_length] at hJ2 hIr
      refine ⟨_, rfl, RT.shut ⟨_, _, _, rfl, hn, RSv.mv hSx hS.trFin, ⟨ys, ?_, RTs.mv hIr hS.trFin⟩, ⟨us, ?_, RUs.mv hS.trFin hJ2⟩⟩⟩
      · have h := row_rs hS (j := 1) rfl (RTs.cells hIr)
        have e : (x.l.take x.l.length).length = x.l.length := by rw [List.take_length]
        exact Eq.mp (congrArg (fun k => RS hS.fin 5 vv k ys) e) h
      · have h := row_rs hS (j := 0) rfl (RUs.cells hJ2).2
        have e : (x.u.take x.u.length).length = x.u.length := by rw [List.take_length]
        exact Eq.mp (congrArg (fun k => RS hS.fin 2 v3 k us) e) h
theorem laws_got_n : ∀ (n : Nat) (x : Tre), SizeOf.sizeOf x < n → GotC x
  | 0, _, h => absurd h (by omega)
  | n + 1, x, h => laws_got1 x fun y hy => laws_got_n n y (by
      have h1 := List.sizeOf_lt_of_mem hy
      cases x
      simp only [Tre.l] at h1
      simp only [Tre.mk.sizeOf_spec] at h
      omega)
theorem laws_got (x : Tre) : GotC x := laws_got_n _ x (Nat.lt_succ_self _)
end K
end Go.Proofs.YtjjfpdofkdolnaaDoor
namespace Go.Proofs.YtjjfpdofkdolnaaDoor
namespace K
open Go Go.Lib
theorem impl_sorted (t : Vw) (v : Value) (us : Tags) (cs : List Value) (hsrt : us.Pairwise (fun x y => x.1 < y.1)) (hlen : us.length < 4611686018427387904) (hcl : cs.length = us.length * 2) (hU : ∀ i, (hi : i < us.length) → cs[i * 2]? = some (.int .u32 (us[i].1 : Int))) (hok : (Ent.row v 58 2 us.length cs).ok t.w) (hav : ∀ q ∈ (Ent.row v 58 2 us.length cs).blk, t.av q) :
    CT Tryd.prog 84 [v] t (.row v 58 2 us.length cs) fun u r e' => e' = .row v 58 2 us.length cs := by
  refine ct_enter Tryd.func84 rfl Tryd.ntmps84 rfl hok hav (by simp only [Ent.blk]; cases v.ownBlock <;> simp) ?_
  refine cd_sr ?_
  refine ln_pv (pv_move rfl) rfl ?_
  refine ln_pv (pv_len_row (i := 0) rfl Tryd.underlying25 rfl) rfl ?_
  refine ln_pv (pv_move rfl) rfl ?_
  refine ln_cd ?_
  refine cd_block ?_
  refine cd_loop' (S := Nat) ⟨fun i => [(6, .int .i64 (i : Int)), (5, .int .i64 (us.length : Int)), (0, v)], fun _ => [.row v 58 2 us.length cs], fun i _ => i ≤ us.length, fun i => us.length - i⟩ 0 (fun _ _ => Nat.zero_le _) (.put rfl (.put rfl (.put rfl .nil))) (List.Sublist.refl _) ?_
  intro i u hu hi
  dsimp only at hi ⊢
  refine cd_sr ?_
  refine ln_pv (pv_lss rfl rfl) rfl ?_
  refine ln_cd ?_
  refine cd_seq ?_
  refine cd_if rfl (fun hlt => ?_) (fun hge => ?_)
  · have hlt : i < us.length := by omega
    refine cd_skip ?_
    refine at_cd ?_
    refine cd_seq ?_
    refine cd_block ?_
    refine cd_shape (i := 0) rfl (by omega) (fun g cap hsh hcap => ?_)
    subst hsh
    refine cd_sr ?_
    refine ln_pv (pv_move rfl) rfl ?_
    refine ln_pv (pv_assign rfl) rfl ?_
    refine ln_cd ?_
    refine cd_sr ?_
    refine ln_pv (pv_move rfl) rfl ?_
    refine ln_pv (pv_assign rfl) rfl ?_
    refine ln_cd ?_
    refine cd_block ?_
    refine cd_loop' (S := Unit) ⟨fun _ => [(3, .int .i64 (i : Int)), (6, .int .i64 (i : Int)), (5, .int .i64 (us.length : Int)), (0, .slice (some ⟨g, 0, none⟩) us.length cap)], fun _ => [.row (.slice (some ⟨g, 0, none⟩) us.length cap) 58 2 us.length cs], fun _ _ => True, fun _ => 0⟩ () (fun _ _ => trivial) (.put rfl (.put rfl (.put rfl (.put rfl .nil)))) (List.Sublist.refl _) ?_
    intro _ u2 hu2 _
    dsimp only
    have hv1 := hU i hlt
    refine cd_seq ?_
    refine cd_dr' [0] [0, 1, 2, 3, 4, 5, 6, 7, 8, 9, 10, 11, 12, 13, 14, 15] [0, 1, 2, 3, 4, 5, 6, 7, 8, 9, 10, 11, 12, 13, 14, 15] mixed (by kernel_rfl) ?_
    by_cases h0 : 0 < i
    · have hv0 := hU (i - 1) (by omega)
      have hno : ¬ ((us[i].1 : Int) < (us[i - 1].1 : Int)) := by
        have := List.pairwise_iff_getElem.1 hsrt (i - 1) i (by omega) hlt (by omega)
        omega
      refine lo_pv rfl rfl (sk_js (Tr.refl _) [0] rfl) (pv_move rfl) rfl ?_
      refine lo_pv rfl rfl (sk_js (Tr.refl _) [0] rfl) (pv_tt (pv_gtr rfl rfl) (by omega)) rfl ?_
      refine lo_pv rfl rfl (sk_js (Tr.refl _) [0] rfl) (pv_move rfl) rfl ?_
      refine lo_gt rfl rfl (sk_js (Tr.refl _) [0] rfl) rfl rfl rfl (pv_move rfl) rfl ?_
      refine lo_gt rfl rfl (sk_js (Tr.refl _) [0] rfl) rfl rfl rfl (pv_move rfl) rfl ?_
      refine lo_gt rfl rfl (sk_js (Tr.refl _) [0] rfl) rfl rfl rfl (pv_ixN (b := g) (o := 0) (i := i) Tryd.underlying25 tiimpl_Tag.size rfl rfl hlt) rfl ?_
      refine lo_gt rfl rfl (sk_js (Tr.refl _) [0] rfl) rfl rfl rfl (pv_fieldAddr (off := 0) Tryd.underlying58 rfl tiuint32.size rfl rfl rfl) rfl ?_
      refine lo_gt rfl rfl (sk_js (Tr.refl _) [0] rfl) rfl rfl rfl (pv_ldG1 (i := 0) (mk := fun xs => .row (.slice (some ⟨g, 0, none⟩) us.length cap) 58 2 us.length xs) (off := i * 2) (v := .int .u32 (us[i].1 : Int)) (Tgt.row g cap us.length 2 58) rfl hcl Tryd.underlying55 rfl rfl hv1) rfl ?_
      refine lo_gt rfl rfl (sk_js (Tr.refl _) [0] rfl) rfl rfl rfl (pv_move rfl) rfl ?_
      refine lo_gt rfl rfl (sk_js (Tr.refl _) [0] rfl) rfl rfl rfl (pv_move rfl) rfl ?_
      refine lo_gt rfl rfl (sk_js (Tr.refl _) [0] rfl) rfl rfl rfl (pv_sub' rfl rfl (r := ((i - 1 : Nat) : Int)) (by rw [wrap_i64 (by omega) (by omega)]; omega)) rfl ?_
      refine lo_gt rfl rfl (sk_js (Tr.refl _) [0] rfl) rfl rfl rfl (pv_ixN (b := g) (o := 0) (i := (i - 1)) Tryd.underlying25 tiimpl_Tag.size rfl rfl (by omega)) rfl ?_
      refine lo_gt rfl rfl (sk_js (Tr.refl _) [0] rfl) rfl rfl rfl (pv_fieldAddr (off := 0) Tryd.underlying58 rfl tiuint32.size rfl rfl rfl) rfl ?_
      refine lo_gt rfl rfl (sk_js (Tr.refl _) [0] rfl) rfl rfl rfl (pv_ldG1 (i := 0) (mk := fun xs => .row (.slice (some ⟨g, 0, none⟩) us.length cap) 58 2 us.length xs) (off := (i - 1) * 2) (v := .int .u32 (us[(i - 1)].1 : Int)) (Tgt.row g cap us.length 2 58) rfl hcl Tryd.underlying55 rfl rfl hv0) rfl ?_
      refine lo_gt rfl rfl (sk_js (Tr.refl _) [0] rfl) rfl rfl rfl (pv_ff (pv_lss rfl rfl) hno) rfl ?_
      refine lo_pv rfl rfl (sk_js (Tr.refl _) [0] rfl) (pv_pick (v := .bool false) rfl (fun _ => rfl) (fun h => by cases h)) rfl ?_
      refine lo_cd ?_
      refine cd_ff rfl ?_
      refine cd_exit rfl ?_
      refine at_cd ?_
      refine cd_region ?_
      refine ln_pv (pv_add' rfl rfl (r := ((i + 1 : Nat) : Int)) (by rw [wrap_i64 (by omega) (by omega)]; omega)) rfl ?_
      refine ln_pv (pv_move rfl) rfl ?_
      refine ln_nil ?_
      exact at_rnd' (i + 1) (hu.trans hu2) (fun _ _ => by dsimp only; omega) (by dsimp only; omega) (.put rfl (.put rfl (.put rfl .nil))) (List.Sublist.refl _)
    · skip
      refine lo_pv rfl rfl (sk_js (Tr.refl _) [0] rfl) (pv_move rfl) rfl ?_
      refine lo_pv rfl rfl (sk_js (Tr.refl _) [0] rfl) (pv_ff (pv_gtr rfl rfl) (by omega)) rfl ?_
      refine lo_pv rfl rfl (sk_js (Tr.refl _) [0] rfl) (pv_move rfl) rfl ?_
      refine lo_gf rfl rfl (sk_js (Tr.refl _) [0] rfl) rfl rfl rfl rfl rfl ?_
      refine lo_gf rfl rfl (sk_js (Tr.refl _) [0] rfl) rfl rfl rfl rfl rfl ?_
      refine lo_gf rfl rfl (sk_js (Tr.refl _) [0] rfl) rfl rfl rfl rfl rfl ?_
      refine lo_gf rfl rfl (sk_js (Tr.refl _) [0] rfl) rfl rfl rfl rfl rfl ?_
      refine lo_gf rfl rfl (sk_js (Tr.refl _) [0] rfl) rfl rfl rfl rfl rfl ?_
      refine lo_gf rfl rfl (sk_js (Tr.refl _) [0] rfl) rfl rfl rfl rfl rfl ?_
      refine lo_gf rfl rfl (sk_js (Tr.refl _) [0] rfl) rfl rfl rfl rfl rfl ?_
      refine lo_gf rfl rfl (sk_js (Tr.refl _) [0] rfl) rfl rfl rfl rfl rfl ?_
      refine lo_gf rfl rfl (sk_js (Tr.refl _) [0] rfl) rfl rfl rfl rfl rfl ?_
      refine lo_gf rfl rfl (sk_js (Tr.refl _) [0] rfl) rfl rfl rfl rfl rfl ?_
      refine lo_gf rfl rfl (sk_js (Tr.refl _) [0] rfl) rfl rfl rfl rfl rfl ?_
      refine lo_gf rfl rfl (sk_js (Tr.refl _) [0] rfl) rfl rfl rfl rfl rfl ?_
      refine lo_pv rfl rfl (sk_js (Tr.refl _) [0] rfl) (pv_pick (u := .bool false) rfl (fun h => by cases h) (fun _ => rfl)) rfl ?_
      refine lo_cd ?_
      refine cd_ff rfl ?_
      refine cd_exit rfl ?_
      refine at_cd ?_
      refine cd_region ?_
      refine ln_pv (pv_add' rfl rfl (r := ((i + 1 : Nat) : Int)) (by rw [wrap_i64 (by omega) (by omega)]; omega)) rfl ?_
      refine ln_pv (pv_move rfl) rfl ?_
      refine ln_nil ?_
      exact at_rnd' (i + 1) (hu.trans hu2) (fun _ _ => by dsimp only; omega) (by dsimp only; omega) (.put rfl (.put rfl (.put rfl .nil))) (List.Sublist.refl _)
  · refine cd_exit rfl ?_
    exact at_retT0 (i := 0) rfl rfl (fun w hS => rfl)
end K
end Go.Proofs.YtjjfpdofkdolnaaDoor
namespace Go.Proofs.YtjjfpdofkdolnaaDoor
namespace K
open Go Go.Lib
def Iv {β : Type} (Inv : Nat → Vw → β → Prop) (j : Nat) (u : Vw) (z : β) : Prop := ∀ w, Tr u w → Inv j w z
theorem Iv.mv {β : Type} {Inv : Nat → Vw → β → Prop} {j : Nat} {u w : Vw} {z : β} (h : Iv Inv j u z) (ht : Tr u w) : Iv Inv j w z := fun x hx => h x (ht.trans hx)
theorem Iv.get {β : Type} {Inv : Nat → Vw → β → Prop} {j : Nat} {u : Vw} {z : β} (h : Iv Inv j u z) : Inv j u z := h u (Tr.refl u)
theorem RKp.keys {s : Vw} {l : List (Nat × Value)} {u : Tags} {ks : List Nat} (h : RKp s l u) (hp : ks.Perm (l.map (·.1))) : ks.Perm (u.map (·.1)) := by
  obtain ⟨u0, h1, h2⟩ := h
  rw [h1.keys] at hp
  exact hp.trans (h2.map _)
theorem RKp.at_ {s : Vw} {l : List (Nat × Value)} {u : Tags} {j : Nat} (hj : j < u.length) (h : RKp s l u) : ∃ (jp : Nat) (hl : jp < l.length), l[jp].1 = u[j].1 ∧ RSv s l[jp].2 u[j].2 := by
  obtain ⟨u0, h1, h2⟩ := h
  obtain ⟨jp, hjp, he⟩ := List.getElem_of_mem (h2.mem_iff.2 (List.getElem_mem hj))
  obtain ⟨hl, h3, h4⟩ := RK.at hjp h1
  exact ⟨jp, hl, by rw [h3, he], by rw [← he]; exact h4⟩
theorem tags_EachG {β : Type} (A B : β → Ent) (Inv : Nat → Vw → β → Prop) (fn : FuncId) (cap : Value) (hent : Enters Tryd.prog fn) (t : Vw) (b off : Nat) (mv : Value) (l : List (Nat × Value)) (us : Tags) (z0 : β) (hr : RC1 t b off mv) (hm : MK t mv l) (hrk : RKp t l us) (hsrt : us.Pairwise (fun x y => x.1 < y.1)) (hlen : us.length ≤ 4398046511104) (hz : Iv Inv 0 t z0) (hstep : ∀ j (hj : j < us.length) (u : Vw) (z : β) (tv : Value), Iv Inv j u z → RSv u tv (us[j]'hj).2 → HF [A z, B z] u.w → (∀ q ∈ blks [A z, B z], u.av q) → (blks [A z, B z]).Nodup → CH Tryd.prog fn [.int .u32 ((us[j]'hj).1 : Int), tv, cap] u [A z, B z] fun u r E' => ∃ z', E' = [A z', B z'] ∧ Iv Inv (j + 1) u z') (hok : HF [A z0, B z0] t.w) (hav : ∀ q ∈ blks [A z0, B z0], t.av q) (hnd : (blks [A z0, B z0]).Nodup) : CH Tryd.prog 82 [.pointer (some ⟨b, off, none⟩), .func (.func fn) #[] #[cap]] t [A z0, B z0] fun u r E' => ∃ z', E' = [A z', B z'] ∧ Iv Inv us.length u z' := by
  have hul := hlen
  have hll := hrk.len
  have hms := ME_size l
  have hln : (l.map (·.1)).Nodup := by obtain ⟨u9, h9, hp9⟩ := hrk; rw [h9.keys]; exact ((hp9.map _).nodup_iff).2 ((List.pairwise_map).2 (hsrt.imp fun h => Nat.ne_of_lt h))
  refine ch_enter Tryd.func82 rfl Tryd.ntmps82 rfl hok hav hnd ?_
  rcases hm with ⟨rfl, rfl⟩ | ⟨m, rfl, hom⟩
  · obtain rfl : us = [] := by simpa using hll.symm
    have h00 : (0 : Int) = 0 := rfl
    refine cd_seq ?_
    refine cd_sr ?_
    refine ln_pv (pv_move rfl) rfl ?_
    refine ln_pv (pv_nilCheck rfl) rfl ?_
    refine ln_pv (pv_fieldAddr (off := 0) (r := off + 0) Tryd.underlying79 rfl timap_uint32_Sl_uint8.size rfl rfl rfl) rfl ?_
    refine ln_pv (pv_ldr (j := 0) hr Tryd.underlying77 rfl rfl rfl) rfl ?_
    refine ln_pv (pv_mapLen0 Tryd.underlying77 rfl) rfl ?_
    refine ln_pv (pv_tt (pv_eql rfl rfl) h00) rfl ?_
    refine ln_cd ?_
    refine cd_tt rfl ?_
    refine cd_ret ?_
    exact at_retH0 _ (List.Sublist.refl _) rfl (fun w hS => ⟨z0, rfl, hz.mv (hS.trFinH _ _)⟩)
  by_cases h00 : ((ME l).size : Int) = 0
  · obtain rfl : us = [] := List.eq_nil_of_length_eq_zero (by omega)
    refine cd_seq ?_
    refine cd_sr ?_
    refine ln_pv (pv_move rfl) rfl ?_
    refine ln_pv (pv_nilCheck rfl) rfl ?_
    refine ln_pv (pv_fieldAddr (off := 0) (r := off + 0) Tryd.underlying79 rfl timap_uint32_Sl_uint8.size rfl rfl rfl) rfl ?_
    refine ln_pv (pv_ldr (j := 0) hr Tryd.underlying77 rfl rfl rfl) rfl ?_
    refine ln_pv (pv_mapLen hom Tryd.underlying77 rfl) rfl ?_
    refine ln_pv (pv_tt (pv_eql rfl rfl) h00) rfl ?_
    refine ln_cd ?_
    refine cd_tt rfl ?_
    refine cd_ret ?_
    exact at_retH0 _ (List.Sublist.refl _) rfl (fun w hS => ⟨z0, rfl, hz.mv (hS.trFinH _ _)⟩)
  refine cd_seq ?_
  refine cd_sr ?_
  refine ln_pv (pv_move rfl) rfl ?_
  refine ln_pv (pv_nilCheck rfl) rfl ?_
  refine ln_pv (pv_fieldAddr (off := 0) (r := off + 0) Tryd.underlying79 rfl timap_uint32_Sl_uint8.size rfl rfl rfl) rfl ?_
  refine ln_pv (pv_ldr (j := 0) hr Tryd.underlying77 rfl rfl rfl) rfl ?_
  refine ln_pv (pv_mapLen hom Tryd.underlying77 rfl) rfl ?_
  refine ln_pv (pv_ff (pv_eql rfl rfl) h00) rfl ?_
  refine ln_cd ?_
  refine cd_ff rfl ?_
  refine cd_skip ?_
  refine at_cd ?_
  refine cd_sr ?_
  refine ln_pv (pv_move rfl) rfl ?_
  refine ln_pv (pv_nilCheck rfl) rfl ?_
  refine ln_pv (pv_fieldAddr (off := 0) (r := off + 0) Tryd.underlying79 rfl timap_uint32_Sl_uint8.size rfl rfl rfl) rfl ?_
  refine ln_pv (pv_ldr (j := 0) hr Tryd.underlying77 rfl rfl rfl) rfl ?_
  refine ln_pv (pv_mapLen hom Tryd.underlying77 rfl) rfl ?_
  refine ln_make0 (c := (ME l).size) Tryd.underlying150 tiuint32 rfl rfl (by omega) (by simp only [maxLen]; omega) rfl (fun g => ?_)
  refine ln_alloc tiSl_uint32 rfl rfl (fun b1 => ?_)
  refine ln_store1 (i := 0) rfl rfl rfl rfl (tiSl_uint32).size rfl ?_
  refine ln_cd ?_
  refine cd_seq ?_
  refine cd_sr ?_
  refine ln_pv (pv_move rfl) rfl ?_
  refine ln_pv (pv_nilCheck rfl) rfl ?_
  refine ln_pv (pv_fieldAddr (off := 0) (r := off + 0) Tryd.underlying79 rfl timap_uint32_Sl_uint8.size rfl rfl rfl) rfl ?_
  refine ln_pv (pv_ldr (j := 0) hr Tryd.underlying77 rfl rfl rfl) rfl ?_
  refine ln_range hom Tryd.underlying77 rfl rfl (fun it => ?_)
  refine ln_cd ?_
  refine cd_block ?_
  refine cd_loop (⟨fun (z : Array Nat × Value) => [(0, .pointer (some ⟨b, off, none⟩)), (1, .func (.func fn) #[] #[cap]), (4, .pointer (some ⟨b1, 0, none⟩)), (24, .pointer (some ⟨it, 0, none⟩))], fun (z : Array Nat × Value) => [.obj it (.mapIter (some m) l.length z.1 l.length), .obj b1 (.cells [z.2].toArray 150), .row z.2 55 1 (z.1.toList.map (kn l)).length ((z.1.toList.map (kn l)).map kv), A z0, B z0], fun (z : Array Nat × Value) s => z.1.toList.Nodup ∧ (∀ i ∈ z.1.toList, i < l.length) ∧ z.1.size + (leftOf (ME l) z.1).size ≤ (ME l).size, fun (z : Array Nat × Value) => (leftOf (ME l) z.1).size⟩ : Lp (Array Nat × Value)) (#[], .slice (some ⟨g, 0, none⟩) 0 (ME l).size) ?_ ?_ ?_ ?_
  · intro s0 hs0
    exact ⟨List.nodup_nil, by simp, by have := Array.size_filter_le (p := fun e => !(#[] : Array Nat).contains e.born) (xs := ME l); simpa [leftOf] using this⟩
  · exact ⟨rfl, rfl, rfl, rfl,  trivial⟩
  · exact (.cons_cons _ (.cons_cons _ (.cons_cons _ (.cons_cons _ (.cons_cons _ .slnil)))))
  intro z s1 hl1 hI
  obtain ⟨seen, vk⟩ := z
  dsimp only at hI ⊢
  have hr := hr.mv hl1
  have hom := hom.mv hl1
  have hrk := hrk.mv hl1
  have hz := hz.mv hl1
  obtain ⟨hnd9, hlt9, hcnt⟩ := hI
  refine cd_sr ?_
  refine ln_next (i := 0) rfl hom rfl (ME_born l) (Nat.le_refl _) rfl (fun h0 => ?_) (fun e9 he9 => ?_)
  · skip
    refine ln_pv (pv_extract rfl rfl) rfl ?_
    refine ln_cd ?_
    refine cd_seq ?_
    refine cd_ff rfl ?_
    refine cd_exit rfl ?_
    refine at_cd ?_
    have hpm := seen_perm hnd9 hlt9 h0
    have hpl : (seen.toList.map (kn l)).length = l.length := by rw [hpm.length_eq, List.length_map]
    refine cd_rowshape (i := 2) rfl (fun adk cpk hvk hlek hposk => ?_)
    subst hvk
    obtain ⟨gk, rfl⟩ := hposk (by omega)
    refine cd_sr ?_
    refine ln_pv (pv_ldo (i := 1) rfl Tryd.underlying150 rfl rfl rfl) rfl ?_
    refine ln_pv (pv_iface Tryd.underlying150 rfl) rfl ?_
    refine ln_pv (pv_makeFunc (vf := #[]) (vc := #[.pointer (some ⟨b1, 0, none⟩)]) (by rw [List.map_toArray, List.map_toArray]; rfl) (by rw [List.map_toArray, List.map_toArray]; rfl)) rfl ?_
    refine ln_callH (E := SE gk b1 _ cpk (seen.toList.map (kn l))) (H0 := [_, _, _]) ((List.Perm.swap _ _ _).trans ((List.Perm.cons _ (List.Perm.swap _ _ _)).trans (List.Perm.swap _ _ _))) en_120 rfl (fun u hu hok hav hnd => sort_u32 u gk b1 _ cpk _ rfl hok hav hnd (by omega)) rfl ?_
    rintro u1 v1 _ ht1 ⟨_, ⟨ks9, hp9, hs9, rfl⟩, _⟩
    have hks : ks9 = us.map (·.1) := sorted_eq (hp9.trans (hrk.keys hpm)) hs9 ((List.pairwise_map).2 (hsrt.imp fun h => Nat.le_of_lt h))
    subst hks
    have hr := hr.mv ht1
    have hom := hom.mv ht1
    have hrk := hrk.mv ht1
    have hz := hz.mv ht1
    refine ln_cd ?_
    refine cd_sr ?_
    refine ln_pv (pv_ldo (i := 1) rfl Tryd.underlying150 rfl rfl rfl) rfl ?_
    refine ln_pv (pv_len_slice Tryd.underlying150 rfl) rfl ?_
    refine ln_pv (pv_move rfl) rfl ?_
    refine ln_cd ?_
    refine cd_block ?_
    refine cd_loop (⟨fun (z : Nat × β) => [(0, .pointer (some ⟨b, off, none⟩)), (1, .func (.func fn) #[] #[cap]), (37, .slice (some ⟨gk, 0, none⟩) (seen.toList.map (kn l)).length cpk), (38, .int .i64 ((seen.toList.map (kn l)).length : Int)), (39, .int .i64 ((z.1 : Nat) : Int))], fun (z : Nat × β) => [.row (.slice (some ⟨gk, 0, none⟩) (seen.toList.map (kn l)).length cpk) 55 1 (seen.toList.map (kn l)).length ((us.map (·.1)).map kv), A z.2, B z.2], fun (z : Nat × β) s => z.1 ≤ us.length ∧ Iv Inv z.1 s z.2, fun (z : Nat × β) => us.length - z.1⟩ : Lp (Nat × β)) (0, z0) ?_ ?_ ?_ ?_
    · intro s0 hs0
      exact ⟨Nat.zero_le _, hz.mv hs0⟩
    · exact ⟨rfl, rfl, rfl, rfl, rfl,  trivial⟩
    · exact (.cons_cons _ (.cons _ (.cons _ (.cons_cons _ (.cons_cons _ .slnil)))))
    intro z s2 hl2 hI
    obtain ⟨j, zw⟩ := z
    dsimp only at hI ⊢
    have hr := hr.mv hl2
    have hom := hom.mv hl2
    have hrk := hrk.mv hl2
    have hz := hz.mv hl2
    obtain ⟨hI1, hzw⟩ := hI
    refine cd_sr ?_
    refine ln_pv (pv_lss rfl rfl) rfl ?_
    refine ln_cd ?_
    refine cd_seq ?_
    refine cd_if rfl (fun hc3 => ?_) (fun hc3 => ?_)
    · -- yes
      refine cd_skip ?_
      refine at_cd ?_
      refine cd_seq ?_
      refine cd_block ?_
      have hj : j < us.length := by omega
      obtain ⟨jp, hjl, hjk, hjv⟩ := RKp.at_ hj hrk
      refine cd_sr ?_
      refine ln_pv (pv_ixN Tryd.underlying150 tiuint32.size rfl rfl (by omega)) rfl ?_
      refine ln_pv (pv_ldw1 (i := 0) (o := 0 + j * 1) (v := .int .u32 (us[j].1 : Int)) rfl Tryd.underlying55 rfl rfl (by simp [kv, hj])) rfl ?_
      refine ln_pv (pv_assign rfl) rfl ?_
      refine ln_cd ?_
      refine cd_region ?_
      refine ln_pv (pv_move rfl) rfl ?_
      refine ln_pv (pv_move rfl) rfl ?_
      refine ln_pv (pv_move rfl) rfl ?_
      refine ln_pv (pv_nilCheck rfl) rfl ?_
      refine ln_pv (pv_fieldAddr (off := 0) (r := off + 0) Tryd.underlying79 rfl timap_uint32_Sl_uint8.size rfl rfl rfl) rfl ?_
      refine ln_pv (pv_ldr (j := 0) hr Tryd.underlying77 rfl rfl rfl) rfl ?_
      refine ln_pv (pv_move rfl) rfl ?_
      refine ln_pv (pv_mapGet (e := ⟨.int .u32 (l[jp].1 : Int), l[jp].2, jp⟩) hom Tryd.underlying77 Tryd.underlying55 rfl rfl (ME_keys l) (ME_at l hjl) (by rw [hjk]) (fun e9 he9 hq9 => ME_uniq hln (ME_at l hjl) he9 hq9)) rfl ?_
      refine ln_callHv (R := fun u9 _ E9 => ∃ z9, E9 = [A z9, B z9] ∧ Iv Inv (j + 1) u9 z9) (E := [A zw, B zw]) (H0 := [_]) (vals := [.int .u32 (us[j].1 : Int), l[jp].2]) (cap := [cap]) rfl ((List.Perm.swap _ _ _).trans (List.Perm.cons _ (List.Perm.swap _ _ _))) hent rfl rfl (fun u hu hok hav hnd => hstep j hj u zw _ (hzw.mv hu) (RSv.mv hjv hu) hok hav hnd) rfl ?_
      rintro u2 v2 _ ht2 ⟨xu2, ⟨z9, rfl, hz9⟩, hxu2⟩
      have hz9 := hz9.mv hxu2
      have hr := hr.mv ht2
      have hom := hom.mv ht2
      have hrk := hrk.mv ht2
      have hz := hz.mv ht2
      have hzw := hzw.mv ht2
      have hjv := hjv.mv ht2
      refine ln_perm ((List.Perm.cons _ (List.Perm.swap _ _ _)).trans (List.Perm.swap _ _ _)) ?_
      refine ln_nil ?_
      refine at_cd ?_
      refine cd_region ?_
      refine ln_pv (pv_add' rfl rfl (wrap_succ (by omega))) rfl ?_
      refine ln_pv (pv_move rfl) rfl ?_
      refine ln_nil ?_
      refine at_rnd (j + 1, z9) (hl2.trans ht2) ?_ ?_ ⟨rfl, rfl, rfl, rfl, rfl,  trivial⟩ (.cons_cons _ (.cons_cons _ (.cons_cons _ .slnil)))
      · intro s9 hs9
        exact ⟨by dsimp only; omega, hz9.mv hs9⟩
      · dsimp only; omega
    · -- no
      refine cd_exit rfl ?_
      have hj : j = us.length := by omega
      subst hj
      exact at_retH0 [A zw, B zw] (.cons _ (.refl _)) rfl (fun w hS => ⟨zw, rfl, hzw.mv (hS.trFinH _ _)⟩)
  · skip
    obtain ⟨he1, he2⟩ := mem_left he9
    have hsh := left_shrinks _ _ _ he9
    obtain ⟨i9, hi9, rfl⟩ := ME_mem he1
    dsimp only at hsh he2 ⊢
    refine ln_pv (pv_extract rfl rfl) rfl ?_
    refine ln_cd ?_
    refine cd_seq ?_
    refine cd_tt rfl ?_
    refine cd_skip ?_
    refine at_cd ?_
    refine cd_block ?_
    refine cd_sr ?_
    refine ln_pv (pv_entry (i := 0) (e := ⟨.int .u32 (l[i9].1 : Int), l[i9].2, i9⟩) rfl hom rfl he1 (ME_nodup l)) rfl ?_
    refine ln_pv (pv_extract rfl rfl) rfl ?_
    refine ln_pv (pv_assign rfl) rfl ?_
    refine ln_cd ?_
    refine cd_region ?_
    refine ln_pv (pv_ldo (i := 1) rfl Tryd.underlying150 rfl rfl rfl) rfl ?_
    refine ln_pv (pv_move rfl) rfl ?_
    refine ln_lit (vs := [_]) Tryd.underlying150 tiuint32 rfl (by decide) rfl rfl rfl rfl rfl rfl (fun b2 => ?_)
    refine ln_append (i := 3) rfl Tryd.underlying150 tiuint32 rfl (by decide) rfl rfl (src_obj (j := 0) rfl rfl rfl) (by rw [List.length_map, Array.length_toList]; first | omega | (simp only [maxLen]; omega)) (by rw [List.length_map, Array.length_toList]; first | omega | (simp only [maxLen]; omega)) rfl (k' := ((seen.push i9).toList.map (kn l)).length) (xs' := ((seen.push i9).toList.map (kn l)).map kv) (by simp) (by simp [kv, kn, hi9, List.getD, flat, Value.cells]) (fun v3 hv3 => ?_)
    refine ln_store1 (i := 2) rfl rfl rfl hv3.2 (tiSl_uint32).size rfl ?_
    refine ln_nil ?_
    refine at_rnd (seen.push i9, v3) hl1 ?_ ?_ ⟨rfl, rfl, rfl, rfl,  trivial⟩ (.cons _ (.cons_cons _ (.cons_cons _ (.cons_cons _ (.cons_cons _ (.cons_cons _ .slnil))))))
    · intro s9 hs9
      have hni : i9 ∉ seen.toList := by simpa using he2
      refine ⟨?_, ?_, by dsimp only; rw [Array.size_push]; omega⟩
      · rw [Array.toList_push]
        exact List.nodup_append.2 ⟨hnd9, by simp, fun a ha b hb hab => by simp only [List.mem_singleton] at hb; subst hb; exact hni (hab ▸ ha)⟩
      · intro i hi
        rw [Array.toList_push] at hi
        rcases List.mem_append.1 hi with hi | hi
        · exact hlt9 i hi
        · simp only [List.mem_singleton] at hi; omega
    · exact hsh
end K
end Go.Proofs.YtjjfpdofkdolnaaDoor
namespace Go.Proofs.YtjjfpdofkdolnaaDoor
namespace K
open Go Go.Lib
abbrev TA (b3 : Nat) (c0 c1 c2 c3 : Value) (z : Value × List Value × Nat) : Ent := .obj b3 (.cells [c0, c1, c2, c3, z.1].toArray 27)
abbrev TB (z : Value × List Value × Nat) : Ent := .row z.1 58 2 z.2.2 z.2.1
def TInv (us : Tags) (j : Nat) (u : Vw) (z : Value × List Value × Nat) : Prop := z.2.2 = j ∧ RUs u (us.take j) z.2.1
theorem ln_makeN {P : Program} {n : Nat} {L : Env} {H : Hp} {C : Cx} {s : Vw} {K : Act → World → Prop} {ops : Array Oper} {rest : List Oper} {ty : TypeId} {pos : String} {af : Array Edge} {d m sz by_ : Nat} {t e : TypeId} {z : Value} {x y : Operand} {l : List Value} (hu : P.underlying t = some (.slice e)) (hti : TI P e z sz by_) (hx : ev L x = some (.int .i64 (m : Int))) (hy : ev L y = some (.int .i64 (m : Int))) (hl : madeCells z.cells (m * sz) = l.toArray)
    (hb : by_ * m ≤ 281474976710656) (hm : m ≤ 9223372036854775807) (hd : Nat.blt d n = true) (k : ∀ b, Ln P ops rest K n ((d, .slice (some ⟨b, 0, none⟩) m m) :: L) (.obj b (.cells l.toArray e) :: H) C s) :
    Ln P ops (⟨some d, .makeSlice t x y, ty, pos, af, none⟩ :: rest) K n L H C s := fun a w hF hS => by
  obtain ⟨ii, hii, hz0, hz1, hz2⟩ := info_parts hti
  have hbi : (ii.bytes : Int) * (m : Int) ≤ 281474976710656 := by
    rw [hz2]
    have h : ((by_ * m : Nat) : Int) ≤ 281474976710656 := by omega
    rwa [Int.natCast_mul] at h
  have hr := run_make (P := P) w t e ii z hu hii hz0 .i64 .i64 m m (by omega) (Int.le_refl _) hbi (by omega)
  have e1 : madeCells z.cells (((m : Int)).toNat * ii.size) = l.toArray := by rw [hz1, Int.toNat_natCast]; exact hl
  rw [e1, Int.toNat_natCast] at hr
  exact wpl_val (w' := w.alloc (.cells l.toArray e)) rfl (by simp [execOp, hF.ev hx, hF.ev hy, hr]) (k w.heap.size _ _ (hF.put d _ hd) (hS.new _))
theorem w64_i8 (x : Int) : IntKind.i64.wrap (IntKind.i8.wrap x) = IntKind.i8.wrap x := by simp [IntKind.wrap, IntKind.bits, IntKind.signed]; omega
theorem w64_i16 (x : Int) : IntKind.i64.wrap (IntKind.i16.wrap x) = IntKind.i16.wrap x := by simp [IntKind.wrap, IntKind.bits, IntKind.signed]; omega
theorem w64_i32 (x : Int) : IntKind.i64.wrap (IntKind.i32.wrap x) = IntKind.i32.wrap x := by simp [IntKind.wrap, IntKind.bits, IntKind.signed]; omega
theorem I64_i8 (x : Int) : I64 (IntKind.i8.wrap x) := by simp [I64, IntKind.wrap, IntKind.bits, IntKind.signed]; omega
theorem I64_i16 (x : Int) : I64 (IntKind.i16.wrap x) := by simp [I64, IntKind.wrap, IntKind.bits, IntKind.signed]; omega
theorem I64_i32 (x : Int) : I64 (IntKind.i32.wrap x) := by simp [I64, IntKind.wrap, IntKind.bits, IntKind.signed]; omega
theorem obj_rsS {t : Vw} {w : World} {H : Hp} {s : Vw} (hS : St ⟨t, No⟩ s H w) {i b m sz : Nat} {l : List Value} {e : TypeId} (hi : H[i]? = some (.obj b (.cells l.toArray e))) (hl : l.length = m * sz) (h1 : ∀ u ∈ l, u.oneCell' = true) : RS hS.fin sz (.slice (some ⟨b, 0, none⟩) m m) m l :=
  ⟨hl, h1, .inr ⟨⟨b, 0, none⟩, m, rfl, Nat.le_refl _, fun _ => ⟨rfl, obj_rc hS hi⟩⟩⟩
def RCx (s : Vw) (b o : Nat) (c : Value) (cs : List Value) : Prop := RC s b o (c :: cs)
theorem RCx.mv {s t : Vw} {b o : Nat} {c : Value} {cs : List Value} (h : RCx s b o c cs) (ht : Tr s t) : RCx t b o c cs := RC.mv h ht (by simp)
theorem RS_nil {s : Vw} (sz : Nat) : RS s sz (.slice none 0 0) 0 [] := ⟨by simp, by simp, .inl ⟨rfl, rfl⟩⟩
theorem RT_num {s : Vw} {n : Int} (h : I64 n) : RT s (.mk n [] false [] []) [.int .i64 n, .slice none 0 0, .bool false, .slice none 0 0, .slice none 0 0] := by
  have h0 : ∀ sz, RS s sz (.slice none 0 0) 0 [] := fun sz => ⟨by simp, by simp, .inl ⟨rfl, rfl⟩⟩
  exact RT.shut ⟨_, _, _, rfl, h, h0 1, ⟨[], h0 5, rfl⟩, ⟨[], h0 2, rfl⟩⟩
theorem RT_str {s : Vw} {sv : Value} {bs : List UInt8} {z : Bool} (h : RSv s sv bs) : RT s (.mk 0 bs z [] []) [.int .i64 0, sv, .bool z, .slice none 0 0, .slice none 0 0] :=
  RT.shut ⟨_, _, _, rfl, show I64 0 from by unfold I64; omega, h, ⟨[], RS_nil 5, rfl⟩, ⟨[], RS_nil 2, rfl⟩⟩
end K
end Go.Proofs.YtjjfpdofkdolnaaDoor
namespace Go.Proofs.YtjjfpdofkdolnaaDoor
namespace K
open Go Go.Lib
def numK (k n : Int) : Int := if k = 0 then n % 2 else if k = 1 then IntKind.i8.wrap n else if k = 2 then IntKind.i16.wrap n else if k = 3 then IntKind.i32.wrap n else if k = 5 then IntKind.u16.wrap n else n
theorem at_retCA2 {P : Program} {n : Nat} {L : Env} {H : Hp} {s : Vw} {fn : Func} {t : Vw} {R : Vw → Value → Prop} {q q2 i b sz : Nat} {rt e : TypeId} {l : List Value} {v2 : Value} {dd : TypeDesc} (hr : fn.results = #[.cell q rt, .tmp q2]) (hv : lk L q = some (.pointer (some ⟨b, 0, none⟩))) (hv2 : lk L q2 = some v2) (hi : H[i]? = some (.obj b (.cells l.toArray e)))
    (hd : P.underlying rt = some dd) (hna : (match dd with | .struct _ | .array _ _ => true | _ => false) = true) (hsz : (P.info? rt).map (·.size) = some sz) (hl : l.length = sz)
    (h : ∀ w, ∀ hS : St ⟨t, No⟩ s H w, R hS.fin (.tuple #[.agg l.toArray, v2])) : At (rpA P fn t R) n L H ⟨t, No⟩ s := fun a w hF hS => by
  refine ⟨hF.df, .tuple #[.agg l.toArray, v2], ?_, hS.fin.lt, hS.whole, h w hS⟩
  have hb := hS.sk.obj hi
  have hg := hF.get q _ hv
  have hg2 := hF.get q2 _ hv2
  have hrun := run_loadA (P := P) (w := w) (b := b) (o := 0) hd hna hsz hl (fun j v hj => cell_of_list hb _ (by simpa using hj))
  simp [results, hr, hg, hg2, asAddr, hrun, Result.andThen]
end K
end Go.Proofs.YtjjfpdofkdolnaaDoor
namespace Go.Proofs.YtjjfpdofkdolnaaDoor
namespace K
open Go Go.Lib
end K
end Go.Proofs.YtjjfpdofkdolnaaDoor
namespace Go.Proofs.YtjjfpdofkdolnaaDoor
namespace K
open Go Go.Lib
/-! ### What a struct that relates to a tree is told as -/
def tlS (k nul : Int) (y : Tre) : Tre :=
  if k = 0 then .mk (if decide (y.n % 2 = 1) then 1 else 0) [] false [] []
  else if k = 7 then .mk 0 (uuid y.s) false [] []
  else if k = 8 then (if nul < 0 then .mk 0 y.s false [] [] else .mk 0 (if y.z then [] else y.s) y.z [] [])
  else if k = 9 then .mk 0 (if y.z then [] else y.s) y.z [] []
  else .mk (numK k y.n) [] false [] []
mutual
def tlF : Fld → Tre → Tre
  | .mk k _ _ nul _ _ o sub, y =>
    if k = 11 then .mk 0 [] y.z ((els y).map fun x => if o = 10 then .mk 0 [] false (tlL sub x 0) x.u else tlS o (-1) x) []
    else if k = 10 then (if nul ≥ 0 ∧ y.z = true then .mk 0 [] true [] [] else .mk 0 [] false (tlL sub y 0) y.u)
    else tlS k nul y
def tlL : List Fld → Tre → Nat → List Tre
  | [], _, _ => []
  | f :: r, y, i => tlF f (y.at_ i) :: tlL r y (i + 1)
end
def tlT (fs : List Fld) (y : Tre) : Tre := .mk 0 [] false (tlL fs y 0) y.u
end K
end Go.Proofs.YtjjfpdofkdolnaaDoor
namespace Go.Proofs.YtjjfpdofkdolnaaDoor
namespace K
open Go Go.Lib
/-! ### As cd_dr2, where acting operations may stand ahead of the two -/
section
variable {P : Program} {ops : Array Oper} {S : World → Prop} {T : List Nat} {K1 K2 : Act → World → Prop}
theorem wpOp_np {i : Nat} {next : Act → World → Prop} {a : Act} {w : World} (h : wpOp P ops (NP K1) i next a w) : wpOp P ops (NP K2) i next a w := by
  unfold wpOp at h ⊢
  split
  · rename_i ho
    simp only [ho] at h
    exact h
  · rename_i o ho
    simp only [ho] at h
    split
    · rename_i hw
      rw [if_pos hw] at h
      rcases h with h | ⟨_, _, _, h⟩
      · refine .inl ?_
        unfold Oper.wp at *
        generalize (execOp a.eval o).run P w = rr at *
        cases rr with
        | ok x w' =>
          cases x <;> simp only [Oper.upon] at h ⊢ <;>
            first
              | exact h
              | exact Calls.mono h (fun e w'' he => by cases e <;> first | exact he | exact he.elim | (obtain ⟨_, _, he⟩ := he; exact he.elim))
        | halt x w' => cases x <;> simp only [Oper.upon] at h ⊢ <;> exact (h : False).elim
      · exact (h : False).elim
    · rename_i hw
      rw [if_neg hw] at h
      exact h
def okStep (ops : Array Oper) (T : List Nat) (listed : Array Bool) (i : Nat) : Bool := if T.contains i then Region.free .any ops listed i && (Region.ready .any ops listed).contains i else Region.ready .any ops listed == [i]
def seqPre2 (ops : Array Oper) (T : List Nat) : List Nat → Array Bool → Option (Array Bool)
  | [], listed => some listed
  | i :: r, listed => if okStep ops T listed i then seqPre2 ops T r (listed.setIfInBounds i true) else none
theorem wpAnyS_pre2 {m : Nat} {listed' : Array Bool} (hs : Region.noSelect ops = true) (hfin : ∀ a w, K1 a w → wpAnyS P ops (NP K2) S T m listed' a w) : ∀ (p : List Nat) (listed : Array Bool) (a : Act) (w : World),
    seqPre2 ops T p listed = some listed' → Lw P ops (NP K1) S T p a w → wpAnyS P ops (NP K2) S T (p.length + m) listed a w
  | [], listed, a, w, hok, h => by
    simp only [seqPre2, Option.some.injEq] at hok
    subst hok
    have e : ([] : List Nat).length + m = m := by simp
    rw [e]
    exact hfin a w h
  | i :: r, listed, a, w, hok, h => by
    simp only [seqPre2] at hok
    split at hok
    · rename_i hc
      unfold okStep at hc
      have e : (i :: r).length + m = (r.length + m) + 1 := by simp; omega
      rw [e]
      obtain ⟨o, ho, h⟩ := h
      rcases h with ⟨hT, hS, v, hy, h⟩ | ⟨hT, h⟩
      · rw [if_pos hT] at hc
        simp only [Bool.and_eq_true] at hc
        exact wpAnyS_first ho (Region.noSelect_spec hs) (fun _ _ _ h => h) hT (r.length + m) listed a w (Region.free_spec ho hc.1) (by simpa using hc.2) hy hS (wpAnyS_pre2 hs hfin r _ _ _ hok h)
      · rw [if_neg (by rw [hT]; simp)] at hc
        have hr : Region.ready .any ops listed = [i] := by simpa using hc
        refine ⟨fun h0 => (by rw [hr] at h0; cases h0), fun j hj => ?_⟩
        rw [hr, List.mem_singleton] at hj
        subst hj
        exact wpOp_np (K1 := K1) (wpOp_mono (fun a' w' h' => ⟨h'.1, wpAnyS_pre2 hs hfin r _ _ _ hok h'.2⟩) h)
    · cases hok
def seqTwo2 (ops : Array Oper) (T p : List Nat) (i j : Nat) (ri rj : List Nat) : Bool :=
  match seqPre2 ops T p (Array.replicate ops.size false) with
  | some l => Region.ready .any ops l == [i, j] && !T.contains i && !T.contains j && rj.length == ri.length && seqOk ops T ri (l.setIfInBounds i true) && seqOk ops T rj (l.setIfInBounds j true) && Region.noSelect ops && p.length + (ri.length + 1) == ops.size
  | none => false
theorem cd_dr3 {n : Nat} {L : Env} {H : Hp} {C : Cx} {s : Vw} {N R : Act → World → Prop} {X : List (Nat × (Act → World → Prop))} {id : Nat} {l : List Oper} {y : Code} (is T p : List Nat) (i j : Nat) (ri rj : List Nat) (hm : P.follows .mixedOrders = true) (hok : seqTwo2 l.toArray T p i j ri rj = true)
    (h : Lo P l.toArray (Sk s (pick is H)) T p (fun a w => Lw P l.toArray (NP (y.wp P (Post.q ⟨N, R, X⟩))) (Sk s (pick is H)) T (i :: ri) a w ∧ Lw P l.toArray (NP (y.wp P (Post.q ⟨N, R, X⟩))) (Sk s (pick is H)) T (j :: rj) a w) n L H C s) : Cd P (.seq (.region id l.toArray true) y) ⟨N, R, X⟩ n L H C s := by
  refine cd_sq (fun a w hF hS => ?_)
  unfold seqTwo2 at hok
  split at hok
  · rename_i l' hl'
    simp only [Bool.and_eq_true, Bool.not_eq_true', beq_iff_eq] at hok
    obtain ⟨⟨⟨⟨⟨⟨⟨h1, h2⟩, h3⟩, h4⟩, h5⟩, h6⟩, h7⟩, h8⟩ := hok
    refine Code.wp_mono (Q := NP (y.wp P (Post.q ⟨N, R, X⟩))) (fun e a w hq => (by cases e <;> first | exact hq | exact (hq : False).elim)) (wp_region_any hm (wpAny_of_S (S := Sk s (pick is H)) (T := T) _ _ _ _ ?_))
    rw [← h8]
    refine wpAnyS_pre2 h7 (fun a w hk => wpAnyS_two h7 (fun _ _ _ _ _ h => h) h1 h2 h3 h4 h5 h6 hk.1 hk.2) p _ _ _ ?_ (h a w.drew hF (hS.step (Mod.drew No w)))
    rw [h8]
    exact hl'
  · cases hok
end
end K
end Go.Proofs.YtjjfpdofkdolnaaDoor
namespace Go.Proofs.YtjjfpdofkdolnaaDoor
namespace K
open Go Go.Lib
/-! ### What must hold of a tree's tags and octets for it to be told, all the way down -/
def tagsOk (u : Tags) : Prop := u.Pairwise (fun x z => x.1 < z.1) ∧ (∀ z ∈ u, z.1 < 4294967296) ∧ (∀ z ∈ u, z.2.length ≤ 4398046511104) ∧ u.length < 1099511627776
mutual
def tgF : Fld → Tre → Prop
  | .mk k _ _ nul _ _ o sub, y =>
    if k = 11 then (els y).length ≤ 32767 ∧ ∀ x ∈ els y, if o = 10 then tagsOk x.u ∧ tgL sub x 0 else x.s.length ≤ 32767
    else if k = 10 then (if nul ≥ 0 ∧ y.z = true then True else tagsOk y.u ∧ tgL sub y 0)
    else y.s.length ≤ 32767
def tgL : List Fld → Tre → Nat → Prop
  | [], _, _ => True
  | f :: r, y, i => tgF f (y.at_ i) ∧ tgL r y (i + 1)
end
def tgT (fs : List Fld) (y : Tre) : Prop := tagsOk y.u ∧ tgL fs y 0
theorem tagsOk_nil : tagsOk [] := by simp [tagsOk]
theorem els_mk (n : Int) (s : List UInt8) (z : Bool) (l : List Tre) (u : Tags) : els (.mk n s z l u) = if z then [] else l := rfl
section
variable {k a b nul c d o : Int} {sub : List Fld} {y : Tre}
theorem tgF_list : tgF (.mk 11 a b nul c d o sub) y ↔ (els y).length ≤ 32767 ∧ ∀ x ∈ els y, if o = 10 then tagsOk x.u ∧ tgL sub x 0 else x.s.length ≤ 32767 := by simp only [tgF, if_true]
theorem tgF_part : tgF (.mk 10 a b nul c d o sub) y ↔ if nul ≥ 0 ∧ y.z = true then True else tagsOk y.u ∧ tgL sub y 0 := by
  simp only [tgF]
  rw [if_neg (by decide), if_pos trivial]
theorem tgF_sc (h1 : ¬ k = 11) (h2 : ¬ k = 10) : tgF (.mk k a b nul c d o sub) y ↔ y.s.length ≤ 32767 := by
  simp only [tgF]
  rw [if_neg h1, if_neg h2]
end
mutual
theorem tgF_df : ∀ f : Fld, tgF f (dfF f)
  | .mk k a b nul c d o sub => by
    have ih := tgL_df sub
    by_cases h11 : k = 11
    · subst h11
      have e : dfF (.mk 11 a b nul c d o sub) = .mk 0 [] true [] [] := by simp [dfF]
      rw [e, tgF_list]
      simp [els_mk]
    · by_cases h10 : k = 10
      · subst h10
        by_cases hn : nul ≥ 0
        · have e : dfF (.mk 10 a b nul c d o sub) = .mk 0 [] true [] [] := by simp [dfF, hn]
          rw [e, tgF_part, if_pos ⟨hn, rfl⟩]; trivial
        · have e : dfF (.mk 10 a b nul c d o sub) = .mk 0 [] false (dfL sub) [] := by simp [dfF, hn]
          rw [e, tgF_part, if_neg (fun h => hn h.1)]
          exact ⟨tagsOk_nil, ih [] 0 rfl⟩
      · rw [tgF_sc h11 h10]
        unfold dfF
        rw [if_neg h10]
        repeat' split
        all_goals simp [Tre.s]
theorem tgL_df : ∀ (fs : List Fld) (p : List Tre) (i : Nat), p.length = i → tgL fs (.mk 0 [] false (p ++ dfL fs) []) i
  | [], _, _, _ => by simp [tgL]
  | f :: r, p, i, hp => by
    have h1 := tgF_df f
    have h2 := tgL_df r (p ++ [dfF f]) (i + 1) (by simp [hp])
    simp only [tgL, dfL]
    rw [List.append_assoc] at h2
    refine ⟨?_, h2⟩
    simpa [Tre.at_, Tre.l, ← hp] using h1
end
end K
end Go.Proofs.YtjjfpdofkdolnaaDoor
namespace Go.Proofs.YtjjfpdofkdolnaaDoor
namespace K
open Go Go.Lib
/-! ### What spec.Told asks of what is told, and that the image of a tree gives it -/
mutual
def nT : Tre → Prop
  | .mk n _ _ l _ => I64 n ∧ nTs l
def nTs : List Tre → Prop
  | [] => True
  | x :: r => nT x ∧ nTs r
end
theorem nTs.mem : ∀ {l : List Tre}, nTs l → ∀ x ∈ l, nT x
  | [], _, f, h => by simp at h
  | g :: r, h, f, hf => by
    simp only [nTs] at h
    rcases List.mem_cons.1 hf with rfl | hf
    · exact h.1
    · exact nTs.mem h.2 f hf
theorem nT.open {x : Tre} (h : nT x) : I64 x.n ∧ nTs x.l := by
  cases x
  simpa only [nT, Tre.l, Tre.n] using h
theorem nT.nul : nT .nul := by simp [Tre.nul, nT, nTs, I64]
theorem nT.at_ {x : Tre} (h : nT x) (i : Nat) : nT (x.at_ i) := by
  unfold Tre.at_
  by_cases hi : i < x.l.length
  · rw [List.getElem?_eq_getElem hi]
    exact nTs.mem h.open.2 _ (List.getElem_mem hi)
  · rw [List.getElem?_eq_none (by omega)]
    exact nT.nul
mutual
theorem RT.nT {s : Vw} : ∀ {x : Tre} {cs : List Value}, RT s x cs → nT x
  | .mk n b z l u, cs, h => by
    simp only [RT] at h
    obtain ⟨sS, sL, sU, _, h2, _, ⟨lc, _, h5⟩, ⟨uc, _, h7⟩⟩ := h
    simp only [K.nT]
    exact ⟨h2, RTs.nT h5⟩
theorem RTs.nT {s : Vw} : ∀ {l : List Tre} {cs : List Value}, RTs s l cs → nTs l
  | [], cs, h => by simp [nTs]
  | x :: r, cs, h => by
    simp only [RTs] at h
    obtain ⟨c, c', _, h2, h3⟩ := h
    simp only [nTs]
    exact ⟨RT.nT h2, RTs.nT h3⟩
end
theorem tlL_length : ∀ (fs : List Fld) (y : Tre) (i : Nat), (tlL fs y i).length = fs.length
  | [], _, _ => rfl
  | f :: r, y, i => by simp [tlL, tlL_length r y (i + 1)]
section
variable {k a b nul c d o : Int} {sub : List Fld} {y : Tre}
theorem tlF_list : tlF (.mk 11 a b nul c d o sub) y = .mk 0 [] y.z ((els y).map fun x => if o = 10 then .mk 0 [] false (tlL sub x 0) x.u else tlS o (-1) x) [] := by simp only [tlF, if_true]
theorem tlF_part : tlF (.mk 10 a b nul c d o sub) y = if nul ≥ 0 ∧ y.z = true then .mk 0 [] true [] [] else .mk 0 [] false (tlL sub y 0) y.u := by
  simp only [tlF]
  rw [if_neg (by decide), if_pos trivial]
theorem tlF_sc (h1 : ¬ k = 11) (h2 : ¬ k = 10) : tlF (.mk k a b nul c d o sub) y = tlS k nul y := by
  simp only [tlF]
  rw [if_neg h1, if_neg h2]
end
/-! ### what is told is small -/
theorem smTs_of : ∀ {l : List Tre}, (∀ x ∈ l, smT x) → smTs l
  | [], _ => by simp [smTs]
  | x :: r, h => ⟨h x (by simp), smTs_of fun y hy => h y (by simp [hy])⟩
theorem smT_tlS {k nul : Int} {y : Tre} (h : y.s.length ≤ 32767) : smT (tlS k nul y) := by
  have h0 : ∀ n z, smT (.mk n [] z [] []) := fun n z => ⟨by simp, by simp, by simp, by simp [smTs]⟩
  have h1 : ∀ (s : List UInt8) z, s.length ≤ 32767 → smT (.mk 0 s z [] []) := fun s z hs => ⟨by omega, by simp, by simp, by simp [smTs]⟩
  unfold tlS
  repeat' split
  all_goals first | exact h0 _ _ | exact h1 _ _ h | exact h1 _ _ (by rw [uuid_length]; decide) | (refine h1 _ _ ?_; simp)
mutual
theorem smT_tlF : ∀ (f : Fld) (y : Tre), okF f = true → tgF f y → smT (tlF f y)
  | .mk k a b nul c d o sub, y, ho, hg => by
    have ih := fun x i h => smTs_tlL sub x i (okF.sub ho) h
    have hl : sub.length < 1000000 := okF.len ho
    by_cases h11 : k = 11
    · subst h11
      rw [tgF_list] at hg
      rw [tlF_list]
      refine ⟨by simp, by rw [List.length_map]; omega, by simp, smTs_of fun x hx => ?_⟩
      obtain ⟨w, hw, rfl⟩ := List.mem_map.1 hx
      have h := hg.2 w hw
      by_cases ho10 : o = 10
      · simp only [if_pos ho10] at h ⊢
        exact ⟨by simp, by rw [tlL_length]; omega, h.1.2.2.2, ih w 0 h.2⟩
      · simp only [if_neg ho10] at h ⊢
        exact smT_tlS h
    by_cases h10 : k = 10
    · subst h10
      rw [tgF_part] at hg
      rw [tlF_part]
      by_cases hz : nul ≥ 0 ∧ y.z = true
      · rw [if_pos hz]
        exact ⟨by simp, by simp, by simp, by simp [smTs]⟩
      · rw [if_neg hz] at hg ⊢
        exact ⟨by simp, by rw [tlL_length]; omega, hg.1.2.2.2, ih y 0 hg.2⟩
    rw [tgF_sc h11 h10] at hg
    rw [tlF_sc h11 h10]
    exact smT_tlS hg
theorem smTs_tlL : ∀ (fs : List Fld) (y : Tre) (i : Nat), okFs fs = true → tgL fs y i → smTs (tlL fs y i)
  | [], _, _, _, _ => by simp [tlL, smTs]
  | f :: r, y, i, ho, hg => by
    simp only [tgL] at hg
    simp only [okFs, Bool.and_eq_true] at ho
    exact ⟨smT_tlF f _ ho.1 hg.1, smTs_tlL r y (i + 1) ho.2 hg.2⟩
end
theorem smT_tlT {fs : List Fld} {y : Tre} (ho : okFs fs = true) (hl : fs.length < 1000000) (hg : tgT fs y) : smT (tlT fs y) := ⟨by simp, by rw [tlL_length]; omega, hg.1.2.2.2, smTs_tlL fs y 0 ho hg.2⟩
end K
end Go.Proofs.YtjjfpdofkdolnaaDoor
namespace Go.Proofs.YtjjfpdofkdolnaaDoor
namespace K
open Go Go.Lib
/-! ### Lists, ids and null parts that are told -/
abbrev esl (o : Int) (sub : List Fld) : Nat := if o = 7 then 16 else if o = 10 then fszs sub + 1 else 1
theorem esl_pos (o : Int) (sub : List Fld) : 0 < esl o sub := by
  unfold esl
  split
  · omega
  · split <;> omega
def LsF (s : Vw) (o : Int) (sub : List Fld) (l : List Tre) (ad : Option Addr) : Prop := l.length = 0 ∨ (0 < l.length ∧ ∃ g off lc, ad = some ⟨g, off, none⟩ ∧ RC s g off lc ∧ lc.length = l.length * esl o sub ∧ ∀ i, (hi : i < l.length) → REl s o sub l[i] (seg lc i (esl o sub)))
theorem LsF.of {s : Vw} {o : Int} {sub : List Fld} {l : List Tre} {ad : Option Addr} (h : l.length = 0 ∨ ∃ g off lc, ad = some ⟨g, off, none⟩ ∧ RC s g off lc ∧ lc.length = l.length * esl o sub ∧ ∀ i, (hi : i < l.length) → REl s o sub l[i] (seg lc i (esl o sub))) : LsF s o sub l ad := by
  by_cases h0 : l.length = 0
  · exact .inl h0
  · rcases h with h | h
    · exact .inl h
    · exact .inr ⟨by omega, h⟩
theorem LsF.mv {s t : Vw} {o : Int} {sub : List Fld} {l : List Tre} {ad : Option Addr} (h : LsF s o sub l ad) (ht : Tr s t) : LsF t o sub l ad := by
  rcases h with h | ⟨h0, g, off, lc, h1, h2, h3, h4⟩
  · exact .inl h
  · refine .inr ⟨h0, g, off, lc, h1, h2.mv ht (fun hn => ?_), h3, fun i hi => (h4 i hi).mv ht⟩
    have := Nat.mul_pos h0 (esl_pos o sub)
    rw [hn] at h3
    simp at h3
    omega
def RCn (s : Vw) (b o : Nat) (cs : List Value) : Prop := cs ≠ [] ∧ RC s b o cs
theorem RCn.mv {s t : Vw} {b o : Nat} {cs : List Value} (h : RCn s b o cs) (ht : Tr s t) : RCn t b o cs := ⟨h.1, h.2.mv ht h.1⟩
theorem LsF.at_ {s : Vw} {o : Int} {sub : List Fld} {l : List Tre} {ad : Option Addr} {sz : Nat} (h : LsF s o sub l ad) {i : Nat} (hi : i < l.length) (hz : esl o sub = sz) : ∃ g off cs, ad = some ⟨g, off, none⟩ ∧ RCn s g (off + i * sz) cs ∧ REl s o sub l[i] cs := by
  subst hz
  rcases h with h | ⟨h0, g, off, lc, h1, h2, h3, h4⟩
  · omega
  · refine ⟨g, off, seg lc i (esl o sub), h1, ⟨fun hn => ?_, seg_rc h2 h3 hi⟩, h4 i hi⟩
    have hp := esl_pos o sub
    have h5 : i * esl o sub + esl o sub ≤ lc.length := by
      have : (i + 1) * esl o sub ≤ l.length * esl o sub := Nat.mul_le_mul_right _ hi
      rw [Nat.succ_mul] at this
      omega
    have : (seg lc i (esl o sub)).length = esl o sub := by
      unfold seg
      rw [List.length_take, List.length_drop]
      omega
    rw [hn] at this
    simp at this
    omega
theorem RTs_snoc {s : Vw} {f : Tre → Tre} {l : List Tre} {i : Nat} {ys ds : List Value} (hi : i < l.length) (h : RTs s ((l.take i).map f) ys) (hd : RT s (f l[i]) ds) : RTs s ((l.take (i + 1)).map f) (ys ++ ds) := by
  rw [take_snoc' hi, List.map_append]
  exact RTs.append h (RTs.one hd)
theorem RT_list {s : Vw} {z z' : Bool} {vv : Value} {l : List Tre} {m : Nat} {ys : List Value} (hz : z = z') (hm : m = l.length) (h : RS s 5 vv m ys) (hl : RTs s l ys) : RT s (.mk 0 [] z' l []) [.int .i64 0, .slice none 0 0, .bool z, vv, .slice none 0 0] := by
  subst hz hm
  exact RT.shut ⟨_, _, _, rfl, (show I64 0 from by unfold I64; omega), RS_nil 1, ⟨ys, h, hl⟩, ⟨[], RS_nil 2, rfl⟩⟩
theorem wr_end {xs z vs : List Value} {o : Nat} (hz : z.length = vs.length) (ho : o = xs.length) : wr (xs ++ z) o vs = xs ++ vs := by
  subst ho
  unfold wr
  rw [List.take_left, ← hz, ← List.length_append, List.drop_length]
  simp
theorem ln_rowshp {P : Program} {n : Nat} {L : Env} {H : Hp} {C : Cx} {s : Vw} {ops : Array Oper} {K : Act → World → Prop} {l : List Oper} {i : Nat} {v : Value} {e : TypeId} {sz m : Nat} {xs : List Value} (hi : H[i]? = some (.row v e sz m xs)) (h : ∀ ad cp, v = .slice ad m cp → m ≤ cp → (0 < m → ∃ g, ad = some ⟨g, 0, none⟩) → Ln P ops l K n L H C s) : Ln P ops l K n L H C s := fun a w hF hS => by
  obtain ⟨ad, cp, h1, h2, h3⟩ := ownsRow_shape (hS.hf _ (List.mem_of_getElem? hi))
  exact h ad cp h1 h2 h3 a w hF hS
theorem RTs.len5 {s : Vw} : ∀ {l : List Tre} {cs : List Value}, RTs s l cs → cs.length = l.length * 5
  | [], cs, h => by
    simp only [RTs] at h
    subst h
    rfl
  | x :: r, cs, h => by
    simp only [RTs] at h
    obtain ⟨c, c', rfl, h1, h2⟩ := h
    rw [List.length_append, h1.len, RTs.len5 h2, List.length_cons]
    omega
theorem RT_e3 {s : Vw} {x : Tre} : RT s (tlS 3 (-1) x) [.int .i64 (IntKind.i32.wrap x.n), .slice none 0 0, .bool false, .slice none 0 0, .slice none 0 0] := by
  show RT s (.mk (IntKind.i32.wrap x.n) [] false [] []) _
  exact RT_num (I64_i32 _)
end K
end Go.Proofs.YtjjfpdofkdolnaaDoor
