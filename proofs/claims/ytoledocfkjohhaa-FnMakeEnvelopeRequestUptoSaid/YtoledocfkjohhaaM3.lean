import Derived.Test.YtoledocfkjohhaaM2
set_option linter.unusedVariables false
set_option linter.unusedSimpArgs false
namespace Go.Proofs.Ytoledocfkjohhaa
namespace K
open Go Go.Lib
theorem nodup_new {l : List (Nat × Value)} {u : Tags} {j : Nat} (hj : j < u.length) (hk : l.map (·.1) = (u.take j).map (·.1)) (hn : (u.map (·.1)).Nodup) : ∀ y ∈ l, y.1 ≠ u[j].1 := fun y hy he => by
  have h1 : u[j].1 ∈ (u.take j).map (·.1) := by rw [← hk, ← he]; exact List.mem_map_of_mem hy
  have h2 : (u.map (·.1)).take (j + 1) = (u.take j).map (·.1) ++ [u[j].1] := by
    rw [← List.map_take, take_snoc' hj, List.map_append]; rfl
  have h3 := hn.sublist (List.take_sublist (j + 1) (u.map (·.1)))
  rw [h2] at h3
  exact (List.nodup_append.1 h3).2.2 _ h1 _ (by simp) rfl
def Msg_AddOffsetsToTxnResponse (s : Vw) (v : Int) (x : Tre) (cells : List Value) : Prop := ∃ mv l, cells = [.int .i16 v, .int .i32 (IntKind.i32.wrap (x.at_ 0).n), .int .i16 (IntKind.i16.wrap (x.at_ 1).n), mv] ∧ MK s mv l ∧ RK s l x.u
theorem setv_AddOffsetsToTxnResponse (t : Vw) (b : Nat) (v : Int) (hok : (Ent.obj b (.cells ([.int .i16 0, .int .i32 0, .int .i16 0, .map none] : List Value).toArray 55)).ok t.w) (hav : ∀ q ∈ (Ent.obj b (.cells ([.int .i16 0, .int .i32 0, .int .i16 0, .map none] : List Value).toArray 55)).blk, t.av q) : CT Try.prog 32 [.pointer (some ⟨b, 0, none⟩), .int .i16 v] t (.obj b (.cells ([.int .i16 0, .int .i32 0, .int .i16 0, .map none] : List Value).toArray 55)) fun u r e' => e' = .obj b (.cells ([.int .i16 v, .int .i32 0, .int .i16 0, .map none] : List Value).toArray 55) := by
  refine ct_enter Try.func32 rfl Try.ntmps32 rfl hok hav (by simp [Ent.blk]) ?_
  refine cd_region ?_
  refine ln_pv (pv_move rfl) rfl ?_
  refine ln_pv (pv_move rfl) rfl ?_
  refine ln_pv (pv_nilCheck rfl) rfl ?_
  refine ln_pv (pv_fieldAddr (off := 0) (r := 0) Try.underlying55 rfl (tiint16).size rfl rfl rfl) rfl ?_
  refine ln_store1 (i := 0) rfl rfl rfl rfl (tiint16).size rfl ?_
  refine ln_nil ?_
  exact at_retT0 (i := 0) rfl rfl (fun w hS => rfl)
theorem fill_AddOffsetsToTxnResponse (t : Vw) (b0 : Nat) (v : Int) (x : Tre) (cs : List Value) (hx : RT t x cs) (hsm : smT x) (hk : (x.u.map (·.1)).Nodup) (hok : (Ent.obj b0 (.cells ([.int .i16 v, .int .i32 0, .int .i16 0, .map none] : List Value).toArray 55)).ok t.w) (hav : ∀ q ∈ (Ent.obj b0 (.cells ([.int .i16 v, .int .i32 0, .int .i16 0, .map none] : List Value).toArray 55)).blk, t.av q) : CT Try.prog 33 [.pointer (some ⟨b0, 0, none⟩), .agg cs.toArray] t (.obj b0 (.cells ([.int .i16 v, .int .i32 0, .int .i16 0, .map none] : List Value).toArray 55)) fun u r e' => ∃ cells, e' = .obj b0 (.cells cells.toArray 55) ∧ Msg_AddOffsetsToTxnResponse u v x cells := by
  obtain ⟨sS, sL, sU, rfl, hn, hS, ⟨lc, hL, hLs⟩, hU⟩ := hx.open
  obtain ⟨adS, cS, rfl, hleS⟩ := hS.shape
  obtain ⟨adL, cL, rfl, hleL⟩ := hL.shape
  have hU0 := hU
  obtain ⟨uc, hU1, hUs⟩ := hU0
  obtain ⟨hz1, hz2, hz3, hz4⟩ := hsm.open
  obtain ⟨adU, cU, rfl, hleU⟩ := hU1.shape
  refine ct_enter Try.func33 rfl Try.ntmps33 rfl hok hav (by simp [Ent.blk]) ?_
  refine cd_sr ?_
  refine ln_box rfl rfl rfl (fun b1 => ?_)
  refine ln_cd ?_
  refine cd_sr ?_
  refine ln_pv (pv_move rfl) rfl ?_
  refine ln_pv (pv_ldO (i := 0) rfl Try.underlying39 rfl (tiimpl_Tree).size rfl rfl) rfl ?_
  refine ln_callA en_62 rfl (fun u hu => impl_at u x _ 0 (RT.mv hx hu)) rfl (fun u1 v1 ht1 hR1 => ?_)
  have hx := hx.mv ht1
  have hS := hS.mv ht1
  have hU1 := hU1.mv ht1
  have hUs := hUs.mv ht1
  have hL := hL.mv ht1
  obtain ⟨dt1, rfl, hdt1⟩ := hR1
  obtain ⟨sA1, sB1, sC1, rfl, hnA1, hSA1, ⟨lB1, hLB1, hLsB1⟩, hUC1⟩ := hdt1.open
  have hUC01 := hUC1
  obtain ⟨uC1, hUC11, hUs1⟩ := hUC01
  refine ln_pv (pv_field1 Try.underlying39 rfl Try.underlying2 rfl rfl rfl) rfl ?_
  refine ln_pv (pv_conv Try.underlying2 Try.underlying21 rfl) rfl ?_
  refine ln_pv (pv_nilCheck rfl) rfl ?_
  refine ln_pv (pv_fieldAddr (off := 1) (r := 1) Try.underlying55 rfl (tiint32).size rfl rfl rfl) rfl ?_
  refine ln_store1 (i := 1) rfl rfl rfl rfl (tiint32).size rfl ?_
  refine ln_cd ?_
  refine cd_sr ?_
  refine ln_pv (pv_move rfl) rfl ?_
  refine ln_pv (pv_ldO (i := 0) rfl Try.underlying39 rfl (tiimpl_Tree).size rfl rfl) rfl ?_
  refine ln_callA en_62 rfl (fun u hu => impl_at u x _ 1 (RT.mv hx hu)) rfl (fun u2 v2 ht2 hR2 => ?_)
  have hx := hx.mv ht2
  have hS := hS.mv ht2
  have hU1 := hU1.mv ht2
  have hUs := hUs.mv ht2
  have hL := hL.mv ht2
  have hdt1 := hdt1.mv ht2
  have hSA1 := hSA1.mv ht2
  have hLB1 := hLB1.mv ht2
  have hUC11 := hUC11.mv ht2
  obtain ⟨dt2, rfl, hdt2⟩ := hR2
  obtain ⟨sA2, sB2, sC2, rfl, hnA2, hSA2, ⟨lB2, hLB2, hLsB2⟩, hUC2⟩ := hdt2.open
  have hUC02 := hUC2
  obtain ⟨uC2, hUC12, hUs2⟩ := hUC02
  refine ln_pv (pv_field1 Try.underlying39 rfl Try.underlying2 rfl rfl rfl) rfl ?_
  refine ln_pv (pv_conv Try.underlying2 Try.underlying45 rfl) rfl ?_
  refine ln_pv (pv_nilCheck rfl) rfl ?_
  refine ln_pv (pv_fieldAddr (off := 2) (r := 2) Try.underlying55 rfl (tiint16).size rfl rfl rfl) rfl ?_
  refine ln_store1 (i := 1) rfl rfl rfl rfl (tiint16).size rfl ?_
  refine ln_cd ?_
  refine cd_sr ?_
  refine ln_pv (pv_fieldAddr (off := 4) (r := 4) Try.underlying39 rfl (tiSl_impl_Tag).size rfl rfl rfl) rfl ?_
  refine ln_pv (pv_ldo (i := 0) rfl Try.underlying37 rfl rfl rfl) rfl ?_
  refine ln_pv (pv_len_slice Try.underlying37 rfl) rfl ?_
  refine ln_pv (pv_move rfl) rfl ?_
  refine ln_cd ?_
  refine cd_block ?_
  refine cd_loop (⟨fun (z : Nat × Option Nat × List (Nat × Value)) => [(0, .pointer (some ⟨b0, 0, none⟩)), (21, .slice adU x.u.length cU), (22, .int .i64 (x.u.length : Int)), (23, .int .i64 ((z.1 : Nat) : Int))], fun (z : Nat × Option Nat × List (Nat × Value)) => ((match z.2.1 with | none => [] | some m => [.obj m (.map (ME z.2.2) z.2.2.length)]) ++ [.obj b0 (.cells [.int .i16 v, .int .i32 (IntKind.i32.wrap (x.at_ 0).n), .int .i16 (IntKind.i16.wrap (x.at_ 1).n), (match z.2.1 with | none => .map none | some m => .map (some m))].toArray 55)]), fun (z : Nat × Option Nat × List (Nat × Value)) s => z.1 ≤ x.u.length ∧ RK s z.2.2 (x.u.take z.1) ∧ (z.2.1 = none → z.2.2 = []), fun (z : Nat × Option Nat × List (Nat × Value)) => x.u.length - z.1⟩ : Lp (Nat × Option Nat × List (Nat × Value))) (0, none, []) ?_ ?_ ?_ ?_
  · intro s0 hs0
    exact ⟨Nat.zero_le _, rfl, fun _ => rfl⟩
  · exact ⟨rfl, rfl, rfl, rfl,  trivial⟩
  · exact (.cons _ (.cons_cons _ .slnil))
  intro z s1 hl1 hI
  obtain ⟨j, mo, l⟩ := z
  dsimp only at hI ⊢
  have hx := hx.mv hl1
  have hS := hS.mv hl1
  have hU1 := hU1.mv hl1
  have hUs := hUs.mv hl1
  have hL := hL.mv hl1
  have hdt1 := hdt1.mv hl1
  have hSA1 := hSA1.mv hl1
  have hLB1 := hLB1.mv hl1
  have hUC11 := hUC11.mv hl1
  have hdt2 := hdt2.mv hl1
  have hSA2 := hSA2.mv hl1
  have hLB2 := hLB2.mv hl1
  have hUC12 := hUC12.mv hl1
  obtain ⟨hI, hRK, hmo⟩ := hI
  rcases mo with _ | m
  · skip
    obtain rfl := hmo rfl
    dsimp only [List.nil_append, List.cons_append]
    refine cd_sr ?_
    refine ln_pv (pv_lss rfl rfl) rfl ?_
    refine ln_cd ?_
    refine cd_seq ?_
    refine cd_if rfl (fun hc1 => ?_) (fun hc1 => ?_)
    · -- yes
      refine cd_skip ?_
      refine at_cd ?_
      refine cd_seq ?_
      refine cd_block ?_
      have hj : j < x.u.length := by omega
      obtain ⟨bu, ou, rfl, hrc⟩ := hU1.pos (by omega) (by decide)
      obtain ⟨c1, tv, c3, he, hkq, hkk, hTv⟩ := RUs.at_ hj hUs
      have hsub := hrc.sub (j * 2) he hkq
      refine cd_sr ?_
      refine ln_pv (pv_ixN Try.underlying37 tiimpl_Tag.size rfl rfl hj) rfl ?_
      refine ln_pv (pv_ldR hsub Try.underlying62 rfl (tiimpl_Tag).size rfl rfl) rfl ?_
      refine ln_alloc tiimpl_Tag rfl rfl (fun b2 => ?_)
      refine ln_storeW (i := 0) rfl rfl rfl rfl (tiimpl_Tag).size rfl (by simp [(RS.one hTv)]) ?_
      refine ln_cd ?_
      refine cd_draw' [0] [0, 1, 2, 3, 4, 5, 6] [0, 1, 2, 3, 4, 5, 6, 7] mixed (by kernel_rfl) ?_
      refine lo_pv rfl rfl (sk_js (Tr.refl _) [0] rfl) (pv_move rfl) rfl ?_
      refine lo_pv rfl rfl (sk_js (Tr.refl _) [0] rfl) (pv_nilCheck rfl) rfl ?_
      refine lo_pv rfl rfl (sk_js (Tr.refl _) [0] rfl) (pv_fieldAddr (off := 3) (r := 3) Try.underlying55 rfl (tipub_kmsg_Tags).size rfl rfl rfl) rfl ?_
      refine lo_pv rfl rfl (sk_js (Tr.refl _) [0] rfl) (pv_fieldAddr (off := 0) (r := 0) Try.underlying62 rfl (tiuint32).size rfl rfl rfl) rfl ?_
      refine lo_pv rfl rfl (sk_js (Tr.refl _) [0] rfl) (pv_ldo (i := 0) rfl Try.underlying59 rfl rfl rfl) rfl ?_
      refine lo_pv rfl rfl (sk_js (Tr.refl _) [0] rfl) (pv_fieldAddr (off := 1) (r := 1) Try.underlying62 rfl (tiSl_uint8).size rfl rfl rfl) rfl ?_
      refine lo_pv rfl rfl (sk_js (Tr.refl _) [0] rfl) (pv_ldo (i := 0) rfl Try.underlying22 rfl rfl rfl) rfl ?_
      refine lo_eff rfl rfl ?_
      refine ln_callH (E := [_]) (H0 := [_]) (List.Perm.swap _ _ _) en_63 rfl (fun u hu hok hav hnd => tags_Set0 u b0 3 x.u[j].1 _ _ _ rfl hok hav hnd) rfl ?_
      rintro u3 v3 _ ht3 ⟨_, ⟨m, rfl⟩, _⟩
      have hx := hx.mv ht3
      have hS := hS.mv ht3
      have hU1 := hU1.mv ht3
      have hUs := hUs.mv ht3
      have hL := hL.mv ht3
      have hdt1 := hdt1.mv ht3
      have hSA1 := hSA1.mv ht3
      have hLB1 := hLB1.mv ht3
      have hUC11 := hUC11.mv ht3
      have hdt2 := hdt2.mv ht3
      have hSA2 := hSA2.mv ht3
      have hLB2 := hLB2.mv ht3
      have hUC12 := hUC12.mv ht3
      have hRK := hRK.mv ht3
      have hTv := hTv.mv ht3
      refine lo_back (sk_js ht3 [2] rfl) ?_
      refine lo_nil ?_
      refine at_cd ?_
      refine cd_region ?_
      refine ln_pv (pv_add' rfl rfl (wrap_succ (by omega))) rfl ?_
      refine ln_pv (pv_move rfl) rfl ?_
      refine ln_nil ?_
      refine at_rnd (j + 1, some m, [(x.u[j].1, tv)]) (hl1.trans ht3) ?_ ?_ ⟨rfl, rfl, rfl, rfl,  trivial⟩ (.cons_cons _ (.cons_cons _ (.cons _ .slnil)))
      · intro s9 hs9
        refine ⟨by dsimp only; omega, ?_, fun h => by cases h⟩
        rw [take_snoc' hj]
        exact RK.snoc (l := []) (RSv.mv hTv hs9) (RK.mv hs9 hRK)
      · dsimp only; omega
    · -- no
      refine cd_exit rfl ?_
      have hj : j = x.u.length := by omega
      subst hj
      rw [List.take_length] at hRK
      exact at_retT0 (i := 0) rfl rfl (fun w hS => ⟨_, rfl, _, _, rfl, .inl ⟨rfl, rfl⟩, RK.mv (hS.trFinT _ _) hRK⟩)
  · skip
    dsimp only [List.nil_append, List.cons_append]
    refine cd_sr ?_
    refine ln_pv (pv_lss rfl rfl) rfl ?_
    refine ln_cd ?_
    refine cd_seq ?_
    refine cd_if rfl (fun hc1 => ?_) (fun hc1 => ?_)
    · -- yes
      refine cd_skip ?_
      refine at_cd ?_
      refine cd_seq ?_
      refine cd_block ?_
      have hj : j < x.u.length := by omega
      obtain ⟨bu, ou, rfl, hrc⟩ := hU1.pos (by omega) (by decide)
      obtain ⟨c1, tv, c3, he, hkq, hkk, hTv⟩ := RUs.at_ hj hUs
      have hsub := hrc.sub (j * 2) he hkq
      refine cd_sr ?_
      refine ln_pv (pv_ixN Try.underlying37 tiimpl_Tag.size rfl rfl hj) rfl ?_
      refine ln_pv (pv_ldR hsub Try.underlying62 rfl (tiimpl_Tag).size rfl rfl) rfl ?_
      refine ln_alloc tiimpl_Tag rfl rfl (fun b3 => ?_)
      refine ln_storeW (i := 0) rfl rfl rfl rfl (tiimpl_Tag).size rfl (by simp [(RS.one hTv)]) ?_
      refine ln_cd ?_
      refine cd_draw' [0] [0, 1, 2, 3, 4, 5, 6] [0, 1, 2, 3, 4, 5, 6, 7] mixed (by kernel_rfl) ?_
      refine lo_pv rfl rfl (sk_js (Tr.refl _) [0] rfl) (pv_move rfl) rfl ?_
      refine lo_pv rfl rfl (sk_js (Tr.refl _) [0] rfl) (pv_nilCheck rfl) rfl ?_
      refine lo_pv rfl rfl (sk_js (Tr.refl _) [0] rfl) (pv_fieldAddr (off := 3) (r := 3) Try.underlying55 rfl (tipub_kmsg_Tags).size rfl rfl rfl) rfl ?_
      refine lo_pv rfl rfl (sk_js (Tr.refl _) [0] rfl) (pv_fieldAddr (off := 0) (r := 0) Try.underlying62 rfl (tiuint32).size rfl rfl rfl) rfl ?_
      refine lo_pv rfl rfl (sk_js (Tr.refl _) [0] rfl) (pv_ldo (i := 0) rfl Try.underlying59 rfl rfl rfl) rfl ?_
      refine lo_pv rfl rfl (sk_js (Tr.refl _) [0] rfl) (pv_fieldAddr (off := 1) (r := 1) Try.underlying62 rfl (tiSl_uint8).size rfl rfl rfl) rfl ?_
      refine lo_pv rfl rfl (sk_js (Tr.refl _) [0] rfl) (pv_ldo (i := 0) rfl Try.underlying22 rfl rfl rfl) rfl ?_
      refine lo_eff rfl rfl ?_
      refine ln_callH (E := [_, _]) (H0 := [_]) ((List.Perm.swap _ _ _).trans (List.Perm.cons _ (List.Perm.swap _ _ _))) en_63 rfl (fun u hu hok hav hnd => tags_Set1 u b0 3 x.u[j].1 m _ _ _ l rfl (nodup_new hj (RK.keys hRK) hk) hok hav hnd) rfl ?_
      rintro u4 v4 _ ht4 ⟨_, rfl, _⟩
      have hx := hx.mv ht4
      have hS := hS.mv ht4
      have hU1 := hU1.mv ht4
      have hUs := hUs.mv ht4
      have hL := hL.mv ht4
      have hdt1 := hdt1.mv ht4
      have hSA1 := hSA1.mv ht4
      have hLB1 := hLB1.mv ht4
      have hUC11 := hUC11.mv ht4
      have hdt2 := hdt2.mv ht4
      have hSA2 := hSA2.mv ht4
      have hLB2 := hLB2.mv ht4
      have hUC12 := hUC12.mv ht4
      have hRK := hRK.mv ht4
      have hTv := hTv.mv ht4
      refine lo_back (sk_js ht4 [2] rfl) ?_
      refine lo_nil ?_
      refine at_cd ?_
      refine cd_region ?_
      refine ln_pv (pv_add' rfl rfl (wrap_succ (by omega))) rfl ?_
      refine ln_pv (pv_move rfl) rfl ?_
      refine ln_nil ?_
      refine at_rnd (j + 1, some m, l ++ [(x.u[j].1, tv)]) (hl1.trans ht4) ?_ ?_ ⟨rfl, rfl, rfl, rfl,  trivial⟩ (.cons_cons _ (.cons_cons _ (.cons _ .slnil)))
      · intro s9 hs9
        refine ⟨by dsimp only; omega, ?_, fun h => by cases h⟩
        rw [take_snoc' hj]
        exact RK.snoc (RSv.mv hTv hs9) (RK.mv hs9 hRK)
      · dsimp only; omega
    · -- no
      refine cd_exit rfl ?_
      have hj : j = x.u.length := by omega
      subst hj
      rw [List.take_length] at hRK
      exact at_retT0 (i := 1) rfl rfl (fun w hS => ⟨_, rfl, _, _, rfl, .inr ⟨m, rfl, obT (i := 1) (j := 0) hS (fun _ h => by simpa [Ent.blk] using h) rfl rfl (by decide)⟩, RK.mv (hS.trFinT _ _) hRK⟩)
def Msg_ExpireDelegationTokenResponse (s : Vw) (v : Int) (x : Tre) (cells : List Value) : Prop := ∃ mv l, cells = [.int .i16 v, .int .i16 (IntKind.i16.wrap (x.at_ 0).n), .int .i64 (x.at_ 1).n, .int .i32 (IntKind.i32.wrap (x.at_ 2).n), mv] ∧ MK s mv l ∧ RK s l x.u
theorem setv_ExpireDelegationTokenResponse (t : Vw) (b : Nat) (v : Int) (hok : (Ent.obj b (.cells ([.int .i16 0, .int .i16 0, .int .i64 0, .int .i32 0, .map none] : List Value).toArray 70)).ok t.w) (hav : ∀ q ∈ (Ent.obj b (.cells ([.int .i16 0, .int .i16 0, .int .i64 0, .int .i32 0, .map none] : List Value).toArray 70)).blk, t.av q) : CT Try.prog 42 [.pointer (some ⟨b, 0, none⟩), .int .i16 v] t (.obj b (.cells ([.int .i16 0, .int .i16 0, .int .i64 0, .int .i32 0, .map none] : List Value).toArray 70)) fun u r e' => e' = .obj b (.cells ([.int .i16 v, .int .i16 0, .int .i64 0, .int .i32 0, .map none] : List Value).toArray 70) := by
  refine ct_enter Try.func42 rfl Try.ntmps42 rfl hok hav (by simp [Ent.blk]) ?_
  refine cd_region ?_
  refine ln_pv (pv_move rfl) rfl ?_
  refine ln_pv (pv_move rfl) rfl ?_
  refine ln_pv (pv_nilCheck rfl) rfl ?_
  refine ln_pv (pv_fieldAddr (off := 0) (r := 0) Try.underlying70 rfl (tiint16).size rfl rfl rfl) rfl ?_
  refine ln_store1 (i := 0) rfl rfl rfl rfl (tiint16).size rfl ?_
  refine ln_nil ?_
  exact at_retT0 (i := 0) rfl rfl (fun w hS => rfl)
theorem fill_ExpireDelegationTokenResponse (t : Vw) (b0 : Nat) (v : Int) (x : Tre) (cs : List Value) (hx : RT t x cs) (hsm : smT x) (hk : (x.u.map (·.1)).Nodup) (hok : (Ent.obj b0 (.cells ([.int .i16 v, .int .i16 0, .int .i64 0, .int .i32 0, .map none] : List Value).toArray 70)).ok t.w) (hav : ∀ q ∈ (Ent.obj b0 (.cells ([.int .i16 v, .int .i16 0, .int .i64 0, .int .i32 0, .map none] : List Value).toArray 70)).blk, t.av q) : CT Try.prog 43 [.pointer (some ⟨b0, 0, none⟩), .agg cs.toArray] t (.obj b0 (.cells ([.int .i16 v, .int .i16 0, .int .i64 0, .int .i32 0, .map none] : List Value).toArray 70)) fun u r e' => ∃ cells, e' = .obj b0 (.cells cells.toArray 70) ∧ Msg_ExpireDelegationTokenResponse u v x cells := by
  obtain ⟨sS, sL, sU, rfl, hn, hS, ⟨lc, hL, hLs⟩, hU⟩ := hx.open
  obtain ⟨adS, cS, rfl, hleS⟩ := hS.shape
  obtain ⟨adL, cL, rfl, hleL⟩ := hL.shape
  have hU0 := hU
  obtain ⟨uc, hU1, hUs⟩ := hU0
  obtain ⟨hz1, hz2, hz3, hz4⟩ := hsm.open
  obtain ⟨adU, cU, rfl, hleU⟩ := hU1.shape
  refine ct_enter Try.func43 rfl Try.ntmps43 rfl hok hav (by simp [Ent.blk]) ?_
  refine cd_sr ?_
  refine ln_box rfl rfl rfl (fun b1 => ?_)
  refine ln_cd ?_
  refine cd_sr ?_
  refine ln_pv (pv_move rfl) rfl ?_
  refine ln_pv (pv_ldO (i := 0) rfl Try.underlying39 rfl (tiimpl_Tree).size rfl rfl) rfl ?_
  refine ln_callA en_62 rfl (fun u hu => impl_at u x _ 0 (RT.mv hx hu)) rfl (fun u1 v1 ht1 hR1 => ?_)
  have hx := hx.mv ht1
  have hS := hS.mv ht1
  have hU1 := hU1.mv ht1
  have hUs := hUs.mv ht1
  have hL := hL.mv ht1
  obtain ⟨dt1, rfl, hdt1⟩ := hR1
  obtain ⟨sA1, sB1, sC1, rfl, hnA1, hSA1, ⟨lB1, hLB1, hLsB1⟩, hUC1⟩ := hdt1.open
  have hUC01 := hUC1
  obtain ⟨uC1, hUC11, hUs1⟩ := hUC01
  refine ln_pv (pv_field1 Try.underlying39 rfl Try.underlying2 rfl rfl rfl) rfl ?_
  refine ln_pv (pv_conv Try.underlying2 Try.underlying45 rfl) rfl ?_
  refine ln_pv (pv_nilCheck rfl) rfl ?_
  refine ln_pv (pv_fieldAddr (off := 1) (r := 1) Try.underlying70 rfl (tiint16).size rfl rfl rfl) rfl ?_
  refine ln_store1 (i := 1) rfl rfl rfl rfl (tiint16).size rfl ?_
  refine ln_cd ?_
  refine cd_sr ?_
  refine ln_pv (pv_move rfl) rfl ?_
  refine ln_pv (pv_ldO (i := 0) rfl Try.underlying39 rfl (tiimpl_Tree).size rfl rfl) rfl ?_
  refine ln_callA en_62 rfl (fun u hu => impl_at u x _ 1 (RT.mv hx hu)) rfl (fun u2 v2 ht2 hR2 => ?_)
  have hx := hx.mv ht2
  have hS := hS.mv ht2
  have hU1 := hU1.mv ht2
  have hUs := hUs.mv ht2
  have hL := hL.mv ht2
  have hdt1 := hdt1.mv ht2
  have hSA1 := hSA1.mv ht2
  have hLB1 := hLB1.mv ht2
  have hUC11 := hUC11.mv ht2
  obtain ⟨dt2, rfl, hdt2⟩ := hR2
  obtain ⟨sA2, sB2, sC2, rfl, hnA2, hSA2, ⟨lB2, hLB2, hLsB2⟩, hUC2⟩ := hdt2.open
  have hUC02 := hUC2
  obtain ⟨uC2, hUC12, hUs2⟩ := hUC02
  refine ln_pv (pv_field1 Try.underlying39 rfl Try.underlying2 rfl rfl rfl) rfl ?_
  refine ln_pv (pv_nilCheck rfl) rfl ?_
  refine ln_pv (pv_fieldAddr (off := 2) (r := 2) Try.underlying70 rfl (tiint64).size rfl rfl rfl) rfl ?_
  refine ln_store1 (i := 1) rfl rfl rfl rfl (tiint64).size rfl ?_
  refine ln_cd ?_
  refine cd_sr ?_
  refine ln_pv (pv_move rfl) rfl ?_
  refine ln_pv (pv_ldO (i := 0) rfl Try.underlying39 rfl (tiimpl_Tree).size rfl rfl) rfl ?_
  refine ln_callA en_62 rfl (fun u hu => impl_at u x _ 2 (RT.mv hx hu)) rfl (fun u3 v3 ht3 hR3 => ?_)
  have hx := hx.mv ht3
  have hS := hS.mv ht3
  have hU1 := hU1.mv ht3
  have hUs := hUs.mv ht3
  have hL := hL.mv ht3
  have hdt1 := hdt1.mv ht3
  have hSA1 := hSA1.mv ht3
  have hLB1 := hLB1.mv ht3
  have hUC11 := hUC11.mv ht3
  have hdt2 := hdt2.mv ht3
  have hSA2 := hSA2.mv ht3
  have hLB2 := hLB2.mv ht3
  have hUC12 := hUC12.mv ht3
  obtain ⟨dt3, rfl, hdt3⟩ := hR3
  obtain ⟨sA3, sB3, sC3, rfl, hnA3, hSA3, ⟨lB3, hLB3, hLsB3⟩, hUC3⟩ := hdt3.open
  have hUC03 := hUC3
  obtain ⟨uC3, hUC13, hUs3⟩ := hUC03
  refine ln_pv (pv_field1 Try.underlying39 rfl Try.underlying2 rfl rfl rfl) rfl ?_
  refine ln_pv (pv_conv Try.underlying2 Try.underlying21 rfl) rfl ?_
  refine ln_pv (pv_nilCheck rfl) rfl ?_
  refine ln_pv (pv_fieldAddr (off := 3) (r := 3) Try.underlying70 rfl (tiint32).size rfl rfl rfl) rfl ?_
  refine ln_store1 (i := 1) rfl rfl rfl rfl (tiint32).size rfl ?_
  refine ln_cd ?_
  refine cd_sr ?_
  refine ln_pv (pv_fieldAddr (off := 4) (r := 4) Try.underlying39 rfl (tiSl_impl_Tag).size rfl rfl rfl) rfl ?_
  refine ln_pv (pv_ldo (i := 0) rfl Try.underlying37 rfl rfl rfl) rfl ?_
  refine ln_pv (pv_len_slice Try.underlying37 rfl) rfl ?_
  refine ln_pv (pv_move rfl) rfl ?_
  refine ln_cd ?_
  refine cd_block ?_
  refine cd_loop (⟨fun (z : Nat × Option Nat × List (Nat × Value)) => [(0, .pointer (some ⟨b0, 0, none⟩)), (27, .slice adU x.u.length cU), (28, .int .i64 (x.u.length : Int)), (29, .int .i64 ((z.1 : Nat) : Int))], fun (z : Nat × Option Nat × List (Nat × Value)) => ((match z.2.1 with | none => [] | some m => [.obj m (.map (ME z.2.2) z.2.2.length)]) ++ [.obj b0 (.cells [.int .i16 v, .int .i16 (IntKind.i16.wrap (x.at_ 0).n), .int .i64 (x.at_ 1).n, .int .i32 (IntKind.i32.wrap (x.at_ 2).n), (match z.2.1 with | none => .map none | some m => .map (some m))].toArray 70)]), fun (z : Nat × Option Nat × List (Nat × Value)) s => z.1 ≤ x.u.length ∧ RK s z.2.2 (x.u.take z.1) ∧ (z.2.1 = none → z.2.2 = []), fun (z : Nat × Option Nat × List (Nat × Value)) => x.u.length - z.1⟩ : Lp (Nat × Option Nat × List (Nat × Value))) (0, none, []) ?_ ?_ ?_ ?_
  · intro s0 hs0
    exact ⟨Nat.zero_le _, rfl, fun _ => rfl⟩
  · exact ⟨rfl, rfl, rfl, rfl,  trivial⟩
  · exact (.cons _ (.cons_cons _ .slnil))
  intro z s1 hl1 hI
  obtain ⟨j, mo, l⟩ := z
  dsimp only at hI ⊢
  have hx := hx.mv hl1
  have hS := hS.mv hl1
  have hU1 := hU1.mv hl1
  have hUs := hUs.mv hl1
  have hL := hL.mv hl1
  have hdt1 := hdt1.mv hl1
  have hSA1 := hSA1.mv hl1
  have hLB1 := hLB1.mv hl1
  have hUC11 := hUC11.mv hl1
  have hdt2 := hdt2.mv hl1
  have hSA2 := hSA2.mv hl1
  have hLB2 := hLB2.mv hl1
  have hUC12 := hUC12.mv hl1
  have hdt3 := hdt3.mv hl1
  have hSA3 := hSA3.mv hl1
  have hLB3 := hLB3.mv hl1
  have hUC13 := hUC13.mv hl1
  obtain ⟨hI, hRK, hmo⟩ := hI
  rcases mo with _ | m
  · skip
    obtain rfl := hmo rfl
    dsimp only [List.nil_append, List.cons_append]
    refine cd_sr ?_
    refine ln_pv (pv_lss rfl rfl) rfl ?_
    refine ln_cd ?_
    refine cd_seq ?_
    refine cd_if rfl (fun hc1 => ?_) (fun hc1 => ?_)
    · -- yes
      refine cd_skip ?_
      refine at_cd ?_
      refine cd_seq ?_
      refine cd_block ?_
      have hj : j < x.u.length := by omega
      obtain ⟨bu, ou, rfl, hrc⟩ := hU1.pos (by omega) (by decide)
      obtain ⟨c1, tv, c3, he, hkq, hkk, hTv⟩ := RUs.at_ hj hUs
      have hsub := hrc.sub (j * 2) he hkq
      refine cd_sr ?_
      refine ln_pv (pv_ixN Try.underlying37 tiimpl_Tag.size rfl rfl hj) rfl ?_
      refine ln_pv (pv_ldR hsub Try.underlying62 rfl (tiimpl_Tag).size rfl rfl) rfl ?_
      refine ln_alloc tiimpl_Tag rfl rfl (fun b2 => ?_)
      refine ln_storeW (i := 0) rfl rfl rfl rfl (tiimpl_Tag).size rfl (by simp [(RS.one hTv)]) ?_
      refine ln_cd ?_
      refine cd_draw' [0] [0, 1, 2, 3, 4, 5, 6] [0, 1, 2, 3, 4, 5, 6, 7] mixed (by kernel_rfl) ?_
      refine lo_pv rfl rfl (sk_js (Tr.refl _) [0] rfl) (pv_move rfl) rfl ?_
      refine lo_pv rfl rfl (sk_js (Tr.refl _) [0] rfl) (pv_nilCheck rfl) rfl ?_
      refine lo_pv rfl rfl (sk_js (Tr.refl _) [0] rfl) (pv_fieldAddr (off := 4) (r := 4) Try.underlying70 rfl (tipub_kmsg_Tags).size rfl rfl rfl) rfl ?_
      refine lo_pv rfl rfl (sk_js (Tr.refl _) [0] rfl) (pv_fieldAddr (off := 0) (r := 0) Try.underlying62 rfl (tiuint32).size rfl rfl rfl) rfl ?_
      refine lo_pv rfl rfl (sk_js (Tr.refl _) [0] rfl) (pv_ldo (i := 0) rfl Try.underlying59 rfl rfl rfl) rfl ?_
      refine lo_pv rfl rfl (sk_js (Tr.refl _) [0] rfl) (pv_fieldAddr (off := 1) (r := 1) Try.underlying62 rfl (tiSl_uint8).size rfl rfl rfl) rfl ?_
      refine lo_pv rfl rfl (sk_js (Tr.refl _) [0] rfl) (pv_ldo (i := 0) rfl Try.underlying22 rfl rfl rfl) rfl ?_
      refine lo_eff rfl rfl ?_
      refine ln_callH (E := [_]) (H0 := [_]) (List.Perm.swap _ _ _) en_63 rfl (fun u hu hok hav hnd => tags_Set0 u b0 4 x.u[j].1 _ _ _ rfl hok hav hnd) rfl ?_
      rintro u4 v4 _ ht4 ⟨_, ⟨m, rfl⟩, _⟩
      have hx := hx.mv ht4
      have hS := hS.mv ht4
      have hU1 := hU1.mv ht4
      have hUs := hUs.mv ht4
      have hL := hL.mv ht4
      have hdt1 := hdt1.mv ht4
      have hSA1 := hSA1.mv ht4
      have hLB1 := hLB1.mv ht4
      have hUC11 := hUC11.mv ht4
      have hdt2 := hdt2.mv ht4
      have hSA2 := hSA2.mv ht4
      have hLB2 := hLB2.mv ht4
      have hUC12 := hUC12.mv ht4
      have hdt3 := hdt3.mv ht4
      have hSA3 := hSA3.mv ht4
      have hLB3 := hLB3.mv ht4
      have hUC13 := hUC13.mv ht4
      have hRK := hRK.mv ht4
      have hTv := hTv.mv ht4
      refine lo_back (sk_js ht4 [2] rfl) ?_
      refine lo_nil ?_
      refine at_cd ?_
      refine cd_region ?_
      refine ln_pv (pv_add' rfl rfl (wrap_succ (by omega))) rfl ?_
      refine ln_pv (pv_move rfl) rfl ?_
      refine ln_nil ?_
      refine at_rnd (j + 1, some m, [(x.u[j].1, tv)]) (hl1.trans ht4) ?_ ?_ ⟨rfl, rfl, rfl, rfl,  trivial⟩ (.cons_cons _ (.cons_cons _ (.cons _ .slnil)))
      · intro s9 hs9
        refine ⟨by dsimp only; omega, ?_, fun h => by cases h⟩
        rw [take_snoc' hj]
        exact RK.snoc (l := []) (RSv.mv hTv hs9) (RK.mv hs9 hRK)
      · dsimp only; omega
    · -- no
      refine cd_exit rfl ?_
      have hj : j = x.u.length := by omega
      subst hj
      rw [List.take_length] at hRK
      exact at_retT0 (i := 0) rfl rfl (fun w hS => ⟨_, rfl, _, _, rfl, .inl ⟨rfl, rfl⟩, RK.mv (hS.trFinT _ _) hRK⟩)
  · skip
    dsimp only [List.nil_append, List.cons_append]
    refine cd_sr ?_
    refine ln_pv (pv_lss rfl rfl) rfl ?_
    refine ln_cd ?_
    refine cd_seq ?_
    refine cd_if rfl (fun hc1 => ?_) (fun hc1 => ?_)
    · -- yes
      refine cd_skip ?_
      refine at_cd ?_
      refine cd_seq ?_
      refine cd_block ?_
      have hj : j < x.u.length := by omega
      obtain ⟨bu, ou, rfl, hrc⟩ := hU1.pos (by omega) (by decide)
      obtain ⟨c1, tv, c3, he, hkq, hkk, hTv⟩ := RUs.at_ hj hUs
      have hsub := hrc.sub (j * 2) he hkq
      refine cd_sr ?_
      refine ln_pv (pv_ixN Try.underlying37 tiimpl_Tag.size rfl rfl hj) rfl ?_
      refine ln_pv (pv_ldR hsub Try.underlying62 rfl (tiimpl_Tag).size rfl rfl) rfl ?_
      refine ln_alloc tiimpl_Tag rfl rfl (fun b3 => ?_)
      refine ln_storeW (i := 0) rfl rfl rfl rfl (tiimpl_Tag).size rfl (by simp [(RS.one hTv)]) ?_
      refine ln_cd ?_
      refine cd_draw' [0] [0, 1, 2, 3, 4, 5, 6] [0, 1, 2, 3, 4, 5, 6, 7] mixed (by kernel_rfl) ?_
      refine lo_pv rfl rfl (sk_js (Tr.refl _) [0] rfl) (pv_move rfl) rfl ?_
      refine lo_pv rfl rfl (sk_js (Tr.refl _) [0] rfl) (pv_nilCheck rfl) rfl ?_
      refine lo_pv rfl rfl (sk_js (Tr.refl _) [0] rfl) (pv_fieldAddr (off := 4) (r := 4) Try.underlying70 rfl (tipub_kmsg_Tags).size rfl rfl rfl) rfl ?_
      refine lo_pv rfl rfl (sk_js (Tr.refl _) [0] rfl) (pv_fieldAddr (off := 0) (r := 0) Try.underlying62 rfl (tiuint32).size rfl rfl rfl) rfl ?_
      refine lo_pv rfl rfl (sk_js (Tr.refl _) [0] rfl) (pv_ldo (i := 0) rfl Try.underlying59 rfl rfl rfl) rfl ?_
      refine lo_pv rfl rfl (sk_js (Tr.refl _) [0] rfl) (pv_fieldAddr (off := 1) (r := 1) Try.underlying62 rfl (tiSl_uint8).size rfl rfl rfl) rfl ?_
      refine lo_pv rfl rfl (sk_js (Tr.refl _) [0] rfl) (pv_ldo (i := 0) rfl Try.underlying22 rfl rfl rfl) rfl ?_
      refine lo_eff rfl rfl ?_
      refine ln_callH (E := [_, _]) (H0 := [_]) ((List.Perm.swap _ _ _).trans (List.Perm.cons _ (List.Perm.swap _ _ _))) en_63 rfl (fun u hu hok hav hnd => tags_Set1 u b0 4 x.u[j].1 m _ _ _ l rfl (nodup_new hj (RK.keys hRK) hk) hok hav hnd) rfl ?_
      rintro u5 v5 _ ht5 ⟨_, rfl, _⟩
      have hx := hx.mv ht5
      have hS := hS.mv ht5
      have hU1 := hU1.mv ht5
      have hUs := hUs.mv ht5
      have hL := hL.mv ht5
      have hdt1 := hdt1.mv ht5
      have hSA1 := hSA1.mv ht5
      have hLB1 := hLB1.mv ht5
      have hUC11 := hUC11.mv ht5
      have hdt2 := hdt2.mv ht5
      have hSA2 := hSA2.mv ht5
      have hLB2 := hLB2.mv ht5
      have hUC12 := hUC12.mv ht5
      have hdt3 := hdt3.mv ht5
      have hSA3 := hSA3.mv ht5
      have hLB3 := hLB3.mv ht5
      have hUC13 := hUC13.mv ht5
      have hRK := hRK.mv ht5
      have hTv := hTv.mv ht5
      refine lo_back (sk_js ht5 [2] rfl) ?_
      refine lo_nil ?_
      refine at_cd ?_
      refine cd_region ?_
      refine ln_pv (pv_add' rfl rfl (wrap_succ (by omega))) rfl ?_
      refine ln_pv (pv_move rfl) rfl ?_
      refine ln_nil ?_
      refine at_rnd (j + 1, some m, l ++ [(x.u[j].1, tv)]) (hl1.trans ht5) ?_ ?_ ⟨rfl, rfl, rfl, rfl,  trivial⟩ (.cons_cons _ (.cons_cons _ (.cons _ .slnil)))
      · intro s9 hs9
        refine ⟨by dsimp only; omega, ?_, fun h => by cases h⟩
        rw [take_snoc' hj]
        exact RK.snoc (RSv.mv hTv hs9) (RK.mv hs9 hRK)
      · dsimp only; omega
    · -- no
      refine cd_exit rfl ?_
      have hj : j = x.u.length := by omega
      subst hj
      rw [List.take_length] at hRK
      exact at_retT0 (i := 1) rfl rfl (fun w hS => ⟨_, rfl, _, _, rfl, .inr ⟨m, rfl, obT (i := 1) (j := 0) hS (fun _ h => by simpa [Ent.blk] using h) rfl rfl (by decide)⟩, RK.mv (hS.trFinT _ _) hRK⟩)
def Msg_RenewDelegationTokenRequest (s : Vw) (v : Int) (x : Tre) (cells : List Value) : Prop := ∃ c0 mv l, cells = [.int .i16 v, c0, .int .i64 (x.at_ 1).n, mv] ∧ Octs s c0 (x.at_ 0) ∧ MK s mv l ∧ RK s l x.u
theorem setv_RenewDelegationTokenRequest (t : Vw) (b : Nat) (v : Int) (hok : (Ent.obj b (.cells ([.int .i16 0, .slice none 0 0, .int .i64 0, .map none] : List Value).toArray 75)).ok t.w) (hav : ∀ q ∈ (Ent.obj b (.cells ([.int .i16 0, .slice none 0 0, .int .i64 0, .map none] : List Value).toArray 75)).blk, t.av q) : CT Try.prog 47 [.pointer (some ⟨b, 0, none⟩), .int .i16 v] t (.obj b (.cells ([.int .i16 0, .slice none 0 0, .int .i64 0, .map none] : List Value).toArray 75)) fun u r e' => e' = .obj b (.cells ([.int .i16 v, .slice none 0 0, .int .i64 0, .map none] : List Value).toArray 75) := by
  refine ct_enter Try.func47 rfl Try.ntmps47 rfl hok hav (by simp [Ent.blk]) ?_
  refine cd_region ?_
  refine ln_pv (pv_move rfl) rfl ?_
  refine ln_pv (pv_move rfl) rfl ?_
  refine ln_pv (pv_nilCheck rfl) rfl ?_
  refine ln_pv (pv_fieldAddr (off := 0) (r := 0) Try.underlying75 rfl (tiint16).size rfl rfl rfl) rfl ?_
  refine ln_store1 (i := 0) rfl rfl rfl rfl (tiint16).size rfl ?_
  refine ln_nil ?_
  exact at_retT0 (i := 0) rfl rfl (fun w hS => rfl)
theorem fill_RenewDelegationTokenRequest (t : Vw) (b0 : Nat) (v : Int) (x : Tre) (cs : List Value) (hx : RT t x cs) (hsm : smT x) (hk : (x.u.map (·.1)).Nodup) (hok : (Ent.obj b0 (.cells ([.int .i16 v, .slice none 0 0, .int .i64 0, .map none] : List Value).toArray 75)).ok t.w) (hav : ∀ q ∈ (Ent.obj b0 (.cells ([.int .i16 v, .slice none 0 0, .int .i64 0, .map none] : List Value).toArray 75)).blk, t.av q) : CT Try.prog 48 [.pointer (some ⟨b0, 0, none⟩), .agg cs.toArray] t (.obj b0 (.cells ([.int .i16 v, .slice none 0 0, .int .i64 0, .map none] : List Value).toArray 75)) fun u r e' => ∃ cells, e' = .obj b0 (.cells cells.toArray 75) ∧ Msg_RenewDelegationTokenRequest u v x cells := by
  obtain ⟨sS, sL, sU, rfl, hn, hS, ⟨lc, hL, hLs⟩, hU⟩ := hx.open
  obtain ⟨adS, cS, rfl, hleS⟩ := hS.shape
  obtain ⟨adL, cL, rfl, hleL⟩ := hL.shape
  have hU0 := hU
  obtain ⟨uc, hU1, hUs⟩ := hU0
  obtain ⟨hz1, hz2, hz3, hz4⟩ := hsm.open
  obtain ⟨adU, cU, rfl, hleU⟩ := hU1.shape
  refine ct_enter Try.func48 rfl Try.ntmps48 rfl hok hav (by simp [Ent.blk]) ?_
  refine cd_sr ?_
  refine ln_box rfl rfl rfl (fun b1 => ?_)
  refine ln_cd ?_
  refine cd_sr ?_
  refine ln_pv (pv_move rfl) rfl ?_
  refine ln_pv (pv_ldO (i := 0) rfl Try.underlying39 rfl (tiimpl_Tree).size rfl rfl) rfl ?_
  refine ln_callA en_62 rfl (fun u hu => impl_at u x _ 0 (RT.mv hx hu)) rfl (fun u1 v1 ht1 hR1 => ?_)
  have hx := hx.mv ht1
  have hS := hS.mv ht1
  have hU1 := hU1.mv ht1
  have hUs := hUs.mv ht1
  have hL := hL.mv ht1
  obtain ⟨dt1, rfl, hdt1⟩ := hR1
  obtain ⟨sA1, sB1, sC1, rfl, hnA1, hSA1, ⟨lB1, hLB1, hLsB1⟩, hUC1⟩ := hdt1.open
  have hUC01 := hUC1
  obtain ⟨uC1, hUC11, hUs1⟩ := hUC01
  refine ln_callA en_79 rfl (fun u hu => impl_octetsOf u (x.at_ 0) _ (RT.mv hdt1 hu) (by have := (hsm.at_ 0).open.1; omega)) rfl (fun u2 v2 ht2 hR2 => ?_)
  have hx := hx.mv ht2
  have hS := hS.mv ht2
  have hU1 := hU1.mv ht2
  have hUs := hUs.mv ht2
  have hL := hL.mv ht2
  have hdt1 := hdt1.mv ht2
  have hSA1 := hSA1.mv ht2
  have hLB1 := hLB1.mv ht2
  have hUC11 := hUC11.mv ht2
  refine ln_pv (pv_nilCheck rfl) rfl ?_
  refine ln_pv (pv_fieldAddr (off := 1) (r := 1) Try.underlying75 rfl (tiSl_uint8).size rfl rfl rfl) rfl ?_
  refine ln_store1 (i := 1) rfl rfl rfl (Octs.one hR2) (tiSl_uint8).size rfl ?_
  refine ln_cd ?_
  refine cd_sr ?_
  refine ln_pv (pv_move rfl) rfl ?_
  refine ln_pv (pv_ldO (i := 0) rfl Try.underlying39 rfl (tiimpl_Tree).size rfl rfl) rfl ?_
  refine ln_callA en_62 rfl (fun u hu => impl_at u x _ 1 (RT.mv hx hu)) rfl (fun u3 v3 ht3 hR3 => ?_)
  have hx := hx.mv ht3
  have hS := hS.mv ht3
  have hU1 := hU1.mv ht3
  have hUs := hUs.mv ht3
  have hL := hL.mv ht3
  have hdt1 := hdt1.mv ht3
  have hSA1 := hSA1.mv ht3
  have hLB1 := hLB1.mv ht3
  have hUC11 := hUC11.mv ht3
  have hR2 := hR2.mv ht3
  obtain ⟨dt3, rfl, hdt3⟩ := hR3
  obtain ⟨sA3, sB3, sC3, rfl, hnA3, hSA3, ⟨lB3, hLB3, hLsB3⟩, hUC3⟩ := hdt3.open
  have hUC03 := hUC3
  obtain ⟨uC3, hUC13, hUs3⟩ := hUC03
  refine ln_pv (pv_field1 Try.underlying39 rfl Try.underlying2 rfl rfl rfl) rfl ?_
  refine ln_pv (pv_nilCheck rfl) rfl ?_
  refine ln_pv (pv_fieldAddr (off := 2) (r := 2) Try.underlying75 rfl (tiint64).size rfl rfl rfl) rfl ?_
  refine ln_store1 (i := 1) rfl rfl rfl rfl (tiint64).size rfl ?_
  refine ln_cd ?_
  refine cd_sr ?_
  refine ln_pv (pv_fieldAddr (off := 4) (r := 4) Try.underlying39 rfl (tiSl_impl_Tag).size rfl rfl rfl) rfl ?_
  refine ln_pv (pv_ldo (i := 0) rfl Try.underlying37 rfl rfl rfl) rfl ?_
  refine ln_pv (pv_len_slice Try.underlying37 rfl) rfl ?_
  refine ln_pv (pv_move rfl) rfl ?_
  refine ln_cd ?_
  refine cd_block ?_
  refine cd_loop (⟨fun (z : Nat × Option Nat × List (Nat × Value)) => [(0, .pointer (some ⟨b0, 0, none⟩)), (19, .slice adU x.u.length cU), (20, .int .i64 (x.u.length : Int)), (21, .int .i64 ((z.1 : Nat) : Int))], fun (z : Nat × Option Nat × List (Nat × Value)) => ((match z.2.1 with | none => [] | some m => [.obj m (.map (ME z.2.2) z.2.2.length)]) ++ [.obj b0 (.cells [.int .i16 v, v2, .int .i64 (x.at_ 1).n, (match z.2.1 with | none => .map none | some m => .map (some m))].toArray 75)]), fun (z : Nat × Option Nat × List (Nat × Value)) s => z.1 ≤ x.u.length ∧ RK s z.2.2 (x.u.take z.1) ∧ (z.2.1 = none → z.2.2 = []), fun (z : Nat × Option Nat × List (Nat × Value)) => x.u.length - z.1⟩ : Lp (Nat × Option Nat × List (Nat × Value))) (0, none, []) ?_ ?_ ?_ ?_
  · intro s0 hs0
    exact ⟨Nat.zero_le _, rfl, fun _ => rfl⟩
  · exact ⟨rfl, rfl, rfl, rfl,  trivial⟩
  · exact (.cons _ (.cons_cons _ .slnil))
  intro z s1 hl1 hI
  obtain ⟨j, mo, l⟩ := z
  dsimp only at hI ⊢
  have hx := hx.mv hl1
  have hS := hS.mv hl1
  have hU1 := hU1.mv hl1
  have hUs := hUs.mv hl1
  have hL := hL.mv hl1
  have hdt1 := hdt1.mv hl1
  have hSA1 := hSA1.mv hl1
  have hLB1 := hLB1.mv hl1
  have hUC11 := hUC11.mv hl1
  have hR2 := hR2.mv hl1
  have hdt3 := hdt3.mv hl1
  have hSA3 := hSA3.mv hl1
  have hLB3 := hLB3.mv hl1
  have hUC13 := hUC13.mv hl1
  obtain ⟨hI, hRK, hmo⟩ := hI
  rcases mo with _ | m
  · skip
    obtain rfl := hmo rfl
    dsimp only [List.nil_append, List.cons_append]
    refine cd_sr ?_
    refine ln_pv (pv_lss rfl rfl) rfl ?_
    refine ln_cd ?_
    refine cd_seq ?_
    refine cd_if rfl (fun hc1 => ?_) (fun hc1 => ?_)
    · -- yes
      refine cd_skip ?_
      refine at_cd ?_
      refine cd_seq ?_
      refine cd_block ?_
      have hj : j < x.u.length := by omega
      obtain ⟨bu, ou, rfl, hrc⟩ := hU1.pos (by omega) (by decide)
      obtain ⟨c1, tv, c3, he, hkq, hkk, hTv⟩ := RUs.at_ hj hUs
      have hsub := hrc.sub (j * 2) he hkq
      refine cd_sr ?_
      refine ln_pv (pv_ixN Try.underlying37 tiimpl_Tag.size rfl rfl hj) rfl ?_
      refine ln_pv (pv_ldR hsub Try.underlying62 rfl (tiimpl_Tag).size rfl rfl) rfl ?_
      refine ln_alloc tiimpl_Tag rfl rfl (fun b2 => ?_)
      refine ln_storeW (i := 0) rfl rfl rfl rfl (tiimpl_Tag).size rfl (by simp [(RS.one hTv)]) ?_
      refine ln_cd ?_
      refine cd_draw' [0] [0, 1, 2, 3, 4, 5, 6] [0, 1, 2, 3, 4, 5, 6, 7] mixed (by kernel_rfl) ?_
      refine lo_pv rfl rfl (sk_js (Tr.refl _) [0] rfl) (pv_move rfl) rfl ?_
      refine lo_pv rfl rfl (sk_js (Tr.refl _) [0] rfl) (pv_nilCheck rfl) rfl ?_
      refine lo_pv rfl rfl (sk_js (Tr.refl _) [0] rfl) (pv_fieldAddr (off := 3) (r := 3) Try.underlying75 rfl (tipub_kmsg_Tags).size rfl rfl rfl) rfl ?_
      refine lo_pv rfl rfl (sk_js (Tr.refl _) [0] rfl) (pv_fieldAddr (off := 0) (r := 0) Try.underlying62 rfl (tiuint32).size rfl rfl rfl) rfl ?_
      refine lo_pv rfl rfl (sk_js (Tr.refl _) [0] rfl) (pv_ldo (i := 0) rfl Try.underlying59 rfl rfl rfl) rfl ?_
      refine lo_pv rfl rfl (sk_js (Tr.refl _) [0] rfl) (pv_fieldAddr (off := 1) (r := 1) Try.underlying62 rfl (tiSl_uint8).size rfl rfl rfl) rfl ?_
      refine lo_pv rfl rfl (sk_js (Tr.refl _) [0] rfl) (pv_ldo (i := 0) rfl Try.underlying22 rfl rfl rfl) rfl ?_
      refine lo_eff rfl rfl ?_
      refine ln_callH (E := [_]) (H0 := [_]) (List.Perm.swap _ _ _) en_63 rfl (fun u hu hok hav hnd => tags_Set0 u b0 3 x.u[j].1 _ _ _ rfl hok hav hnd) rfl ?_
      rintro u4 v4 _ ht4 ⟨_, ⟨m, rfl⟩, _⟩
      have hx := hx.mv ht4
      have hS := hS.mv ht4
      have hU1 := hU1.mv ht4
      have hUs := hUs.mv ht4
      have hL := hL.mv ht4
      have hdt1 := hdt1.mv ht4
      have hSA1 := hSA1.mv ht4
      have hLB1 := hLB1.mv ht4
      have hUC11 := hUC11.mv ht4
      have hR2 := hR2.mv ht4
      have hdt3 := hdt3.mv ht4
      have hSA3 := hSA3.mv ht4
      have hLB3 := hLB3.mv ht4
      have hUC13 := hUC13.mv ht4
      have hRK := hRK.mv ht4
      have hTv := hTv.mv ht4
      refine lo_back (sk_js ht4 [2] rfl) ?_
      refine lo_nil ?_
      refine at_cd ?_
      refine cd_region ?_
      refine ln_pv (pv_add' rfl rfl (wrap_succ (by omega))) rfl ?_
      refine ln_pv (pv_move rfl) rfl ?_
      refine ln_nil ?_
      refine at_rnd (j + 1, some m, [(x.u[j].1, tv)]) (hl1.trans ht4) ?_ ?_ ⟨rfl, rfl, rfl, rfl,  trivial⟩ (.cons_cons _ (.cons_cons _ (.cons _ .slnil)))
      · intro s9 hs9
        refine ⟨by dsimp only; omega, ?_, fun h => by cases h⟩
        rw [take_snoc' hj]
        exact RK.snoc (l := []) (RSv.mv hTv hs9) (RK.mv hs9 hRK)
      · dsimp only; omega
    · -- no
      refine cd_exit rfl ?_
      have hj : j = x.u.length := by omega
      subst hj
      rw [List.take_length] at hRK
      exact at_retT0 (i := 0) rfl rfl (fun w hS => ⟨_, rfl, _, _, _, rfl, Octs.mv hR2 (hS.trFinT _ _), .inl ⟨rfl, rfl⟩, RK.mv (hS.trFinT _ _) hRK⟩)
  · skip
    dsimp only [List.nil_append, List.cons_append]
    refine cd_sr ?_
    refine ln_pv (pv_lss rfl rfl) rfl ?_
    refine ln_cd ?_
    refine cd_seq ?_
    refine cd_if rfl (fun hc1 => ?_) (fun hc1 => ?_)
    · -- yes
      refine cd_skip ?_
      refine at_cd ?_
      refine cd_seq ?_
      refine cd_block ?_
      have hj : j < x.u.length := by omega
      obtain ⟨bu, ou, rfl, hrc⟩ := hU1.pos (by omega) (by decide)
      obtain ⟨c1, tv, c3, he, hkq, hkk, hTv⟩ := RUs.at_ hj hUs
      have hsub := hrc.sub (j * 2) he hkq
      refine cd_sr ?_
      refine ln_pv (pv_ixN Try.underlying37 tiimpl_Tag.size rfl rfl hj) rfl ?_
      refine ln_pv (pv_ldR hsub Try.underlying62 rfl (tiimpl_Tag).size rfl rfl) rfl ?_
      refine ln_alloc tiimpl_Tag rfl rfl (fun b3 => ?_)
      refine ln_storeW (i := 0) rfl rfl rfl rfl (tiimpl_Tag).size rfl (by simp [(RS.one hTv)]) ?_
      refine ln_cd ?_
      refine cd_draw' [0] [0, 1, 2, 3, 4, 5, 6] [0, 1, 2, 3, 4, 5, 6, 7] mixed (by kernel_rfl) ?_
      refine lo_pv rfl rfl (sk_js (Tr.refl _) [0] rfl) (pv_move rfl) rfl ?_
      refine lo_pv rfl rfl (sk_js (Tr.refl _) [0] rfl) (pv_nilCheck rfl) rfl ?_
      refine lo_pv rfl rfl (sk_js (Tr.refl _) [0] rfl) (pv_fieldAddr (off := 3) (r := 3) Try.underlying75 rfl (tipub_kmsg_Tags).size rfl rfl rfl) rfl ?_
      refine lo_pv rfl rfl (sk_js (Tr.refl _) [0] rfl) (pv_fieldAddr (off := 0) (r := 0) Try.underlying62 rfl (tiuint32).size rfl rfl rfl) rfl ?_
      refine lo_pv rfl rfl (sk_js (Tr.refl _) [0] rfl) (pv_ldo (i := 0) rfl Try.underlying59 rfl rfl rfl) rfl ?_
      refine lo_pv rfl rfl (sk_js (Tr.refl _) [0] rfl) (pv_fieldAddr (off := 1) (r := 1) Try.underlying62 rfl (tiSl_uint8).size rfl rfl rfl) rfl ?_
      refine lo_pv rfl rfl (sk_js (Tr.refl _) [0] rfl) (pv_ldo (i := 0) rfl Try.underlying22 rfl rfl rfl) rfl ?_
      refine lo_eff rfl rfl ?_
      refine ln_callH (E := [_, _]) (H0 := [_]) ((List.Perm.swap _ _ _).trans (List.Perm.cons _ (List.Perm.swap _ _ _))) en_63 rfl (fun u hu hok hav hnd => tags_Set1 u b0 3 x.u[j].1 m _ _ _ l rfl (nodup_new hj (RK.keys hRK) hk) hok hav hnd) rfl ?_
      rintro u5 v5 _ ht5 ⟨_, rfl, _⟩
      have hx := hx.mv ht5
      have hS := hS.mv ht5
      have hU1 := hU1.mv ht5
      have hUs := hUs.mv ht5
      have hL := hL.mv ht5
      have hdt1 := hdt1.mv ht5
      have hSA1 := hSA1.mv ht5
      have hLB1 := hLB1.mv ht5
      have hUC11 := hUC11.mv ht5
      have hR2 := hR2.mv ht5
      have hdt3 := hdt3.mv ht5
      have hSA3 := hSA3.mv ht5
      have hLB3 := hLB3.mv ht5
      have hUC13 := hUC13.mv ht5
      have hRK := hRK.mv ht5
      have hTv := hTv.mv ht5
      refine lo_back (sk_js ht5 [2] rfl) ?_
      refine lo_nil ?_
      refine at_cd ?_
      refine cd_region ?_
      refine ln_pv (pv_add' rfl rfl (wrap_succ (by omega))) rfl ?_
      refine ln_pv (pv_move rfl) rfl ?_
      refine ln_nil ?_
      refine at_rnd (j + 1, some m, l ++ [(x.u[j].1, tv)]) (hl1.trans ht5) ?_ ?_ ⟨rfl, rfl, rfl, rfl,  trivial⟩ (.cons_cons _ (.cons_cons _ (.cons _ .slnil)))
      · intro s9 hs9
        refine ⟨by dsimp only; omega, ?_, fun h => by cases h⟩
        rw [take_snoc' hj]
        exact RK.snoc (RSv.mv hTv hs9) (RK.mv hs9 hRK)
      · dsimp only; omega
    · -- no
      refine cd_exit rfl ?_
      have hj : j = x.u.length := by omega
      subst hj
      rw [List.take_length] at hRK
      exact at_retT0 (i := 1) rfl rfl (fun w hS => ⟨_, rfl, _, _, _, rfl, Octs.mv hR2 (hS.trFinT _ _), .inr ⟨m, rfl, obT (i := 1) (j := 0) hS (fun _ h => by simpa [Ent.blk] using h) rfl rfl (by decide)⟩, RK.mv (hS.trFinT _ _) hRK⟩)
def Msg_EnvelopeRequest (s : Vw) (v : Int) (x : Tre) (cells : List Value) : Prop := ∃ c0 c1 c2 mv l, cells = [.int .i16 v, c0, c1, c2, mv] ∧ Octs s c0 (x.at_ 0) ∧ Octs s c1 (x.at_ 1) ∧ Octs s c2 (x.at_ 2) ∧ MK s mv l ∧ RK s l x.u
theorem setv_EnvelopeRequest (t : Vw) (b : Nat) (v : Int) (hok : (Ent.obj b (.cells ([.int .i16 0, .slice none 0 0, .slice none 0 0, .slice none 0 0, .map none] : List Value).toArray 80)).ok t.w) (hav : ∀ q ∈ (Ent.obj b (.cells ([.int .i16 0, .slice none 0 0, .slice none 0 0, .slice none 0 0, .map none] : List Value).toArray 80)).blk, t.av q) : CT Try.prog 52 [.pointer (some ⟨b, 0, none⟩), .int .i16 v] t (.obj b (.cells ([.int .i16 0, .slice none 0 0, .slice none 0 0, .slice none 0 0, .map none] : List Value).toArray 80)) fun u r e' => e' = .obj b (.cells ([.int .i16 v, .slice none 0 0, .slice none 0 0, .slice none 0 0, .map none] : List Value).toArray 80) := by
  refine ct_enter Try.func52 rfl Try.ntmps52 rfl hok hav (by simp [Ent.blk]) ?_
  refine cd_region ?_
  refine ln_pv (pv_move rfl) rfl ?_
  refine ln_pv (pv_move rfl) rfl ?_
  refine ln_pv (pv_nilCheck rfl) rfl ?_
  refine ln_pv (pv_fieldAddr (off := 0) (r := 0) Try.underlying80 rfl (tiint16).size rfl rfl rfl) rfl ?_
  refine ln_store1 (i := 0) rfl rfl rfl rfl (tiint16).size rfl ?_
  refine ln_nil ?_
  exact at_retT0 (i := 0) rfl rfl (fun w hS => rfl)
theorem fill_EnvelopeRequest (t : Vw) (b0 : Nat) (v : Int) (x : Tre) (cs : List Value) (hx : RT t x cs) (hsm : smT x) (hk : (x.u.map (·.1)).Nodup) (hok : (Ent.obj b0 (.cells ([.int .i16 v, .slice none 0 0, .slice none 0 0, .slice none 0 0, .map none] : List Value).toArray 80)).ok t.w) (hav : ∀ q ∈ (Ent.obj b0 (.cells ([.int .i16 v, .slice none 0 0, .slice none 0 0, .slice none 0 0, .map none] : List Value).toArray 80)).blk, t.av q) : CT Try.prog 53 [.pointer (some ⟨b0, 0, none⟩), .agg cs.toArray] t (.obj b0 (.cells ([.int .i16 v, .slice none 0 0, .slice none 0 0, .slice none 0 0, .map none] : List Value).toArray 80)) fun u r e' => ∃ cells, e' = .obj b0 (.cells cells.toArray 80) ∧ Msg_EnvelopeRequest u v x cells := by
  obtain ⟨sS, sL, sU, rfl, hn, hS, ⟨lc, hL, hLs⟩, hU⟩ := hx.open
  obtain ⟨adS, cS, rfl, hleS⟩ := hS.shape
  obtain ⟨adL, cL, rfl, hleL⟩ := hL.shape
  have hU0 := hU
  obtain ⟨uc, hU1, hUs⟩ := hU0
  obtain ⟨hz1, hz2, hz3, hz4⟩ := hsm.open
  obtain ⟨adU, cU, rfl, hleU⟩ := hU1.shape
  refine ct_enter Try.func53 rfl Try.ntmps53 rfl hok hav (by simp [Ent.blk]) ?_
  refine cd_sr ?_
  refine ln_box rfl rfl rfl (fun b1 => ?_)
  refine ln_cd ?_
  refine cd_sr ?_
  refine ln_pv (pv_move rfl) rfl ?_
  refine ln_pv (pv_ldO (i := 0) rfl Try.underlying39 rfl (tiimpl_Tree).size rfl rfl) rfl ?_
  refine ln_callA en_62 rfl (fun u hu => impl_at u x _ 0 (RT.mv hx hu)) rfl (fun u1 v1 ht1 hR1 => ?_)
  have hx := hx.mv ht1
  have hS := hS.mv ht1
  have hU1 := hU1.mv ht1
  have hUs := hUs.mv ht1
  have hL := hL.mv ht1
  obtain ⟨dt1, rfl, hdt1⟩ := hR1
  obtain ⟨sA1, sB1, sC1, rfl, hnA1, hSA1, ⟨lB1, hLB1, hLsB1⟩, hUC1⟩ := hdt1.open
  have hUC01 := hUC1
  obtain ⟨uC1, hUC11, hUs1⟩ := hUC01
  refine ln_callA en_79 rfl (fun u hu => impl_octetsOf u (x.at_ 0) _ (RT.mv hdt1 hu) (by have := (hsm.at_ 0).open.1; omega)) rfl (fun u2 v2 ht2 hR2 => ?_)
  have hx := hx.mv ht2
  have hS := hS.mv ht2
  have hU1 := hU1.mv ht2
  have hUs := hUs.mv ht2
  have hL := hL.mv ht2
  have hdt1 := hdt1.mv ht2
  have hSA1 := hSA1.mv ht2
  have hLB1 := hLB1.mv ht2
  have hUC11 := hUC11.mv ht2
  refine ln_pv (pv_nilCheck rfl) rfl ?_
  refine ln_pv (pv_fieldAddr (off := 1) (r := 1) Try.underlying80 rfl (tiSl_uint8).size rfl rfl rfl) rfl ?_
  refine ln_store1 (i := 1) rfl rfl rfl (Octs.one hR2) (tiSl_uint8).size rfl ?_
  refine ln_cd ?_
  refine cd_sr ?_
  refine ln_pv (pv_move rfl) rfl ?_
  refine ln_pv (pv_ldO (i := 0) rfl Try.underlying39 rfl (tiimpl_Tree).size rfl rfl) rfl ?_
  refine ln_callA en_62 rfl (fun u hu => impl_at u x _ 1 (RT.mv hx hu)) rfl (fun u3 v3 ht3 hR3 => ?_)
  have hx := hx.mv ht3
  have hS := hS.mv ht3
  have hU1 := hU1.mv ht3
  have hUs := hUs.mv ht3
  have hL := hL.mv ht3
  have hdt1 := hdt1.mv ht3
  have hSA1 := hSA1.mv ht3
  have hLB1 := hLB1.mv ht3
  have hUC11 := hUC11.mv ht3
  have hR2 := hR2.mv ht3
  obtain ⟨dt3, rfl, hdt3⟩ := hR3
  obtain ⟨sA3, sB3, sC3, rfl, hnA3, hSA3, ⟨lB3, hLB3, hLsB3⟩, hUC3⟩ := hdt3.open
  have hUC03 := hUC3
  obtain ⟨uC3, hUC13, hUs3⟩ := hUC03
  refine ln_callA en_79 rfl (fun u hu => impl_octetsOf u (x.at_ 1) _ (RT.mv hdt3 hu) (by have := (hsm.at_ 1).open.1; omega)) rfl (fun u4 v4 ht4 hR4 => ?_)
  have hx := hx.mv ht4
  have hS := hS.mv ht4
  have hU1 := hU1.mv ht4
  have hUs := hUs.mv ht4
  have hL := hL.mv ht4
  have hdt1 := hdt1.mv ht4
  have hSA1 := hSA1.mv ht4
  have hLB1 := hLB1.mv ht4
  have hUC11 := hUC11.mv ht4
  have hR2 := hR2.mv ht4
  have hdt3 := hdt3.mv ht4
  have hSA3 := hSA3.mv ht4
  have hLB3 := hLB3.mv ht4
  have hUC13 := hUC13.mv ht4
  refine ln_pv (pv_nilCheck rfl) rfl ?_
  refine ln_pv (pv_fieldAddr (off := 2) (r := 2) Try.underlying80 rfl (tiSl_uint8).size rfl rfl rfl) rfl ?_
  refine ln_store1 (i := 1) rfl rfl rfl (Octs.one hR4) (tiSl_uint8).size rfl ?_
  refine ln_cd ?_
  refine cd_sr ?_
  refine ln_pv (pv_move rfl) rfl ?_
  refine ln_pv (pv_ldO (i := 0) rfl Try.underlying39 rfl (tiimpl_Tree).size rfl rfl) rfl ?_
  refine ln_callA en_62 rfl (fun u hu => impl_at u x _ 2 (RT.mv hx hu)) rfl (fun u5 v5 ht5 hR5 => ?_)
  have hx := hx.mv ht5
  have hS := hS.mv ht5
  have hU1 := hU1.mv ht5
  have hUs := hUs.mv ht5
  have hL := hL.mv ht5
  have hdt1 := hdt1.mv ht5
  have hSA1 := hSA1.mv ht5
  have hLB1 := hLB1.mv ht5
  have hUC11 := hUC11.mv ht5
  have hR2 := hR2.mv ht5
  have hdt3 := hdt3.mv ht5
  have hSA3 := hSA3.mv ht5
  have hLB3 := hLB3.mv ht5
  have hUC13 := hUC13.mv ht5
  have hR4 := hR4.mv ht5
  obtain ⟨dt5, rfl, hdt5⟩ := hR5
  obtain ⟨sA5, sB5, sC5, rfl, hnA5, hSA5, ⟨lB5, hLB5, hLsB5⟩, hUC5⟩ := hdt5.open
  have hUC05 := hUC5
  obtain ⟨uC5, hUC15, hUs5⟩ := hUC05
  refine ln_callA en_79 rfl (fun u hu => impl_octetsOf u (x.at_ 2) _ (RT.mv hdt5 hu) (by have := (hsm.at_ 2).open.1; omega)) rfl (fun u6 v6 ht6 hR6 => ?_)
  have hx := hx.mv ht6
  have hS := hS.mv ht6
  have hU1 := hU1.mv ht6
  have hUs := hUs.mv ht6
  have hL := hL.mv ht6
  have hdt1 := hdt1.mv ht6
  have hSA1 := hSA1.mv ht6
  have hLB1 := hLB1.mv ht6
  have hUC11 := hUC11.mv ht6
  have hR2 := hR2.mv ht6
  have hdt3 := hdt3.mv ht6
  have hSA3 := hSA3.mv ht6
  have hLB3 := hLB3.mv ht6
  have hUC13 := hUC13.mv ht6
  have hR4 := hR4.mv ht6
  have hdt5 := hdt5.mv ht6
  have hSA5 := hSA5.mv ht6
  have hLB5 := hLB5.mv ht6
  have hUC15 := hUC15.mv ht6
  refine ln_pv (pv_nilCheck rfl) rfl ?_
  refine ln_pv (pv_fieldAddr (off := 3) (r := 3) Try.underlying80 rfl (tiSl_uint8).size rfl rfl rfl) rfl ?_
  refine ln_store1 (i := 1) rfl rfl rfl (Octs.one hR6) (tiSl_uint8).size rfl ?_
  refine ln_cd ?_
  refine cd_sr ?_
  refine ln_pv (pv_fieldAddr (off := 4) (r := 4) Try.underlying39 rfl (tiSl_impl_Tag).size rfl rfl rfl) rfl ?_
  refine ln_pv (pv_ldo (i := 0) rfl Try.underlying37 rfl rfl rfl) rfl ?_
  refine ln_pv (pv_len_slice Try.underlying37 rfl) rfl ?_
  refine ln_pv (pv_move rfl) rfl ?_
  refine ln_cd ?_
  refine cd_block ?_
  refine cd_loop (⟨fun (z : Nat × Option Nat × List (Nat × Value)) => [(0, .pointer (some ⟨b0, 0, none⟩)), (25, .slice adU x.u.length cU), (26, .int .i64 (x.u.length : Int)), (27, .int .i64 ((z.1 : Nat) : Int))], fun (z : Nat × Option Nat × List (Nat × Value)) => ((match z.2.1 with | none => [] | some m => [.obj m (.map (ME z.2.2) z.2.2.length)]) ++ [.obj b0 (.cells [.int .i16 v, v2, v4, v6, (match z.2.1 with | none => .map none | some m => .map (some m))].toArray 80)]), fun (z : Nat × Option Nat × List (Nat × Value)) s => z.1 ≤ x.u.length ∧ RK s z.2.2 (x.u.take z.1) ∧ (z.2.1 = none → z.2.2 = []), fun (z : Nat × Option Nat × List (Nat × Value)) => x.u.length - z.1⟩ : Lp (Nat × Option Nat × List (Nat × Value))) (0, none, []) ?_ ?_ ?_ ?_
  · intro s0 hs0
    exact ⟨Nat.zero_le _, rfl, fun _ => rfl⟩
  · exact ⟨rfl, rfl, rfl, rfl,  trivial⟩
  · exact (.cons _ (.cons_cons _ .slnil))
  intro z s1 hl1 hI
  obtain ⟨j, mo, l⟩ := z
  dsimp only at hI ⊢
  have hx := hx.mv hl1
  have hS := hS.mv hl1
  have hU1 := hU1.mv hl1
  have hUs := hUs.mv hl1
  have hL := hL.mv hl1
  have hdt1 := hdt1.mv hl1
  have hSA1 := hSA1.mv hl1
  have hLB1 := hLB1.mv hl1
  have hUC11 := hUC11.mv hl1
  have hR2 := hR2.mv hl1
  have hdt3 := hdt3.mv hl1
  have hSA3 := hSA3.mv hl1
  have hLB3 := hLB3.mv hl1
  have hUC13 := hUC13.mv hl1
  have hR4 := hR4.mv hl1
  have hdt5 := hdt5.mv hl1
  have hSA5 := hSA5.mv hl1
  have hLB5 := hLB5.mv hl1
  have hUC15 := hUC15.mv hl1
  have hR6 := hR6.mv hl1
  obtain ⟨hI, hRK, hmo⟩ := hI
  rcases mo with _ | m
  · skip
    obtain rfl := hmo rfl
    dsimp only [List.nil_append, List.cons_append]
    refine cd_sr ?_
    refine ln_pv (pv_lss rfl rfl) rfl ?_
    refine ln_cd ?_
    refine cd_seq ?_
    refine cd_if rfl (fun hc1 => ?_) (fun hc1 => ?_)
    · -- yes
      refine cd_skip ?_
      refine at_cd ?_
      refine cd_seq ?_
      refine cd_block ?_
      have hj : j < x.u.length := by omega
      obtain ⟨bu, ou, rfl, hrc⟩ := hU1.pos (by omega) (by decide)
      obtain ⟨c1, tv, c3, he, hkq, hkk, hTv⟩ := RUs.at_ hj hUs
      have hsub := hrc.sub (j * 2) he hkq
      refine cd_sr ?_
      refine ln_pv (pv_ixN Try.underlying37 tiimpl_Tag.size rfl rfl hj) rfl ?_
      refine ln_pv (pv_ldR hsub Try.underlying62 rfl (tiimpl_Tag).size rfl rfl) rfl ?_
      refine ln_alloc tiimpl_Tag rfl rfl (fun b2 => ?_)
      refine ln_storeW (i := 0) rfl rfl rfl rfl (tiimpl_Tag).size rfl (by simp [(RS.one hTv)]) ?_
      refine ln_cd ?_
      refine cd_draw' [0] [0, 1, 2, 3, 4, 5, 6] [0, 1, 2, 3, 4, 5, 6, 7] mixed (by kernel_rfl) ?_
      refine lo_pv rfl rfl (sk_js (Tr.refl _) [0] rfl) (pv_move rfl) rfl ?_
      refine lo_pv rfl rfl (sk_js (Tr.refl _) [0] rfl) (pv_nilCheck rfl) rfl ?_
      refine lo_pv rfl rfl (sk_js (Tr.refl _) [0] rfl) (pv_fieldAddr (off := 4) (r := 4) Try.underlying80 rfl (tipub_kmsg_Tags).size rfl rfl rfl) rfl ?_
      refine lo_pv rfl rfl (sk_js (Tr.refl _) [0] rfl) (pv_fieldAddr (off := 0) (r := 0) Try.underlying62 rfl (tiuint32).size rfl rfl rfl) rfl ?_
      refine lo_pv rfl rfl (sk_js (Tr.refl _) [0] rfl) (pv_ldo (i := 0) rfl Try.underlying59 rfl rfl rfl) rfl ?_
      refine lo_pv rfl rfl (sk_js (Tr.refl _) [0] rfl) (pv_fieldAddr (off := 1) (r := 1) Try.underlying62 rfl (tiSl_uint8).size rfl rfl rfl) rfl ?_
      refine lo_pv rfl rfl (sk_js (Tr.refl _) [0] rfl) (pv_ldo (i := 0) rfl Try.underlying22 rfl rfl rfl) rfl ?_
      refine lo_eff rfl rfl ?_
      refine ln_callH (E := [_]) (H0 := [_]) (List.Perm.swap _ _ _) en_63 rfl (fun u hu hok hav hnd => tags_Set0 u b0 4 x.u[j].1 _ _ _ rfl hok hav hnd) rfl ?_
      rintro u7 v7 _ ht7 ⟨_, ⟨m, rfl⟩, _⟩
      have hx := hx.mv ht7
      have hS := hS.mv ht7
      have hU1 := hU1.mv ht7
      have hUs := hUs.mv ht7
      have hL := hL.mv ht7
      have hdt1 := hdt1.mv ht7
      have hSA1 := hSA1.mv ht7
      have hLB1 := hLB1.mv ht7
      have hUC11 := hUC11.mv ht7
      have hR2 := hR2.mv ht7
      have hdt3 := hdt3.mv ht7
      have hSA3 := hSA3.mv ht7
      have hLB3 := hLB3.mv ht7
      have hUC13 := hUC13.mv ht7
      have hR4 := hR4.mv ht7
      have hdt5 := hdt5.mv ht7
      have hSA5 := hSA5.mv ht7
      have hLB5 := hLB5.mv ht7
      have hUC15 := hUC15.mv ht7
      have hR6 := hR6.mv ht7
      have hRK := hRK.mv ht7
      have hTv := hTv.mv ht7
      refine lo_back (sk_js ht7 [2] rfl) ?_
      refine lo_nil ?_
      refine at_cd ?_
      refine cd_region ?_
      refine ln_pv (pv_add' rfl rfl (wrap_succ (by omega))) rfl ?_
      refine ln_pv (pv_move rfl) rfl ?_
      refine ln_nil ?_
      refine at_rnd (j + 1, some m, [(x.u[j].1, tv)]) (hl1.trans ht7) ?_ ?_ ⟨rfl, rfl, rfl, rfl,  trivial⟩ (.cons_cons _ (.cons_cons _ (.cons _ .slnil)))
      · intro s9 hs9
        refine ⟨by dsimp only; omega, ?_, fun h => by cases h⟩
        rw [take_snoc' hj]
        exact RK.snoc (l := []) (RSv.mv hTv hs9) (RK.mv hs9 hRK)
      · dsimp only; omega
    · -- no
      refine cd_exit rfl ?_
      have hj : j = x.u.length := by omega
      subst hj
      rw [List.take_length] at hRK
      exact at_retT0 (i := 0) rfl rfl (fun w hS => ⟨_, rfl, _, _, _, _, _, rfl, Octs.mv hR2 (hS.trFinT _ _), Octs.mv hR4 (hS.trFinT _ _), Octs.mv hR6 (hS.trFinT _ _), .inl ⟨rfl, rfl⟩, RK.mv (hS.trFinT _ _) hRK⟩)
  · skip
    dsimp only [List.nil_append, List.cons_append]
    refine cd_sr ?_
    refine ln_pv (pv_lss rfl rfl) rfl ?_
    refine ln_cd ?_
    refine cd_seq ?_
    refine cd_if rfl (fun hc1 => ?_) (fun hc1 => ?_)
    · -- yes
      refine cd_skip ?_
      refine at_cd ?_
      refine cd_seq ?_
      refine cd_block ?_
      have hj : j < x.u.length := by omega
      obtain ⟨bu, ou, rfl, hrc⟩ := hU1.pos (by omega) (by decide)
      obtain ⟨c1, tv, c3, he, hkq, hkk, hTv⟩ := RUs.at_ hj hUs
      have hsub := hrc.sub (j * 2) he hkq
      refine cd_sr ?_
      refine ln_pv (pv_ixN Try.underlying37 tiimpl_Tag.size rfl rfl hj) rfl ?_
      refine ln_pv (pv_ldR hsub Try.underlying62 rfl (tiimpl_Tag).size rfl rfl) rfl ?_
      refine ln_alloc tiimpl_Tag rfl rfl (fun b3 => ?_)
      refine ln_storeW (i := 0) rfl rfl rfl rfl (tiimpl_Tag).size rfl (by simp [(RS.one hTv)]) ?_
      refine ln_cd ?_
      refine cd_draw' [0] [0, 1, 2, 3, 4, 5, 6] [0, 1, 2, 3, 4, 5, 6, 7] mixed (by kernel_rfl) ?_
      refine lo_pv rfl rfl (sk_js (Tr.refl _) [0] rfl) (pv_move rfl) rfl ?_
      refine lo_pv rfl rfl (sk_js (Tr.refl _) [0] rfl) (pv_nilCheck rfl) rfl ?_
      refine lo_pv rfl rfl (sk_js (Tr.refl _) [0] rfl) (pv_fieldAddr (off := 4) (r := 4) Try.underlying80 rfl (tipub_kmsg_Tags).size rfl rfl rfl) rfl ?_
      refine lo_pv rfl rfl (sk_js (Tr.refl _) [0] rfl) (pv_fieldAddr (off := 0) (r := 0) Try.underlying62 rfl (tiuint32).size rfl rfl rfl) rfl ?_
      refine lo_pv rfl rfl (sk_js (Tr.refl _) [0] rfl) (pv_ldo (i := 0) rfl Try.underlying59 rfl rfl rfl) rfl ?_
      refine lo_pv rfl rfl (sk_js (Tr.refl _) [0] rfl) (pv_fieldAddr (off := 1) (r := 1) Try.underlying62 rfl (tiSl_uint8).size rfl rfl rfl) rfl ?_
      refine lo_pv rfl rfl (sk_js (Tr.refl _) [0] rfl) (pv_ldo (i := 0) rfl Try.underlying22 rfl rfl rfl) rfl ?_
      refine lo_eff rfl rfl ?_
      refine ln_callH (E := [_, _]) (H0 := [_]) ((List.Perm.swap _ _ _).trans (List.Perm.cons _ (List.Perm.swap _ _ _))) en_63 rfl (fun u hu hok hav hnd => tags_Set1 u b0 4 x.u[j].1 m _ _ _ l rfl (nodup_new hj (RK.keys hRK) hk) hok hav hnd) rfl ?_
      rintro u8 v8 _ ht8 ⟨_, rfl, _⟩
      have hx := hx.mv ht8
      have hS := hS.mv ht8
      have hU1 := hU1.mv ht8
      have hUs := hUs.mv ht8
      have hL := hL.mv ht8
      have hdt1 := hdt1.mv ht8
      have hSA1 := hSA1.mv ht8
      have hLB1 := hLB1.mv ht8
      have hUC11 := hUC11.mv ht8
      have hR2 := hR2.mv ht8
      have hdt3 := hdt3.mv ht8
      have hSA3 := hSA3.mv ht8
      have hLB3 := hLB3.mv ht8
      have hUC13 := hUC13.mv ht8
      have hR4 := hR4.mv ht8
      have hdt5 := hdt5.mv ht8
      have hSA5 := hSA5.mv ht8
      have hLB5 := hLB5.mv ht8
      have hUC15 := hUC15.mv ht8
      have hR6 := hR6.mv ht8
      have hRK := hRK.mv ht8
      have hTv := hTv.mv ht8
      refine lo_back (sk_js ht8 [2] rfl) ?_
      refine lo_nil ?_
      refine at_cd ?_
      refine cd_region ?_
      refine ln_pv (pv_add' rfl rfl (wrap_succ (by omega))) rfl ?_
      refine ln_pv (pv_move rfl) rfl ?_
      refine ln_nil ?_
      refine at_rnd (j + 1, some m, l ++ [(x.u[j].1, tv)]) (hl1.trans ht8) ?_ ?_ ⟨rfl, rfl, rfl, rfl,  trivial⟩ (.cons_cons _ (.cons_cons _ (.cons _ .slnil)))
      · intro s9 hs9
        refine ⟨by dsimp only; omega, ?_, fun h => by cases h⟩
        rw [take_snoc' hj]
        exact RK.snoc (RSv.mv hTv hs9) (RK.mv hs9 hRK)
      · dsimp only; omega
    · -- no
      refine cd_exit rfl ?_
      have hj : j = x.u.length := by omega
      subst hj
      rw [List.take_length] at hRK
      exact at_retT0 (i := 1) rfl rfl (fun w hS => ⟨_, rfl, _, _, _, _, _, rfl, Octs.mv hR2 (hS.trFinT _ _), Octs.mv hR4 (hS.trFinT _ _), Octs.mv hR6 (hS.trFinT _ _), .inr ⟨m, rfl, obT (i := 1) (j := 0) hS (fun _ h => by simpa [Ent.blk] using h) rfl rfl (by decide)⟩, RK.mv (hS.trFinT _ _) hRK⟩)
def Msg_HeartbeatRequest (s : Vw) (v : Int) (x : Tre) (cells : List Value) : Prop := ∃ c3 mv l, cells = [.int .i16 v, .string ⟨(x.at_ 0).s.toArray⟩, .int .i32 (IntKind.i32.wrap (x.at_ 1).n), .string ⟨(x.at_ 2).s.toArray⟩, c3, mv] ∧ Txt s c3 (x.at_ 3) ∧ MK s mv l ∧ RK s l x.u
theorem setv_HeartbeatRequest (t : Vw) (b : Nat) (v : Int) (hok : (Ent.obj b (.cells ([.int .i16 0, .string .empty, .int .i32 0, .string .empty, .pointer none, .map none] : List Value).toArray 86)).ok t.w) (hav : ∀ q ∈ (Ent.obj b (.cells ([.int .i16 0, .string .empty, .int .i32 0, .string .empty, .pointer none, .map none] : List Value).toArray 86)).blk, t.av q) : CT Try.prog 57 [.pointer (some ⟨b, 0, none⟩), .int .i16 v] t (.obj b (.cells ([.int .i16 0, .string .empty, .int .i32 0, .string .empty, .pointer none, .map none] : List Value).toArray 86)) fun u r e' => e' = .obj b (.cells ([.int .i16 v, .string .empty, .int .i32 0, .string .empty, .pointer none, .map none] : List Value).toArray 86) := by
  refine ct_enter Try.func57 rfl Try.ntmps57 rfl hok hav (by simp [Ent.blk]) ?_
  refine cd_region ?_
  refine ln_pv (pv_move rfl) rfl ?_
  refine ln_pv (pv_move rfl) rfl ?_
  refine ln_pv (pv_nilCheck rfl) rfl ?_
  refine ln_pv (pv_fieldAddr (off := 0) (r := 0) Try.underlying86 rfl (tiint16).size rfl rfl rfl) rfl ?_
  refine ln_store1 (i := 0) rfl rfl rfl rfl (tiint16).size rfl ?_
  refine ln_nil ?_
  exact at_retT0 (i := 0) rfl rfl (fun w hS => rfl)
theorem fill_HeartbeatRequest (t : Vw) (b0 : Nat) (v : Int) (x : Tre) (cs : List Value) (hx : RT t x cs) (hsm : smT x) (hk : (x.u.map (·.1)).Nodup) (hok : (Ent.obj b0 (.cells ([.int .i16 v, .string .empty, .int .i32 0, .string .empty, .pointer none, .map none] : List Value).toArray 86)).ok t.w) (hav : ∀ q ∈ (Ent.obj b0 (.cells ([.int .i16 v, .string .empty, .int .i32 0, .string .empty, .pointer none, .map none] : List Value).toArray 86)).blk, t.av q) : CT Try.prog 58 [.pointer (some ⟨b0, 0, none⟩), .agg cs.toArray] t (.obj b0 (.cells ([.int .i16 v, .string .empty, .int .i32 0, .string .empty, .pointer none, .map none] : List Value).toArray 86)) fun u r e' => ∃ cells, e' = .obj b0 (.cells cells.toArray 86) ∧ Msg_HeartbeatRequest u v x cells := by
  obtain ⟨sS, sL, sU, rfl, hn, hS, ⟨lc, hL, hLs⟩, hU⟩ := hx.open
  obtain ⟨adS, cS, rfl, hleS⟩ := hS.shape
  obtain ⟨adL, cL, rfl, hleL⟩ := hL.shape
  have hU0 := hU
  obtain ⟨uc, hU1, hUs⟩ := hU0
  obtain ⟨hz1, hz2, hz3, hz4⟩ := hsm.open
  obtain ⟨adU, cU, rfl, hleU⟩ := hU1.shape
  refine ct_enter Try.func58 rfl Try.ntmps58 rfl hok hav (by simp [Ent.blk]) ?_
  refine cd_sr ?_
  refine ln_box rfl rfl rfl (fun b1 => ?_)
  refine ln_cd ?_
  refine cd_sr ?_
  refine ln_pv (pv_move rfl) rfl ?_
  refine ln_pv (pv_ldO (i := 0) rfl Try.underlying39 rfl (tiimpl_Tree).size rfl rfl) rfl ?_
  refine ln_callA en_62 rfl (fun u hu => impl_at u x _ 0 (RT.mv hx hu)) rfl (fun u1 v1 ht1 hR1 => ?_)
  have hx := hx.mv ht1
  have hS := hS.mv ht1
  have hU1 := hU1.mv ht1
  have hUs := hUs.mv ht1
  have hL := hL.mv ht1
  obtain ⟨dt1, rfl, hdt1⟩ := hR1
  obtain ⟨sA1, sB1, sC1, rfl, hnA1, hSA1, ⟨lB1, hLB1, hLsB1⟩, hUC1⟩ := hdt1.open
  have hUC01 := hUC1
  obtain ⟨uC1, hUC11, hUs1⟩ := hUC01
  refine ln_pv (pv_field1 Try.underlying39 rfl Try.underlying22 rfl rfl rfl) rfl ?_
  refine ln_pv (pv_b2s hSA1 Try.underlying22 Try.underlying5 Try.underlying9 rfl) rfl ?_
  refine ln_pv (pv_nilCheck rfl) rfl ?_
  refine ln_pv (pv_fieldAddr (off := 1) (r := 1) Try.underlying86 rfl (tistring).size rfl rfl rfl) rfl ?_
  refine ln_store1 (i := 1) rfl rfl rfl rfl (tistring).size rfl ?_
  refine ln_cd ?_
  refine cd_sr ?_
  refine ln_pv (pv_move rfl) rfl ?_
  refine ln_pv (pv_ldO (i := 0) rfl Try.underlying39 rfl (tiimpl_Tree).size rfl rfl) rfl ?_
  refine ln_callA en_62 rfl (fun u hu => impl_at u x _ 1 (RT.mv hx hu)) rfl (fun u2 v2 ht2 hR2 => ?_)
  have hx := hx.mv ht2
  have hS := hS.mv ht2
  have hU1 := hU1.mv ht2
  have hUs := hUs.mv ht2
  have hL := hL.mv ht2
  have hdt1 := hdt1.mv ht2
  have hSA1 := hSA1.mv ht2
  have hLB1 := hLB1.mv ht2
  have hUC11 := hUC11.mv ht2
  obtain ⟨dt2, rfl, hdt2⟩ := hR2
  obtain ⟨sA2, sB2, sC2, rfl, hnA2, hSA2, ⟨lB2, hLB2, hLsB2⟩, hUC2⟩ := hdt2.open
  have hUC02 := hUC2
  obtain ⟨uC2, hUC12, hUs2⟩ := hUC02
  refine ln_pv (pv_field1 Try.underlying39 rfl Try.underlying2 rfl rfl rfl) rfl ?_
  refine ln_pv (pv_conv Try.underlying2 Try.underlying21 rfl) rfl ?_
  refine ln_pv (pv_nilCheck rfl) rfl ?_
  refine ln_pv (pv_fieldAddr (off := 2) (r := 2) Try.underlying86 rfl (tiint32).size rfl rfl rfl) rfl ?_
  refine ln_store1 (i := 1) rfl rfl rfl rfl (tiint32).size rfl ?_
  refine ln_cd ?_
  refine cd_sr ?_
  refine ln_pv (pv_move rfl) rfl ?_
  refine ln_pv (pv_ldO (i := 0) rfl Try.underlying39 rfl (tiimpl_Tree).size rfl rfl) rfl ?_
  refine ln_callA en_62 rfl (fun u hu => impl_at u x _ 2 (RT.mv hx hu)) rfl (fun u3 v3 ht3 hR3 => ?_)
  have hx := hx.mv ht3
  have hS := hS.mv ht3
  have hU1 := hU1.mv ht3
  have hUs := hUs.mv ht3
  have hL := hL.mv ht3
  have hdt1 := hdt1.mv ht3
  have hSA1 := hSA1.mv ht3
  have hLB1 := hLB1.mv ht3
  have hUC11 := hUC11.mv ht3
  have hdt2 := hdt2.mv ht3
  have hSA2 := hSA2.mv ht3
  have hLB2 := hLB2.mv ht3
  have hUC12 := hUC12.mv ht3
  obtain ⟨dt3, rfl, hdt3⟩ := hR3
  obtain ⟨sA3, sB3, sC3, rfl, hnA3, hSA3, ⟨lB3, hLB3, hLsB3⟩, hUC3⟩ := hdt3.open
  have hUC03 := hUC3
  obtain ⟨uC3, hUC13, hUs3⟩ := hUC03
  refine ln_pv (pv_field1 Try.underlying39 rfl Try.underlying22 rfl rfl rfl) rfl ?_
  refine ln_pv (pv_b2s hSA3 Try.underlying22 Try.underlying5 Try.underlying9 rfl) rfl ?_
  refine ln_pv (pv_nilCheck rfl) rfl ?_
  refine ln_pv (pv_fieldAddr (off := 3) (r := 3) Try.underlying86 rfl (tistring).size rfl rfl rfl) rfl ?_
  refine ln_store1 (i := 1) rfl rfl rfl rfl (tistring).size rfl ?_
  refine ln_cd ?_
  refine cd_sr ?_
  refine ln_pv (pv_move rfl) rfl ?_
  refine ln_pv (pv_ldO (i := 0) rfl Try.underlying39 rfl (tiimpl_Tree).size rfl rfl) rfl ?_
  refine ln_callA en_62 rfl (fun u hu => impl_at u x _ 3 (RT.mv hx hu)) rfl (fun u4 v4 ht4 hR4 => ?_)
  have hx := hx.mv ht4
  have hS := hS.mv ht4
  have hU1 := hU1.mv ht4
  have hUs := hUs.mv ht4
  have hL := hL.mv ht4
  have hdt1 := hdt1.mv ht4
  have hSA1 := hSA1.mv ht4
  have hLB1 := hLB1.mv ht4
  have hUC11 := hUC11.mv ht4
  have hdt2 := hdt2.mv ht4
  have hSA2 := hSA2.mv ht4
  have hLB2 := hLB2.mv ht4
  have hUC12 := hUC12.mv ht4
  have hdt3 := hdt3.mv ht4
  have hSA3 := hSA3.mv ht4
  have hLB3 := hLB3.mv ht4
  have hUC13 := hUC13.mv ht4
  obtain ⟨dt4, rfl, hdt4⟩ := hR4
  obtain ⟨sA4, sB4, sC4, rfl, hnA4, hSA4, ⟨lB4, hLB4, hLsB4⟩, hUC4⟩ := hdt4.open
  have hUC04 := hUC4
  obtain ⟨uC4, hUC14, hUs4⟩ := hUC04
  refine ln_callA en_86 rfl (fun u hu => impl_textOf u (x.at_ 3) _ (RT.mv hdt4 hu)) rfl (fun u5 v5 ht5 hR5 => ?_)
  have hx := hx.mv ht5
  have hS := hS.mv ht5
  have hU1 := hU1.mv ht5
  have hUs := hUs.mv ht5
  have hL := hL.mv ht5
  have hdt1 := hdt1.mv ht5
  have hSA1 := hSA1.mv ht5
  have hLB1 := hLB1.mv ht5
  have hUC11 := hUC11.mv ht5
  have hdt2 := hdt2.mv ht5
  have hSA2 := hSA2.mv ht5
  have hLB2 := hLB2.mv ht5
  have hUC12 := hUC12.mv ht5
  have hdt3 := hdt3.mv ht5
  have hSA3 := hSA3.mv ht5
  have hLB3 := hLB3.mv ht5
  have hUC13 := hUC13.mv ht5
  have hdt4 := hdt4.mv ht5
  have hSA4 := hSA4.mv ht5
  have hLB4 := hLB4.mv ht5
  have hUC14 := hUC14.mv ht5
  refine ln_pv (pv_nilCheck rfl) rfl ?_
  refine ln_pv (pv_fieldAddr (off := 4) (r := 4) Try.underlying86 rfl (tiPt_string).size rfl rfl rfl) rfl ?_
  refine ln_store1 (i := 1) rfl rfl rfl (Txt.one hR5) (tiPt_string).size rfl ?_
  refine ln_cd ?_
  refine cd_sr ?_
  refine ln_pv (pv_fieldAddr (off := 4) (r := 4) Try.underlying39 rfl (tiSl_impl_Tag).size rfl rfl rfl) rfl ?_
  refine ln_pv (pv_ldo (i := 0) rfl Try.underlying37 rfl rfl rfl) rfl ?_
  refine ln_pv (pv_len_slice Try.underlying37 rfl) rfl ?_
  refine ln_pv (pv_move rfl) rfl ?_
  refine ln_cd ?_
  refine cd_block ?_
  refine cd_loop (⟨fun (z : Nat × Option Nat × List (Nat × Value)) => [(0, .pointer (some ⟨b0, 0, none⟩)), (34, .slice adU x.u.length cU), (35, .int .i64 (x.u.length : Int)), (36, .int .i64 ((z.1 : Nat) : Int))], fun (z : Nat × Option Nat × List (Nat × Value)) => ((match z.2.1 with | none => [] | some m => [.obj m (.map (ME z.2.2) z.2.2.length)]) ++ [.obj b0 (.cells [.int .i16 v, .string ⟨(x.at_ 0).s.toArray⟩, .int .i32 (IntKind.i32.wrap (x.at_ 1).n), .string ⟨(x.at_ 2).s.toArray⟩, v5, (match z.2.1 with | none => .map none | some m => .map (some m))].toArray 86)]), fun (z : Nat × Option Nat × List (Nat × Value)) s => z.1 ≤ x.u.length ∧ RK s z.2.2 (x.u.take z.1) ∧ (z.2.1 = none → z.2.2 = []), fun (z : Nat × Option Nat × List (Nat × Value)) => x.u.length - z.1⟩ : Lp (Nat × Option Nat × List (Nat × Value))) (0, none, []) ?_ ?_ ?_ ?_
  · intro s0 hs0
    exact ⟨Nat.zero_le _, rfl, fun _ => rfl⟩
  · exact ⟨rfl, rfl, rfl, rfl,  trivial⟩
  · exact (.cons _ (.cons_cons _ .slnil))
  intro z s1 hl1 hI
  obtain ⟨j, mo, l⟩ := z
  dsimp only at hI ⊢
  have hx := hx.mv hl1
  have hS := hS.mv hl1
  have hU1 := hU1.mv hl1
  have hUs := hUs.mv hl1
  have hL := hL.mv hl1
  have hdt1 := hdt1.mv hl1
  have hSA1 := hSA1.mv hl1
  have hLB1 := hLB1.mv hl1
  have hUC11 := hUC11.mv hl1
  have hdt2 := hdt2.mv hl1
  have hSA2 := hSA2.mv hl1
  have hLB2 := hLB2.mv hl1
  have hUC12 := hUC12.mv hl1
  have hdt3 := hdt3.mv hl1
  have hSA3 := hSA3.mv hl1
  have hLB3 := hLB3.mv hl1
  have hUC13 := hUC13.mv hl1
  have hdt4 := hdt4.mv hl1
  have hSA4 := hSA4.mv hl1
  have hLB4 := hLB4.mv hl1
  have hUC14 := hUC14.mv hl1
  have hR5 := hR5.mv hl1
  obtain ⟨hI, hRK, hmo⟩ := hI
  rcases mo with _ | m
  · skip
    obtain rfl := hmo rfl
    dsimp only [List.nil_append, List.cons_append]
    refine cd_sr ?_
    refine ln_pv (pv_lss rfl rfl) rfl ?_
    refine ln_cd ?_
    refine cd_seq ?_
    refine cd_if rfl (fun hc1 => ?_) (fun hc1 => ?_)
    · -- yes
      refine cd_skip ?_
      refine at_cd ?_
      refine cd_seq ?_
      refine cd_block ?_
      have hj : j < x.u.length := by omega
      obtain ⟨bu, ou, rfl, hrc⟩ := hU1.pos (by omega) (by decide)
      obtain ⟨c1, tv, c3, he, hkq, hkk, hTv⟩ := RUs.at_ hj hUs
      have hsub := hrc.sub (j * 2) he hkq
      refine cd_sr ?_
      refine ln_pv (pv_ixN Try.underlying37 tiimpl_Tag.size rfl rfl hj) rfl ?_
      refine ln_pv (pv_ldR hsub Try.underlying62 rfl (tiimpl_Tag).size rfl rfl) rfl ?_
      refine ln_alloc tiimpl_Tag rfl rfl (fun b2 => ?_)
      refine ln_storeW (i := 0) rfl rfl rfl rfl (tiimpl_Tag).size rfl (by simp [(RS.one hTv)]) ?_
      refine ln_cd ?_
      refine cd_draw' [0] [0, 1, 2, 3, 4, 5, 6] [0, 1, 2, 3, 4, 5, 6, 7] mixed (by kernel_rfl) ?_
      refine lo_pv rfl rfl (sk_js (Tr.refl _) [0] rfl) (pv_move rfl) rfl ?_
      refine lo_pv rfl rfl (sk_js (Tr.refl _) [0] rfl) (pv_nilCheck rfl) rfl ?_
      refine lo_pv rfl rfl (sk_js (Tr.refl _) [0] rfl) (pv_fieldAddr (off := 5) (r := 5) Try.underlying86 rfl (tipub_kmsg_Tags).size rfl rfl rfl) rfl ?_
      refine lo_pv rfl rfl (sk_js (Tr.refl _) [0] rfl) (pv_fieldAddr (off := 0) (r := 0) Try.underlying62 rfl (tiuint32).size rfl rfl rfl) rfl ?_
      refine lo_pv rfl rfl (sk_js (Tr.refl _) [0] rfl) (pv_ldo (i := 0) rfl Try.underlying59 rfl rfl rfl) rfl ?_
      refine lo_pv rfl rfl (sk_js (Tr.refl _) [0] rfl) (pv_fieldAddr (off := 1) (r := 1) Try.underlying62 rfl (tiSl_uint8).size rfl rfl rfl) rfl ?_
      refine lo_pv rfl rfl (sk_js (Tr.refl _) [0] rfl) (pv_ldo (i := 0) rfl Try.underlying22 rfl rfl rfl) rfl ?_
      refine lo_eff rfl rfl ?_
      refine ln_callH (E := [_]) (H0 := [_]) (List.Perm.swap _ _ _) en_63 rfl (fun u hu hok hav hnd => tags_Set0 u b0 5 x.u[j].1 _ _ _ rfl hok hav hnd) rfl ?_
      rintro u6 v6 _ ht6 ⟨_, ⟨m, rfl⟩, _⟩
      have hx := hx.mv ht6
      have hS := hS.mv ht6
      have hU1 := hU1.mv ht6
      have hUs := hUs.mv ht6
      have hL := hL.mv ht6
      have hdt1 := hdt1.mv ht6
      have hSA1 := hSA1.mv ht6
      have hLB1 := hLB1.mv ht6
      have hUC11 := hUC11.mv ht6
      have hdt2 := hdt2.mv ht6
      have hSA2 := hSA2.mv ht6
      have hLB2 := hLB2.mv ht6
      have hUC12 := hUC12.mv ht6
      have hdt3 := hdt3.mv ht6
      have hSA3 := hSA3.mv ht6
      have hLB3 := hLB3.mv ht6
      have hUC13 := hUC13.mv ht6
      have hdt4 := hdt4.mv ht6
      have hSA4 := hSA4.mv ht6
      have hLB4 := hLB4.mv ht6
      have hUC14 := hUC14.mv ht6
      have hR5 := hR5.mv ht6
      have hRK := hRK.mv ht6
      have hTv := hTv.mv ht6
      refine lo_back (sk_js ht6 [2] rfl) ?_
      refine lo_nil ?_
      refine at_cd ?_
      refine cd_region ?_
      refine ln_pv (pv_add' rfl rfl (wrap_succ (by omega))) rfl ?_
      refine ln_pv (pv_move rfl) rfl ?_
      refine ln_nil ?_
      refine at_rnd (j + 1, some m, [(x.u[j].1, tv)]) (hl1.trans ht6) ?_ ?_ ⟨rfl, rfl, rfl, rfl,  trivial⟩ (.cons_cons _ (.cons_cons _ (.cons _ .slnil)))
      · intro s9 hs9
        refine ⟨by dsimp only; omega, ?_, fun h => by cases h⟩
        rw [take_snoc' hj]
        exact RK.snoc (l := []) (RSv.mv hTv hs9) (RK.mv hs9 hRK)
      · dsimp only; omega
    · -- no
      refine cd_exit rfl ?_
      have hj : j = x.u.length := by omega
      subst hj
      rw [List.take_length] at hRK
      exact at_retT0 (i := 0) rfl rfl (fun w hS => ⟨_, rfl, _, _, _, rfl, Txt.mv hR5 (hS.trFinT _ _), .inl ⟨rfl, rfl⟩, RK.mv (hS.trFinT _ _) hRK⟩)
  · skip
    dsimp only [List.nil_append, List.cons_append]
    refine cd_sr ?_
    refine ln_pv (pv_lss rfl rfl) rfl ?_
    refine ln_cd ?_
    refine cd_seq ?_
    refine cd_if rfl (fun hc1 => ?_) (fun hc1 => ?_)
    · -- yes
      refine cd_skip ?_
      refine at_cd ?_
      refine cd_seq ?_
      refine cd_block ?_
      have hj : j < x.u.length := by omega
      obtain ⟨bu, ou, rfl, hrc⟩ := hU1.pos (by omega) (by decide)
      obtain ⟨c1, tv, c3, he, hkq, hkk, hTv⟩ := RUs.at_ hj hUs
      have hsub := hrc.sub (j * 2) he hkq
      refine cd_sr ?_
      refine ln_pv (pv_ixN Try.underlying37 tiimpl_Tag.size rfl rfl hj) rfl ?_
      refine ln_pv (pv_ldR hsub Try.underlying62 rfl (tiimpl_Tag).size rfl rfl) rfl ?_
      refine ln_alloc tiimpl_Tag rfl rfl (fun b3 => ?_)
      refine ln_storeW (i := 0) rfl rfl rfl rfl (tiimpl_Tag).size rfl (by simp [(RS.one hTv)]) ?_
      refine ln_cd ?_
      refine cd_draw' [0] [0, 1, 2, 3, 4, 5, 6] [0, 1, 2, 3, 4, 5, 6, 7] mixed (by kernel_rfl) ?_
      refine lo_pv rfl rfl (sk_js (Tr.refl _) [0] rfl) (pv_move rfl) rfl ?_
      refine lo_pv rfl rfl (sk_js (Tr.refl _) [0] rfl) (pv_nilCheck rfl) rfl ?_
      refine lo_pv rfl rfl (sk_js (Tr.refl _) [0] rfl) (pv_fieldAddr (off := 5) (r := 5) Try.underlying86 rfl (tipub_kmsg_Tags).size rfl rfl rfl) rfl ?_
      refine lo_pv rfl rfl (sk_js (Tr.refl _) [0] rfl) (pv_fieldAddr (off := 0) (r := 0) Try.underlying62 rfl (tiuint32).size rfl rfl rfl) rfl ?_
      refine lo_pv rfl rfl (sk_js (Tr.refl _) [0] rfl) (pv_ldo (i := 0) rfl Try.underlying59 rfl rfl rfl) rfl ?_
      refine lo_pv rfl rfl (sk_js (Tr.refl _) [0] rfl) (pv_fieldAddr (off := 1) (r := 1) Try.underlying62 rfl (tiSl_uint8).size rfl rfl rfl) rfl ?_
      refine lo_pv rfl rfl (sk_js (Tr.refl _) [0] rfl) (pv_ldo (i := 0) rfl Try.underlying22 rfl rfl rfl) rfl ?_
      refine lo_eff rfl rfl ?_
      refine ln_callH (E := [_, _]) (H0 := [_]) ((List.Perm.swap _ _ _).trans (List.Perm.cons _ (List.Perm.swap _ _ _))) en_63 rfl (fun u hu hok hav hnd => tags_Set1 u b0 5 x.u[j].1 m _ _ _ l rfl (nodup_new hj (RK.keys hRK) hk) hok hav hnd) rfl ?_
      rintro u7 v7 _ ht7 ⟨_, rfl, _⟩
      have hx := hx.mv ht7
      have hS := hS.mv ht7
      have hU1 := hU1.mv ht7
      have hUs := hUs.mv ht7
      have hL := hL.mv ht7
      have hdt1 := hdt1.mv ht7
      have hSA1 := hSA1.mv ht7
      have hLB1 := hLB1.mv ht7
      have hUC11 := hUC11.mv ht7
      have hdt2 := hdt2.mv ht7
      have hSA2 := hSA2.mv ht7
      have hLB2 := hLB2.mv ht7
      have hUC12 := hUC12.mv ht7
      have hdt3 := hdt3.mv ht7
      have hSA3 := hSA3.mv ht7
      have hLB3 := hLB3.mv ht7
      have hUC13 := hUC13.mv ht7
      have hdt4 := hdt4.mv ht7
      have hSA4 := hSA4.mv ht7
      have hLB4 := hLB4.mv ht7
      have hUC14 := hUC14.mv ht7
      have hR5 := hR5.mv ht7
      have hRK := hRK.mv ht7
      have hTv := hTv.mv ht7
      refine lo_back (sk_js ht7 [2] rfl) ?_
      refine lo_nil ?_
      refine at_cd ?_
      refine cd_region ?_
      refine ln_pv (pv_add' rfl rfl (wrap_succ (by omega))) rfl ?_
      refine ln_pv (pv_move rfl) rfl ?_
      refine ln_nil ?_
      refine at_rnd (j + 1, some m, l ++ [(x.u[j].1, tv)]) (hl1.trans ht7) ?_ ?_ ⟨rfl, rfl, rfl, rfl,  trivial⟩ (.cons_cons _ (.cons_cons _ (.cons _ .slnil)))
      · intro s9 hs9
        refine ⟨by dsimp only; omega, ?_, fun h => by cases h⟩
        rw [take_snoc' hj]
        exact RK.snoc (RSv.mv hTv hs9) (RK.mv hs9 hRK)
      · dsimp only; omega
    · -- no
      refine cd_exit rfl ?_
      have hj : j = x.u.length := by omega
      subst hj
      rw [List.take_length] at hRK
      exact at_retT0 (i := 1) rfl rfl (fun w hS => ⟨_, rfl, _, _, _, rfl, Txt.mv hR5 (hS.trFinT _ _), .inr ⟨m, rfl, obT (i := 1) (j := 0) hS (fun _ h => by simpa [Ent.blk] using h) rfl rfl (by decide)⟩, RK.mv (hS.trFinT _ _) hRK⟩)
end K
end Go.Proofs.Ytoledocfkjohhaa
