import Derived.Test.YtkcdocdldebeoaaDoorVa
import Derived.Test.YtkcdocdldebeoaaDoorMpp
import Derived.Test.YtkcdocdldebeoaaDoorP4
import Derived.Test.YtkcdocdldebeoaaDoorS10
set_option linter.unusedVariables false
set_option linter.unusedSimpArgs false
namespace Go.Proofs.YtkcdocdldebeoaaDoor
namespace K
open Go Go.Lib
theorem df_PushTelemetryResponse (z0 z1 z2 z3 : Value) : DfC 57 [z0, z1, z2, z3] [z0, z1, z2, z3] := by
  intro mk b o hT t hok hav
  refine ct_enter Tryd.func57 rfl Tryd.ntmps57 rfl hok hav (by rw [hT.blk]; simp) ?_
  refine cd_skip ?_
  exact at_retT0 (i := 0) rfl rfl (fun w hS => ⟨rfl, rfl⟩)
theorem read_PushTelemetryResponse (t : Vw) (b : Nat) (v : Int) (x : Tre) (sv : Value) (hsv : RSv t sv (partB F_PushTelemetryResponse v (flexB 0 v) x)) (hk : keysT x) (h0 : 0 ≤ v) (h1 : v ≤ 0) (hok : (MsgBox b 96 (.int .i16 v :: ([.int .i32 0, .int .i16 0, .map none] : List Value))).ok t.w) (hav : ∀ q ∈ (MsgBox b 96 (.int .i16 v :: ([.int .i32 0, .int .i16 0, .map none] : List Value))).blk, t.av q) : CT Tryd.prog 58 [.pointer (some ⟨b, 0, none⟩), sv, .bool false] t (MsgBox b 96 (.int .i16 v :: ([.int .i32 0, .int .i16 0, .map none] : List Value))) fun u r e' => r = .nilIface ∧ ∃ cells, e' = MsgBox b 96 (.int .i16 v :: cells) ∧ RMp u F_PushTelemetryResponse (imT F_PushTelemetryResponse v (flexB 0 v) x) cells := by
  have hv0 := h0
  have hnt : ntFs F_PushTelemetryResponse = true := by kernel_rfl
  generalize hqd : flexB 0 v = q at *
  have hq0 : decide (v ≥ 0) = q := by rw [← hqd]; simp [flexB]
  obtain ⟨adS, cS, rfl, hcS⟩ := RSv.shape hsv
  refine ct_enter Tryd.func58 rfl Tryd.ntmps58 rfl hok hav (by simp [Ent.blk]) ?_
  refine cd_sq ?_
  refine rg_const rfl ?_
  refine at_cd ?_
  refine cd_sr ?_
  refine ln_pv (pv_move rfl) rfl ?_
  refine ln_callT (i := 0) (vals := [.pointer (some ⟨b, 0, none⟩)]) en_57 rfl rfl (fun u hu hok hav => df_PushTelemetryResponse _ _ _ _ (fun w => .obj b (.cells w.toArray 96)) b 0 (Tgt.obj b 96 4) u hok hav) rfl ?_
  rintro u1 _ _ ht1 ⟨ux1, ⟨rfl, rfl⟩, hx1⟩
  refine ln_cd ?_
  refine cd_sr ?_
  refine ln_pv (pv_move rfl) rfl ?_
  refine ln_pv (pv_struct [(0, 1), (1, 1)] (l := [_, _]) rfl Tryd.underlying101 tipub_kmsg_inner_kbin_Reader (by kernel_rfl) rfl rfl) rfl ?_
  refine ln_alloc (l := [.slice none 0 0, .bool false]) tipub_kmsg_inner_kbin_Reader rfl rfl (fun br => ?_)
  refine ln_storeW (i := 0) (vs := [_, .bool false]) rfl rfl rfl rfl tipub_kmsg_inner_kbin_Reader.size rfl (by simp) ?_
  refine ln_cd ?_
  refine cd_sr ?_
  refine ln_pv (pv_move rfl) rfl ?_
  refine ln_pv (pv_nilCheck rfl) rfl ?_
  refine ln_pv (pv_fieldAddr (off := 0) (r := 0) Tryd.underlying96 rfl tiint16.size rfl rfl rfl) rfl ?_
  refine ln_pv (pv_ldo (i := 1) (v := .int .i16 v) rfl Tryd.underlying49 rfl rfl rfl) rfl ?_
  refine ln_pv (pv_assign rfl) rfl ?_
  refine ln_cd ?_
  refine cd_sq ?_
  refine rg_blank rfl rfl ?_
  refine at_cd ?_
  refine cd_sr ?_
  refine ln_pv (pv_move rfl) rfl ?_
  refine ln_pv (pv_geq rfl rfl) rfl ?_
  refine ln_pv (pv_assign rfl) rfl ?_
  rw [hq0]
  refine ln_cd ?_
  refine cd_sq ?_
  refine rg_blank rfl rfl ?_
  refine at_cd ?_
  refine cd_sr ?_
  refine ln_pv (pv_move rfl) rfl ?_
  refine ln_pv (pv_assign rfl) rfl ?_
  refine ln_cd ?_
  refine cd_sub_ (L' := [(10, .pointer (some ⟨b, 0, none⟩)), (9, .bool q), (8, .int .i16 v), (7, .pointer (some ⟨br, 0, none⟩)), (2, .bool false)]) (.put rfl (.put rfl (.put rfl (.put rfl (.put rfl .nil))))) ?_
  obtain ⟨mk, hmk⟩ : ∃ mk : List Value → Ent, mk = fun w => MsgBox b 96 (.int .i16 v :: w) := ⟨_, rfl⟩
  have hT : Tgt mk b 1 3 := by rw [hmk]; exact Tgt.behind b 96 _ 3
  refine cd_eqH (H' := [RdE br _, mk ([] ++ ([.int .i32 0, .int .i16 0, .map none] : List Value))]) (by rw [hmk]; rfl) ?_
  have hR : Rs u1 [.mk 3 0 (-1) (-1) (-1) 0 0 [], .mk 2 0 (-1) (-1) (-1) 0 0 []] [] v q x (imT F_PushTelemetryResponse v q x) (tgsB q x ++ []) _ [] := Rs.start (F := F_PushTelemetryResponse) (RSv.part hnt (by rw [List.append_nil]; exact RSv.mv hsv ht1)) hnt
  refine cd_sq ?_
  refine st_num (z := .int .i32 0) hR (hasB_all hv0) rfl en_64 (Fc.num (by decide) (by decide) (by decide) (fun null => sc_i32 null _ _)) rfl hT rfl Tryd.underlying96 rfl tiint32.size rfl (po_eq (show 1 = 1 + fszs _ by kernel_rfl)) tiint32.size rfl rfl (fun u1 v1 done1 ht1 hR => ?_)
  refine at_cd ?_
  refine cd_sq ?_
  refine st_num (z := .int .i16 0) hR (hasB_all hv0) rfl en_65 (Fc.num (by decide) (by decide) (by decide) (fun null => sc_i16 null _ _)) rfl hT rfl Tryd.underlying96 rfl tiint16.size rfl (po_eq (show 2 = 1 + fszs _ by kernel_rfl)) tiint16.size rfl rfl (fun u2 v2 done2 ht2 hR => ?_)
  refine at_cd ?_
  refine cd_sq ?_
  refine st_tags (F := F_PushTelemetryResponse) hnt hR (keysT.open hk).1 rfl rfl rfl hT rfl Tryd.underlying96 rfl tipub_kmsg_Tags.size rfl (po_eq (show 3 = 1 + fszs _ by kernel_rfl)) tipub_kmsg_Tags.size rfl rfl (fun u3 v3 cs3 ht3 hv hM => ?_)
  refine at_cd ?_
  refine cd_sr ?_
  refine ln_callT (i := 0) (vals := [.pointer (some ⟨br, 0, none⟩)]) en_68 rfl rfl (fun u hu hok hav => rd_Complete u br _ hok hav) rfl ?_
  rintro u9 _ _ ht9 ⟨ux9, ⟨rfl, rfl⟩, hx9⟩
  refine ln_pv (pv_assign rfl) rfl ?_
  refine ln_cd ?_
  refine cd_ret ?_
  exact at_retT (i := 1) rfl rfl rfl (fun w hS => ⟨rfl, _, by rw [hmk], (hM.mv ht9).mv (hS.trFinT _ _)⟩)
theorem newp_PushTelemetryResponse (t : Vw) (hok : HF [] t.w) (hav : ∀ q ∈ blks [], t.av q) (hnd : (blks []).Nodup) : CH Tryd.prog 37 [] t [] fun u r E' => ∃ b, r = .pointer (some ⟨b, 0, none⟩) ∧ E' = [MsgBox b 96 [.int .i16 0, .int .i32 0, .int .i16 0, .map none]] := by
  refine ch_enter Tryd.func37 rfl Tryd.ntmps37 rfl hok hav hnd ?_
  refine cd_sr ?_
  refine ln_pv (pv_assign rfl) rfl ?_
  refine ln_cd ?_
  refine cd_sr ?_
  refine ln_alloc tipub_kmsg_PushTelemetryResponse rfl rfl (fun b => ?_)
  refine ln_cd ?_
  refine cd_sr ?_
  refine ln_callT (i := 0) en_57 rfl rfl (fun u hu hok hav => df_PushTelemetryResponse _ _ _ _ (fun w => .obj b (.cells w.toArray 96)) b 0 (Tgt.obj b 96 4) u hok hav) rfl ?_
  rintro u1 _ _ ht1 ⟨_, ⟨rfl, rfl⟩, _⟩
  refine ln_cd ?_
  refine cd_sr ?_
  refine ln_pv (pv_assign rfl) rfl ?_
  refine ln_cd ?_
  refine cd_ret ?_
  exact at_retHq [MsgBox b 96 [.int .i16 0, .int .i32 0, .int .i16 0, .map none]] (List.Sublist.refl _) rfl rfl (fun w hS => ⟨b, rfl, rfl⟩)
theorem setd_PushTelemetryResponse (t : Vw) (b : Nat) (v : Int) (hok : (MsgBox b 96 [.int .i16 0, .int .i32 0, .int .i16 0, .map none]).ok t.w) (hav : ∀ q ∈ (MsgBox b 96 [.int .i16 0, .int .i32 0, .int .i16 0, .map none]).blk, t.av q) : CT Tryd.prog 39 [.pointer (some ⟨b, 0, none⟩), .int .i16 v] t (MsgBox b 96 [.int .i16 0, .int .i32 0, .int .i16 0, .map none]) fun u r e' => e' = MsgBox b 96 [.int .i16 v, .int .i32 0, .int .i16 0, .map none] := by
  refine ct_enter Tryd.func39 rfl Tryd.ntmps39 rfl hok hav (by simp [Ent.blk]) ?_
  refine cd_region ?_
  refine ln_pv (pv_move rfl) rfl ?_
  refine ln_pv (pv_move rfl) rfl ?_
  refine ln_pv (pv_nilCheck rfl) rfl ?_
  refine ln_pv (pv_fieldAddr (off := 0) (r := 0) Tryd.underlying96 rfl (tiint16).size rfl rfl rfl) rfl ?_
  refine ln_store1 (i := 0) rfl rfl rfl rfl (tiint16).size rfl ?_
  refine ln_nil ?_
  exact at_retT0 (i := 0) rfl rfl (fun w hS => rfl)
theorem readf_PushTelemetryResponse (t : Vw) (b : Nat) (v : Int) (x : Tre) (sv : Value) (hsv : RSv t sv (partB F_PushTelemetryResponse v (flexB 0 v) x)) (hk : keysT x) (h0 : 0 ≤ v) (h1 : v ≤ 0) (hok : (MsgBox b 96 (.int .i16 v :: ([.int .i32 0, .int .i16 0, .map none] : List Value))).ok t.w) (hav : ∀ q ∈ (MsgBox b 96 (.int .i16 v :: ([.int .i32 0, .int .i16 0, .map none] : List Value))).blk, t.av q) : CT Tryd.prog 40 [.pointer (some ⟨b, 0, none⟩), sv] t (MsgBox b 96 (.int .i16 v :: ([.int .i32 0, .int .i16 0, .map none] : List Value))) fun u r e' => r = .nilIface ∧ ∃ cells, e' = MsgBox b 96 (.int .i16 v :: cells) ∧ RMp u F_PushTelemetryResponse (imT F_PushTelemetryResponse v (flexB 0 v) x) cells := by
  refine ct_enter Tryd.func40 rfl Tryd.ntmps40 rfl hok hav (by simp [Ent.blk]) ?_
  refine cd_sr ?_
  refine ln_pv (pv_assign rfl) rfl ?_
  refine ln_cd ?_
  refine cd_sr ?_
  refine ln_pv (pv_move rfl) rfl ?_
  refine ln_pv (pv_move rfl) rfl ?_
  refine ln_callT (i := 0) en_58 rfl rfl (fun u hu hok hav => read_PushTelemetryResponse u b v x sv (RSv.mv hsv hu) hk h0 h1 hok hav) rfl ?_
  rintro u2 _ _ ht2 ⟨ux, ⟨rfl, cells, rfl, hM⟩, hx⟩
  refine ln_pv (pv_assign rfl) rfl ?_
  refine ln_cd ?_
  refine cd_ret ?_
  exact at_retT (i := 0) rfl rfl rfl (fun w hS => ⟨rfl, cells, rfl, (hM.mv hx).mv (hS.trFinT _ _)⟩)
theorem behind_PushTelemetryResponse (t : Vw) (v : Int) (x : Tre) (D : List UInt8) (dv sv : Value) (hdv : RSv t dv D) (hsv : RSv t sv (partB F_PushTelemetryResponse v (flexB 0 v) x)) (hk : keysT x) (h0 : 0 ≤ v) (h1 : v ≤ 0) (hD : D.length ≤ 1000) (hB : (partB F_PushTelemetryResponse v (flexB 0 v) x).length ≤ 1099511627776) : CA Tryd.prog 19 [.int .i64 v, dv, sv] t fun u r => ∃ rv, r = .tuple #[rv, .bool true] ∧ RSv u rv (D ++ partB F_PushTelemetryResponse v (flexB 0 v) x) := by
  have hnt : ntFs F_PushTelemetryResponse = true := by kernel_rfl
  have hof : ofOks F_PushTelemetryResponse = true := by kernel_rfl
  have him := partB_im hnt hof v (flexB 0 v) x
  have hfit := okP_im hnt hof v (flexB 0 v) x hk
  refine ca_enter Tryd.func19 rfl Tryd.ntmps19 rfl ?_
  refine cd_sr ?_
  refine ln_pv (pv_assign rfl) rfl ?_
  refine ln_pv (pv_assign rfl) rfl ?_
  refine ln_cd ?_
  refine cd_sr ?_
  refine ln_callH (E := []) (H0 := []) (List.Perm.refl _) en_37 rfl (fun u hu hok hav hnd => newp_PushTelemetryResponse u hok hav hnd) rfl ?_
  rintro u1 _ _ ht1 ⟨_, ⟨b, rfl, rfl⟩, _⟩
  refine ln_pv (pv_assign rfl) rfl ?_
  refine ln_cd ?_
  refine cd_sr ?_
  refine ln_pv (pv_move rfl) rfl ?_
  refine ln_pv (pv_move rfl) rfl ?_
  refine ln_pv (pv_conv' Tryd.underlying3 Tryd.underlying49 rfl (r := v) (wrap_i16_in (by omega) (by omega))) rfl ?_
  refine ln_callT (i := 0) en_39 rfl rfl (fun u hu hok hav => setd_PushTelemetryResponse u b v hok hav) rfl ?_
  rintro u2 _ _ ht2 ⟨_, rfl, _⟩
  refine ln_cd ?_
  have hsv := hsv.mv (ht1.trans ht2)
  have hdv := hdv.mv (ht1.trans ht2)
  refine cd_seq ?_
  refine cd_sr ?_
  refine ln_pv (pv_move rfl) rfl ?_
  refine ln_pv (pv_move rfl) rfl ?_
  refine ln_nilrow 5 1 ?_
  refine ln_append (i := 0) rfl Tryd.underlying22 tiuint8 rfl (by decide) rfl rfl (RS.src hsv) (by simp only [maxLen]; omega) (by omega) rfl (k' := (partB F_PushTelemetryResponse v (flexB 0 v) x).length) (xs' := u8s (partB F_PushTelemetryResponse v (flexB 0 v) x)) (by omega) (by simp) (fun va hva => ?_)
  refine ln_free1 (fun q h => h.elim) (fun s3 ht3 hK => ?_)
  have hs3 : RSv s3 va (partB F_PushTelemetryResponse v (flexB 0 v) x) := Known.rs hK (u8s_one _)
  have hdv := hdv.mv ht3
  clear hK
  refine ln_callT (i := 0) en_40 rfl rfl (fun u hu hok hav => readf_PushTelemetryResponse u b v x _ (RSv.mv hs3 hu) hk h0 h1 hok hav) rfl ?_
  rintro u4 _ _ ht4 ⟨ux4, ⟨rfl, cells, rfl, hM⟩, hx4⟩
  have hM := hM.mv hx4
  have hdv := hdv.mv ht4
  refine ln_pv (pv_neqI Tryd.underlying57 rfl) rfl ?_
  refine ln_cd ?_
  refine cd_ff rfl ?_
  refine cd_skip ?_
  refine at_cd ?_
  refine cd_free (fun s9 hs9 hK => ?_)
  have hob : OB s9 b (.cells (.int .i16 v :: cells).toArray 96) := hK _ (List.mem_of_getElem? (i := 0) rfl)
  clear hK
  have hM := hM.mv hs9
  have hdv := hdv.mv hs9
  refine cd_sr ?_
  refine ln_pv (pv_move rfl) rfl ?_
  refine ln_pv (pv_move rfl) rfl ?_
  refine ln_nilrow 5 1 ?_
  refine ln_append (i := 0) rfl Tryd.underlying22 tiuint8 rfl (by decide) rfl rfl (RS.src hdv) (by simp only [maxLen]; omega) (by omega) rfl (k' := (D).length) (xs' := u8s (D)) (by omega) (by simp) (fun vb hvb => ?_)
  refine ln_callT (i := 0) en_41 rfl rfl (fun u hu hok hav => append_PushTelemetryResponse u b v (imT F_PushTelemetryResponse v (flexB 0 v) x) cells _ D (hob.mv hu).rc (hM.mv hu) hfit h0 h1 (by rw [him, List.length_append]; omega) hok hav) rfl ?_
  rintro u5 v5 _ ht5 ⟨_, ⟨rfl, h15⟩, _⟩
  refine ln_pv (pv_assign rfl) rfl ?_
  refine ln_pv (pv_assign rfl) rfl ?_
  refine ln_cd ?_
  refine cd_ret ?_
  exact at_retA2 (K := 0) rfl rfl rfl (fun w hS => ⟨v5, rfl, (congrArg (fun q => RSv hS.fin v5 (D ++ q)) him).mp (row_rs hS (j := 0) rfl (u8s_one _))⟩)
theorem law_PushTelemetryResponse (t : Vw) (n : Nat) (x : Tre) (cs : List Value) (D : List UInt8) (dv : Value) (hn8 : n < 256) (hdv : RSv t dv D) (hD : D.length ≤ 1048576) (hx : RT t x cs) (hkx : keysT x) (hsm : smT x) (hB : (writeB F_PushTelemetryResponse 0 ((versionN n 0 : Nat) : Int) x).length < 1099511627776) : CS Tryd.prog 5 [.int .u8 (n : Int), dv, .agg cs.toArray] t (.bool true) := by
  obtain ⟨sS, sL, sU, rfl, hn, hS, ⟨lc, hL, hLs⟩, hU⟩ := hx.open
  obtain ⟨adS, cS, rfl, hleS⟩ := hS.shape
  obtain ⟨adL, cL, rfl, hleL⟩ := hL.shape
  have hU0 := hU
  obtain ⟨uc, hU1, hUs⟩ := hU0
  obtain ⟨hz1, hz2, hz3, hz4⟩ := hsm.open
  obtain ⟨adD, cD, rfl, hleD⟩ := hdv.shape
  have hok := ok_F_PushTelemetryResponse
  have hvn : versionN n 0 ≤ 0 := by have := Nat.mod_lt n (show 0 < 0 + 1 by omega); unfold versionN; omega
  refine CA.cs ?_
  refine ca_enter Tryd.func5 rfl Tryd.ntmps5 rfl ?_
  cases hft : fits1 x with
  | false =>
    refine cd_sr ?_
    refine ln_box rfl rfl rfl (fun b1 => ?_)
    refine ln_pv (pv_assign rfl) rfl ?_
    refine ln_cd ?_
    refine cd_seq ?_
    refine cd_sr ?_
    refine ln_pv (pv_move rfl) rfl ?_
    refine ln_pv (pv_len_slice Tryd.underlying22 rfl) rfl ?_
    refine ln_pv (pv_ff (pv_gtr rfl rfl) (by omega)) rfl ?_
    refine ln_pv (pv_move rfl) rfl ?_
    refine ln_gt rfl rfl rfl (pv_ldO (i := 0) rfl Tryd.underlying26 rfl (tispec_Tree).size rfl rfl) rfl ?_
    refine ln_gE rfl rfl rfl ?_
    refine ln_callS en_6 rfl (fun u hu => by have h := laws_zzFits1 u x _ (RT.mv hx hu) (by omega); rwa [hft] at h) rfl ?_
    refine ln_gt rfl rfl rfl (pv_not rfl) rfl ?_
    refine ln_pv (pv_pick rfl (fun _ => rfl) (fun _ => rfl)) rfl ?_
    refine ln_cd ?_
    refine cd_tt rfl ?_
    refine cd_sr ?_
    refine ln_pv (pv_assign rfl) rfl ?_
    refine ln_cd ?_
    refine cd_ret ?_
    refine at_retA rfl rfl (fun w hS => ?_)
    rfl
  | true =>
    by_cases hbig : D.length > 1000
    · skip
      refine cd_sr ?_
      refine ln_box rfl rfl rfl (fun b1 => ?_)
      refine ln_pv (pv_assign rfl) rfl ?_
      refine ln_cd ?_
      refine cd_seq ?_
      refine cd_sr ?_
      refine ln_pv (pv_move rfl) rfl ?_
      refine ln_pv (pv_len_slice Tryd.underlying22 rfl) rfl ?_
      refine ln_pv (pv_ff (pv_gtr rfl rfl) (by omega)) rfl ?_
      refine ln_pv (pv_move rfl) rfl ?_
      refine ln_gt rfl rfl rfl (pv_ldO (i := 0) rfl Tryd.underlying26 rfl (tispec_Tree).size rfl rfl) rfl ?_
      refine ln_gE rfl rfl rfl ?_
      refine ln_callS en_6 rfl (fun u hu => by have h := laws_zzFits1 u x _ (RT.mv hx hu) (by omega); rwa [hft] at h) rfl ?_
      refine ln_gt rfl rfl rfl (pv_not rfl) rfl ?_
      refine ln_pv (pv_pick rfl (fun _ => rfl) (fun _ => rfl)) rfl ?_
      refine ln_cd ?_
      refine cd_ff rfl ?_
      refine cd_skip ?_
      refine at_cd ?_
      refine cd_sr ?_
      refine ln_callS en_17 rfl (fun u hu => max_PushTelemetryResponse u) rfl ?_
      refine ln_pv (pv_assign rfl) rfl ?_
      refine ln_cd ?_
      refine cd_seq ?_
      refine cd_sr ?_
      refine ln_pv (pv_move rfl) rfl ?_
      refine ln_pv (pv_ff (pv_lss rfl rfl) (by omega)) rfl ?_
      refine ln_cd ?_
      refine cd_ff rfl ?_
      refine cd_skip ?_
      refine at_cd ?_
      refine cd_sr ?_
      refine ln_callA en_18 rfl (fun u hu => sch_F_PushTelemetryResponse u) rfl (fun u1 v1 ht1 hR1 => ?_)
      have hx := hx.mv ht1
      have hdv := hdv.mv ht1
      obtain ⟨sv, lcm, rfl, hVm, hFm⟩ := hR1
      refine ln_pv (pv_move rfl) rfl ?_
      refine ln_pv (pv_move rfl) rfl ?_
      refine ln_callS en_9 rfl (fun u hu => laws_version u n 0 hn8 (by omega)) rfl ?_
      refine ln_alloc tispec_Message rfl rfl (fun b2 => ?_)
      refine ln_storeW (i := 0) rfl rfl rfl rfl (tispec_Message).size rfl (by simp [(RS.one hVm)]) ?_
      refine ln_pv (pv_assign rfl) rfl ?_
      refine ln_cd ?_
      refine cd_seq ?_
      refine cd_sr ?_
      refine ln_pv (pv_move rfl) rfl ?_
      refine ln_pv (pv_len_slice Tryd.underlying22 rfl) rfl ?_
      refine ln_pv (pv_tt (pv_gtr rfl rfl) (by omega)) rfl ?_
      refine ln_cd ?_
      refine cd_tt rfl ?_
      refine cd_sr ?_
      refine ln_pv (pv_assign rfl) rfl ?_
      refine ln_cd ?_
      refine cd_ret ?_
      refine at_retA rfl rfl (fun w hS => ?_)
      rfl
    · skip
      refine cd_sr ?_
      refine ln_box rfl rfl rfl (fun b1 => ?_)
      refine ln_pv (pv_assign rfl) rfl ?_
      refine ln_cd ?_
      refine cd_seq ?_
      refine cd_sr ?_
      refine ln_pv (pv_move rfl) rfl ?_
      refine ln_pv (pv_len_slice Tryd.underlying22 rfl) rfl ?_
      refine ln_pv (pv_ff (pv_gtr rfl rfl) (by omega)) rfl ?_
      refine ln_pv (pv_move rfl) rfl ?_
      refine ln_gt rfl rfl rfl (pv_ldO (i := 0) rfl Tryd.underlying26 rfl (tispec_Tree).size rfl rfl) rfl ?_
      refine ln_gE rfl rfl rfl ?_
      refine ln_callS en_6 rfl (fun u hu => by have h := laws_zzFits1 u x _ (RT.mv hx hu) (by omega); rwa [hft] at h) rfl ?_
      refine ln_gt rfl rfl rfl (pv_not rfl) rfl ?_
      refine ln_pv (pv_pick rfl (fun _ => rfl) (fun _ => rfl)) rfl ?_
      refine ln_cd ?_
      refine cd_ff rfl ?_
      refine cd_skip ?_
      refine at_cd ?_
      refine cd_sr ?_
      refine ln_callS en_17 rfl (fun u hu => max_PushTelemetryResponse u) rfl ?_
      refine ln_pv (pv_assign rfl) rfl ?_
      refine ln_cd ?_
      refine cd_seq ?_
      refine cd_sr ?_
      refine ln_pv (pv_move rfl) rfl ?_
      refine ln_pv (pv_ff (pv_lss rfl rfl) (by omega)) rfl ?_
      refine ln_cd ?_
      refine cd_ff rfl ?_
      refine cd_skip ?_
      refine at_cd ?_
      refine cd_sr ?_
      refine ln_callA en_18 rfl (fun u hu => sch_F_PushTelemetryResponse u) rfl (fun u1 v1 ht1 hR1 => ?_)
      have hx := hx.mv ht1
      have hdv := hdv.mv ht1
      obtain ⟨sv, lcm, rfl, hVm, hFm⟩ := hR1
      refine ln_pv (pv_move rfl) rfl ?_
      refine ln_pv (pv_move rfl) rfl ?_
      refine ln_callS en_9 rfl (fun u hu => laws_version u n 0 hn8 (by omega)) rfl ?_
      refine ln_alloc tispec_Message rfl rfl (fun b2 => ?_)
      refine ln_storeW (i := 0) rfl rfl rfl rfl (tispec_Message).size rfl (by simp [(RS.one hVm)]) ?_
      refine ln_pv (pv_assign rfl) rfl ?_
      refine ln_cd ?_
      refine cd_seq ?_
      refine cd_sr ?_
      refine ln_pv (pv_move rfl) rfl ?_
      refine ln_pv (pv_len_slice Tryd.underlying22 rfl) rfl ?_
      refine ln_pv (pv_ff (pv_gtr rfl rfl) (by omega)) rfl ?_
      refine ln_cd ?_
      refine cd_ff rfl ?_
      refine cd_skip ?_
      refine at_cd ?_
      refine cd_sr ?_
      refine ln_pv (pv_ldO (i := 0) rfl Tryd.underlying31 rfl (tispec_Message).size rfl rfl) rfl ?_
      refine ln_pv (pv_move rfl) rfl ?_
      refine ln_pv (pv_ldO (i := 1) rfl Tryd.underlying26 rfl (tispec_Tree).size rfl rfl) rfl ?_
      refine ln_callA en_11 rfl (fun u hu => spec_Write F_PushTelemetryResponse 0 hok.1 hok.2.2 u _ _ _ ((versionN n 0 : Nat) : Int) x (RS.mv hVm hu) (RFs.mv hFm hu) (RT.mv hx hu) hsm hB) rfl (fun u2 v2 ht2 hR2 => ?_)
      have hx := hx.mv ht2
      have hdv := hdv.mv ht2
      have hVm := hVm.mv ht2
      have hFm := hFm.mv ht2
      refine ln_pv (pv_assign rfl) rfl ?_
      refine ln_cd ?_
      refine cd_sr ?_
      refine ln_pv (pv_move rfl) rfl ?_
      refine ln_pv (pv_move rfl) rfl ?_
      refine ln_pv (pv_move rfl) rfl ?_
      refine ln_callA en_19 rfl (fun u hu => behind_PushTelemetryResponse u ((versionN n 0 : Nat) : Int) x D _ _ (RSv.mv hdv hu) (RSv.mv hR2 hu) hkx (by omega) (by omega) (by omega) (by rw [show partB F_PushTelemetryResponse ((versionN n 0 : Nat) : Int) (flexB 0 ((versionN n 0 : Nat) : Int)) x = writeB F_PushTelemetryResponse 0 ((versionN n 0 : Nat) : Int) x from rfl]; omega)) rfl (fun u3 v3 ht3 hR3 => ?_)
      have hx := hx.mv ht3
      have hdv := hdv.mv ht3
      have hVm := hVm.mv ht3
      have hFm := hFm.mv ht3
      have hR2 := hR2.mv ht3
      obtain ⟨rv, rfl, hV⟩ := hR3
      refine ln_pv (pv_move rfl) rfl ?_
      refine ln_pv (pv_extract rfl rfl) rfl ?_
      refine ln_pv (pv_extract rfl rfl) rfl ?_
      refine ln_pv (pv_assign rfl) rfl ?_
      refine ln_pv (pv_assign rfl) rfl ?_
      refine ln_cd ?_
      refine cd_sr ?_
      refine ln_pv (pv_move rfl) rfl ?_
      refine ln_pv (pv_move rfl) rfl ?_
      refine ln_gt rfl rfl rfl (pv_move rfl) rfl ?_
      refine ln_gE rfl rfl rfl ?_
      refine ln_lit (vs := []) Tryd.underlying22 tiuint8 rfl (by decide) rfl rfl rfl rfl rfl rfl (fun b3 => ?_)
      refine ln_gt rfl rfl rfl (pv_move rfl) rfl ?_
      refine ln_gE rfl rfl rfl ?_
      refine ln_objrow (i := 0) (m := 0) (sz := 1) rfl rfl (by decide) ?_
      refine ln_append (i := 0) rfl Tryd.underlying22 tiuint8 rfl (by decide) rfl rfl (RS.src hdv) (by first | omega | (simp only [maxLen]; omega)) (by first | omega | (simp only [maxLen]; omega)) rfl (k' := D.length) (xs' := u8s D) (by omega) (by simp [flat]) (fun v4 hv4 => ?_)
      refine ln_gt rfl rfl rfl (pv_move rfl) rfl ?_
      refine ln_gE rfl rfl rfl ?_
      refine ln_append (i := 0) rfl Tryd.underlying22 tiuint8 rfl (by decide) rfl rfl (RS.src hR2) (by first | omega | (simp only [maxLen]; omega)) (by first | omega | (simp only [maxLen]; omega)) rfl (k' := (D ++ writeB F_PushTelemetryResponse 0 ((versionN n 0 : Nat) : Int) x).length) (xs' := u8s (D ++ writeB F_PushTelemetryResponse 0 ((versionN n 0 : Nat) : Int) x)) (by rw [List.length_append]) (by simp [u8s]) (fun v5 hv5 => ?_)
      refine ln_free1 (fun q h => h.elim) (fun s9 hs9 hK => ?_)
      have hrow : RSv s9 _ (D ++ writeB F_PushTelemetryResponse 0 ((versionN n 0 : Nat) : Int) x) := Known.rs hK (u8s_one _)
      clear hK
      have hx := hx.mv hs9
      have hdv := hdv.mv hs9
      have hVm := hVm.mv hs9
      have hFm := hFm.mv hs9
      have hR2 := hR2.mv hs9
      have hV := hV.mv hs9
      refine ln_gE rfl rfl rfl ?_
      refine ln_callS en_20 rfl (fun u hu => by have h := spec_Same u _ _ _ _ (RSv.mv hV hu) (RSv.mv hrow hu) (by rw [show partB F_PushTelemetryResponse ((versionN n 0 : Nat) : Int) (flexB 0 ((versionN n 0 : Nat) : Int)) x = writeB F_PushTelemetryResponse 0 ((versionN n 0 : Nat) : Int) x from rfl, List.length_append]; omega); rwa [show partB F_PushTelemetryResponse ((versionN n 0 : Nat) : Int) (flexB 0 ((versionN n 0 : Nat) : Int)) x = writeB F_PushTelemetryResponse 0 ((versionN n 0 : Nat) : Int) x from rfl, decide_eq_true rfl] at h) rfl ?_
      refine ln_pv (pv_pick rfl (fun _ => rfl) (fun _ => rfl)) rfl ?_
      refine ln_pv (pv_assign rfl) rfl ?_
      refine ln_cd ?_
      refine cd_ret ?_
      refine at_retA rfl rfl (fun w hS => ?_)
      rfl
theorem fn_PushTelemetryResponse (t : Vw) (n : Nat) (x : Tre) (cs : List Value) (D : List UInt8) (dv : Value) (hn : n < 256) (hdv : RSv t dv D) (hD : D.length ≤ 1048576) (hx : RT t x cs) (hw : wt x ≤ 1048576) : CS Tryd.prog 5 [.int .u8 (n : Int), dv, .agg cs.toArray] t (.bool true) := by
  have hok := ok_F_PushTelemetryResponse
  exact law_PushTelemetryResponse t n x cs D dv hn hdv hD hx hx.keys (smT_wt x (by omega)) (writeB_len _ _ _ x hok.1 hx.keys hw (of_decide_eq_true (by kernel_rfl)))
end K
end Go.Proofs.YtkcdocdldebeoaaDoor
