import Derived.Test.YtepbicjadambbabGreatDoorYy
import Derived.Test.YtepbicjadambbabGreatDoorVa
import Derived.Test.YtepbicjadambbabGreatDoorMas
import Derived.Test.YtepbicjadambbabGreatDoorP4
import Derived.Test.YtepbicjadambbabGreatDoorS10
set_option linter.unusedVariables false
set_option linter.unusedSimpArgs false
namespace Go.Proofs.YtepbicjadambbabGreatDoor
namespace K
open Go Go.Lib
theorem df_UpdateRaftVoterResponseCurrentLeader (z0 z1 z2 z3 z4 : Value) : DfC 34 [z0, z1, z2, z3, z4] [.int .i32 (-1), .int .i32 (-1), z2, z3, z4] := by
  intro mk b o hT t hok hav
  refine ct_enter Tryz.func34 rfl Tryz.ntmps34 rfl hok hav (by rw [hT.blk]; simp) ?_
  refine cd_sr ?_
  refine ln_pv (pv_move rfl) rfl ?_
  refine ln_pv (pv_nilCheck rfl) rfl ?_
  refine ln_pv (pv_fieldAddr (off := 0) Tryz.underlying61 rfl tiint32.size rfl rfl rfl) rfl ?_
  refine ln_storeG1 (i := 0) (off := 0) (v := .int .i32 (-1)) hT rfl rfl rfl rfl rfl tiint32.size (Nat.le_of_ble_eq_true rfl) ?_
  refine ln_cd ?_
  refine cd_region ?_
  refine ln_pv (pv_move rfl) rfl ?_
  refine ln_pv (pv_nilCheck rfl) rfl ?_
  refine ln_pv (pv_fieldAddr (off := 1) Tryz.underlying61 rfl tiint32.size rfl rfl rfl) rfl ?_
  refine ln_storeG1 (i := 0) (off := 1) (v := .int .i32 (-1)) hT rfl rfl rfl rfl rfl tiint32.size (Nat.le_of_ble_eq_true rfl) ?_
  refine ln_nil ?_
  exact at_retT0 (i := 0) rfl rfl (fun w hS => ⟨rfl, rfl⟩)
theorem zz_dflt (t : Vw) : CS Tryz.prog 33 [] t (.agg ([.int .i32 (-1), .int .i32 (-1), .string .empty, .int .i32 0, .map none] : List Value).toArray) := by
  refine CA.cs ?_
  refine ca_enter Tryz.func33 rfl Tryz.ntmps33 rfl ?_
  refine cd_sr ?_
  refine ln_alloc (l := [.int .i32 0, .int .i32 0, .string .empty, .int .i32 0, .map none]) tipub_kmsg_UpdateRaftVoterResponseCurrentLeader rfl rfl (fun b0 => ?_)
  refine ln_cd ?_
  refine cd_sr ?_
  refine ln_alloc (l := [.int .i32 0, .int .i32 0, .string .empty, .int .i32 0, .map none]) tipub_kmsg_UpdateRaftVoterResponseCurrentLeader rfl rfl (fun b1 => ?_)
  refine ln_cd ?_
  refine cd_sr ?_
  refine ln_callT (i := 0) en_34 rfl rfl (fun u hu hok hav => df_UpdateRaftVoterResponseCurrentLeader _ _ _ _ _ (fun w => .obj b1 (.cells w.toArray 61)) b1 0 (Tgt.obj b1 61 5) u hok hav) rfl ?_
  rintro u1 _ _ ht1 ⟨_, ⟨rfl, rfl⟩, _⟩
  refine ln_cd ?_
  refine cd_sr ?_
  refine ln_pv (pv_ldO (i := 0) rfl Tryz.underlying61 rfl tipub_kmsg_UpdateRaftVoterResponseCurrentLeader.size rfl rfl) rfl ?_
  refine ln_storeW (i := 1) (vs := [.int .i32 (-1), .int .i32 (-1), .string .empty, .int .i32 0, .map none]) rfl rfl rfl rfl tipub_kmsg_UpdateRaftVoterResponseCurrentLeader.size rfl (by simp [Value.oneCell']) ?_
  refine ln_cd ?_
  refine cd_ret ?_
  exact at_retC (i := 1) rfl rfl rfl Tryz.underlying61 rfl tipub_kmsg_UpdateRaftVoterResponseCurrentLeader.size rfl (fun w hS => rfl)
theorem append_UpdateRaftVoterResponse (t : Vw) (b : Nat) (v : Int) (y : Tre) (cells : List Value) (vd : Value) (L0 : List UInt8) (hrc : RC t b 0 (.int .i16 v :: cells)) (hM : RMq t F_UpdateRaftVoterResponse y cells) (hfit : okP F_UpdateRaftVoterResponse v (flexB 0 v) y) (h0 : 0 ≤ v) (h1 : v ≤ 0) (hf32 : (fieldB (F_UpdateRaftVoterResponse[2]'(by decide)) v true (y.at_ 2)).length ≤ 4294967295) (hB : (L0 ++ partB F_UpdateRaftVoterResponse v (flexB 0 v) y).length ≤ 4398046511104) (hok : (OctRow vd L0).ok t.w) (hav : ∀ q ∈ (OctRow vd L0).blk, t.av q) : CT Tryz.prog 18 [.pointer (some ⟨b, 0, none⟩), vd] t (OctRow vd L0) fun _ r e' => e' = OctRow r (L0 ++ partB F_UpdateRaftVoterResponse v (flexB 0 v) y) ∧ r.oneCell' = true := by
  have hv0 := h0
  clear h0
  obtain ⟨fc1, mv1, hce1, hfl1, hTg1⟩ := hM.1
  simp only [F_UpdateRaftVoterResponse, RMl] at hfl1
  obtain ⟨x1_0, z1_0, e1_0, g1_0, x1_1, z1_1, e1_1, g1_1, x1_2, z1_2, e1_2, g1_2, hend1⟩ := hfl1
  obtain rfl := RMf_i32.1 g1_0
  obtain rfl := RMf_i16.1 g1_1
  obtain ⟨fc2, mv2, hce2, hfl2, hTg2⟩ := (RMf_part (by decide)).1 g1_2
  simp only [F_sUpdateRaftVoterResponseCurrentLeader, RMl] at hfl2
  obtain ⟨x2_0, z2_0, e2_0, g2_0, x2_1, z2_1, e2_1, g2_1, x2_2, z2_2, e2_2, g2_2, x2_3, z2_3, e2_3, g2_3, hend2⟩ := hfl2
  obtain rfl := RMf_i32.1 g2_0
  obtain rfl := RMf_i32.1 g2_1
  obtain rfl := (RMf_str (by decide)).1 g2_2
  obtain rfl := RMf_i32.1 g2_3
  subst hend2
  subst e2_3
  subst e2_2
  subst e2_1
  subst e2_0
  subst hce2
  subst hend1
  subst e1_2
  subst e1_1
  subst e1_0
  rw [hce1] at hrc
  simp only [List.cons_append, List.nil_append, List.append_assoc] at hrc
  have hNT : (y.at_ 2).u = [] → mv2 = .map none := fun h => by
    have h2 := hM.2 h
    rw [hce1] at h2
    simpa using h2
  obtain ⟨mo, rfl, hmo⟩ := RTg.map hTg2 hNT
  obtain ⟨hfl, hfu⟩ := hfit
  obtain ⟨k3, hfl⟩ := okFl_cons hfl
  obtain ⟨k4, hfl⟩ := okFl_cons hfl
  obtain ⟨k5, hfl⟩ := okFl_cons hfl
  have hq0 : decide (v ≥ 0) = flexB 0 v := by simp [flexB]
  obtain ⟨Full, hFull⟩ : ∃ F : List UInt8, L0 ++ partB F_UpdateRaftVoterResponse v (flexB 0 v) y = F := ⟨_, rfl⟩
  rw [hFull] at hB ⊢
  have hE : L0 ++ (partB F_UpdateRaftVoterResponse v (flexB 0 v) y ++ []) = Full := by rw [List.append_nil]; exact hFull
  clear hFull
  generalize flexB 0 v = q at *
  have hE := pt_open1 (by decide) hfu ((tgf_skip (by decide)).trans ((tgf_skip (by decide)).trans (tgf_here (by decide) tgf_nil))) hE
  refine ct_enter Tryz.func18 rfl Tryz.ntmps18 rfl hok hav (by simp only [Ent.blk]; cases vd.ownBlock <;> simp) ?_
  generalize L0 = Lc at *
  have h0 : Tr t t := Tr.refl t
  refine cd_sub_ (L' := [(1, vd), (0, .pointer (some ⟨b, 0, none⟩))]) (.put rfl (.put rfl .nil)) ?_
  refine cd_sq ?_
  refine ap_const rfl ?_
  refine at_sub (.skip rfl .rfl') ?_
  refine at_cd ?_
  refine cd_sq ?_
  refine ap_load0 rfl Tryz.underlying63 rfl tiint16.size rfl Tryz.underlying40 rfl (hrc.mv h0 (by simp)) rfl rfl ?_
  refine at_sub (.swap rfl) ?_
  refine at_cd ?_
  refine cd_sq ?_
  refine ap_blank rfl rfl ?_
  refine at_cd ?_
  refine cd_sq ?_
  refine ap_geqF rfl hq0 rfl ?_
  refine at_sub (.swap rfl) ?_
  refine at_cd ?_
  refine cd_sq ?_
  refine ap_blank rfl rfl ?_
  refine at_cd ?_
  refine cd_sq ?_
  have hE := pl_all (by decide) (hasB_all hv0) hE
  have hkk := okV_get k3 (by decide) (hasB_all hv0)
  refine cd_sq ?_
  refine ap_load (off := 1) rfl Tryz.underlying63 rfl tiint32.size rfl Tryz.underlying21 rfl (hrc.mv h0 (by simp)) rfl rfl ?_
  refine at_cd ?_
  refine ap_call en_30 rfl rfl (fun u hu => by rw [fieldB_s0 (by decide) (by decide) (by decide)]; exact as_i32 u _ _ _) hE hB (fun u vd Lc ht6 hE => ?_)
  have h0 := h0.trans ht6
  refine at_sub (.cons (.skip rfl (.cons (.cons (.cons .rfl'))))) ?_
  refine at_cd ?_
  refine cd_sq ?_
  have hE := pl_all (by decide) (hasB_all hv0) hE
  have hkk := okV_get k4 (by decide) (hasB_all hv0)
  refine cd_sq ?_
  refine ap_load (off := 2) rfl Tryz.underlying63 rfl tiint16.size rfl Tryz.underlying40 rfl (hrc.mv h0 (by simp)) rfl rfl ?_
  refine at_cd ?_
  refine ap_call en_31 rfl rfl (fun u hu => by rw [fieldB_s0 (by decide) (by decide) (by decide)]; exact as_i16 u _ _ _) hE hB (fun u vd Lc ht7 hE => ?_)
  have h0 := h0.trans ht7
  refine at_sub (.cons (.skip rfl (.cons (.cons (.cons .rfl'))))) ?_
  refine at_cd ?_
  have hE := pl_tag (by decide) hE
  have hE := pl_nil hE
  refine cd_sq ?_
  refine ap_test rfl rfl (fun hq => ?_) (fun hq => ?_)
  · skip
    subst hq
    obtain ⟨o1, o2, o3⟩ := (hfu rfl).2
    rw [if_pos rfl, List.append_assoc, List.append_assoc] at hE
    have hkk := okV_tag k5 (by decide) rfl
    generalize hus0 : usualB _ _ = us at hE
    refine cd_sq ?_
    refine ap_const rfl ?_
    refine at_cd ?_
    refine cd_sq ?_
    obtain ⟨hflP, hfuP⟩ := okV_p (by decide) hkk
    have hu2 : (unkn 0 (y.at_ 2).u).map cut = (y.at_ 2).u := (hfuP rfl).1
    obtain ⟨k8, hflP⟩ := okFl_cons hflP
    obtain ⟨k9, hflP⟩ := okFl_cons hflP
    obtain ⟨k10, hflP⟩ := okFl_cons hflP
    obtain ⟨k11, hflP⟩ := okFl_cons hflP
    refine cd_sq ?_
    refine cd_draw' [] [0, 1, 2, 3] [0, 1, 2, 3, 4, 5, 6] mixed (by kernel_rfl) ?_
    refine lo_pv rfl rfl (sk_js (Tr.refl _) [] rfl) (pv_move rfl) rfl ?_
    refine lo_pv rfl rfl (sk_js (Tr.refl _) [] rfl) (pv_nilCheck rfl) rfl ?_
    refine lo_pv rfl rfl (sk_js (Tr.refl _) [] rfl) (pv_fieldAddr (off := 3) Tryz.underlying63 rfl tipub_kmsg_UpdateRaftVoterResponseCurrentLeader.size rfl rfl rfl) rfl ?_
    refine lo_pv rfl rfl (sk_js (Tr.refl _) [] rfl) (pv_ldSub (off := 3) (vs := [_, _, _, _, _]) (hrc.mv h0 (by simp)) Tryz.underlying61 rfl tipub_kmsg_UpdateRaftVoterResponseCurrentLeader.size rfl rfl rfl) rfl ?_
    refine lo_eff rfl rfl ?_
    refine ln_callS (vals := []) en_33 rfl (fun u hu => zz_dflt u) rfl ?_
    refine lo_back (sk_js (Tr.refl _) [] rfl) ?_
    refine lo_eff rfl rfl ?_
    obtain ⟨bz, hbz⟩ : ∃ bz, bz = (decide (IntKind.i32.wrap ((y.at_ 2).at_ 0).n = -1) && decide (IntKind.i32.wrap ((y.at_ 2).at_ 1).n = -1) && ((⟨((y.at_ 2).at_ 2).s.toArray⟩ : ByteArray).toList == ByteArray.empty.toList) && decide (IntKind.i32.wrap ((y.at_ 2).at_ 3).n = 0) && mo.isNone) := ⟨_, rfl⟩
    have hzz : ∀ u, CS Tryz.prog 32 [.agg ([.int .i32 (IntKind.i32.wrap ((y.at_ 2).at_ 0).n), .int .i32 (IntKind.i32.wrap ((y.at_ 2).at_ 1).n), .string (⟨((y.at_ 2).at_ 2).s.toArray⟩ : ByteArray), .int .i32 (IntKind.i32.wrap ((y.at_ 2).at_ 3).n), .map mo] : List Value).toArray, .agg ([.int .i32 (-1), .int .i32 (-1), .string .empty, .int .i32 0, .map none] : List Value).toArray] u (.bool bz) := fun u => by rw [hbz]; exact part_zzSame u _ _ _ _ mo
    refine ln_callS (v := .bool bz) (vals := [.agg ([.int .i32 (IntKind.i32.wrap ((y.at_ 2).at_ 0).n), .int .i32 (IntKind.i32.wrap ((y.at_ 2).at_ 1).n), .string (⟨((y.at_ 2).at_ 2).s.toArray⟩ : ByteArray), .int .i32 (IntKind.i32.wrap ((y.at_ 2).at_ 3).n), .map mo] : List Value).toArray, .agg ([.int .i32 (-1), .int .i32 (-1), .string .empty, .int .i32 0, .map none] : List Value).toArray]) (hent := ?hent) (hargs := ?hargs) (hc := ?hc) ?hb ?_
    case hc => exact fun u _ => hzz u
    case hent => exact en_32
    case hargs => rfl
    case hb => rfl
    refine lo_back (sk_js (Tr.refl _) [] rfl) ?_
    refine lo_eff rfl rfl ?_
    refine ln_pv (pv_not rfl) rfl ?_
    refine lo_back (sk_js (Tr.refl _) [] rfl) ?_
    refine lo_nil (at_cd ?_)
    refine cd_cond lk_eq (fun hp => ?_) (fun hp => ?_)
    · skip
      have hus : us = false := hus0.symm.trans ((us_zz hu2 hmo).trans (by rw [← hbz]; simpa using hp))
      rw [hus] at hE
      simp only [Bool.false_eq_true, if_false] at hE
      refine cd_sub_ (.skip rfl (.skip rfl (.skip rfl (.skip rfl (.skip rfl (.skip rfl (.skip rfl .rfl'))))))) ?_
      refine ap_tapp Tryz.underlying75 tiuint32 rfl rfl (fun g cp => ?_)
      refine at_sub (.swap rfl) ?_
      refine at_cd ?_
      refine cd_sq ?_
      refine ap_tcount (m := 1) rfl (by decide) Tryz.underlying75 rfl Tryz.underlying63 rfl tipub_kmsg_Tags.size rfl (hrc.mv h0 (by simp)) rfl (hTg1.mv h0) o3 rfl hE hB (fun u vd Lc ht12 hE => ?_)
      have h0 := h0.trans ht12
      refine at_cd ?_
      refine cd_sq ?_
      refine ap_rangeV (m := 1) (Tl := fun i => match i with | 0 => tagB (0, _) | _ => []) Tryz.underlying75 rfl (by omega) rfl hE (fun i u vd Lc N' X' hi hu14 hE kb => ?_) (fun u vd Lc ht13 hE => ?_)
      · skip
        have h0 := h0.trans hu14
        obtain rfl : i = 0 := by omega
        refine ap_case rfl rfl Tryz.underlying75 tiuint32.size Tryz.underlying53 rfl rfl rfl ?_
        generalize hfb : fieldB _ v true _ = fb at hE kb
        have hE := tg_open hE
        refine ap_scopeP (off := 3) (fb := fb) (m := 5) (lz := [.int .i32 0, .int .i32 0, .string .empty, .int .i32 0, .map none]) (vs := [_, _, _, _, _]) rfl Tryz.underlying63 rfl tipub_kmsg_UpdateRaftVoterResponseCurrentLeader.size rfl Tryz.underlying61 rfl tipub_kmsg_UpdateRaftVoterResponseCurrentLeader rfl rfl rfl rfl (by simp [Value.oneCell']) (by decide) (hrc.mv h0 (by simp)) rfl rfl rfl rfl hE hB (fun bx u vd hu15 hrb => ?_) (fun bx u vd hu16 hrb => ?_)
        · skip
          have h0 := h0.trans hu15
          have hbb : (Lc ++ uvar 0).length + fb.length ≤ 4398046511104 := by rw [← hE] at hB; simp only [List.length_append] at hB ⊢; omega
          have hbu : (Lc ++ uvar 0).length + (uvar fb.length).length ≤ 4398046511104 := by rw [← hE] at hB; simp only [List.length_append] at hB ⊢; omega
          have hb0 : 0 < (Lc ++ uvar 0).length := by rw [uvar_zero]; simp
          have hb32 : fb.length ≤ 4294967295 := by rw [← hfb]; exact hf32
          clear hE hB
          generalize Lc ++ uvar 0 = L1 at *
          obtain ⟨F1, hF1⟩ : ∃ F : List UInt8, L1 ++ fb = F := ⟨_, rfl⟩
          have hE : L1 ++ (fb ++ []) = F1 := by rw [List.append_nil]; exact hF1
          have hB : F1.length ≤ 4398046511104 := by rw [← hF1, List.length_append]; exact hbb
          rw [← hfb] at hE
          have hE := fp_open (by decide) (by decide) hfuP hE
          have hE := pl_all (by decide) (hasB_all hv0) hE
          have hkk := okV_get k8 (by decide) (hasB_all hv0)
          refine cdG_sq ?_
          refine cd_sq ?_
          refine ap_loadB (off := 0) rfl Tryz.underlying61 rfl tiint32.size rfl Tryz.underlying21 rfl hrb rfl rfl ?_
          refine at_cd ?_
          refine ap_call en_30 rfl rfl (fun u hu => by rw [fieldB_s0 (by decide) (by decide) (by decide)]; exact as_i32 u _ _ _) hE hB (fun u vd Lc ht17 hE => ?_)
          have h0 := h0.trans ht17
          have hrb := hrb.mv ht17 (by simp)
          refine at_sub (.cons (.skip rfl (.cons (.cons (.cons (.cons (.cons (.cons (.cons (.cons (.cons (.cons .rfl')))))))))))) ?_
          refine at_cdG ?_
          have hE := pl_all (by decide) (hasB_all hv0) hE
          have hkk := okV_get k9 (by decide) (hasB_all hv0)
          refine cdG_sq ?_
          refine cd_sq ?_
          refine ap_loadB (off := 1) rfl Tryz.underlying61 rfl tiint32.size rfl Tryz.underlying21 rfl hrb rfl rfl ?_
          refine at_cd ?_
          refine ap_call en_30 rfl rfl (fun u hu => by rw [fieldB_s0 (by decide) (by decide) (by decide)]; exact as_i32 u _ _ _) hE hB (fun u vd Lc ht18 hE => ?_)
          have h0 := h0.trans ht18
          have hrb := hrb.mv ht18 (by simp)
          refine at_sub (.cons (.skip rfl (.cons (.cons (.cons (.cons (.cons (.cons (.cons (.cons (.cons (.cons .rfl')))))))))))) ?_
          refine at_cdG ?_
          have hE := pl_all (by decide) (hasB_all hv0) hE
          have hkk := okV_get k10 (by decide) (hasB_all hv0)
          refine cdG_sq ?_
          refine cd_sq ?_
          refine ap_loadB (off := 2) rfl Tryz.underlying61 rfl tistring.size rfl Tryz.underlying9 rfl hrb rfl rfl ?_
          refine at_cd ?_
          refine ap_flex rfl en_37 en_38 rfl rfl rfl rfl (fun _ u hu => by rw [fieldB_s0 (by decide) (by decide) (by decide)]; exact as_cstr u _ (okV_s (by decide) (by decide) hkk (.inl rfl)).1) (fun hq => by cases hq) hE hB (fun u vd Lc ht19 hE => ?_)
          have h0 := h0.trans ht19
          have hrb := hrb.mv ht19 (by simp)
          refine at_sub (.cons (.skip rfl (.cons (.cons (.cons (.cons (.cons (.cons (.cons (.cons (.cons (.cons .rfl')))))))))))) ?_
          refine at_cdG ?_
          have hE := pl_all (by decide) (hasB_all hv0) hE
          have hkk := okV_get k11 (by decide) (hasB_all hv0)
          refine cdG_sq ?_
          refine cd_sq ?_
          refine ap_loadB (off := 3) rfl Tryz.underlying61 rfl tiint32.size rfl Tryz.underlying21 rfl hrb rfl rfl ?_
          refine at_cd ?_
          refine ap_call en_30 rfl rfl (fun u hu => by rw [fieldB_s0 (by decide) (by decide) (by decide)]; exact as_i32 u _ _ _) hE hB (fun u vd Lc ht20 hE => ?_)
          have h0 := h0.trans ht20
          have hrb := hrb.mv ht20 (by simp)
          refine at_sub (.cons (.skip rfl (.cons (.cons (.cons (.cons (.cons (.cons (.cons (.cons (.cons (.cons .rfl')))))))))))) ?_
          refine at_cdG ?_
          have hE := pl_nil hE
          refine cdG_sq ?_
          refine ap_tagsB (off := 4) (q := true) rfl rfl Tryz.underlying61 rfl tipub_kmsg_Tags.size rfl hrb rfl (hTg2.mv h0) (fun h => (hfuP h).2) rfl rfl rfl hE hB (fun u vd Lc ht21 hE => ?_)
          have h0 := h0.trans ht21
          have hrb := hrb.mv ht21 (by simp)
          have hL : Lc = L1 ++ fb := by rw [hF1, ← hE, List.append_nil]
          subst hL
          refine at_cdG ?_
          refine cdG_sq ?_
          refine ap_sized (b := false) rfl rfl ?_
          refine at_cdG ?_
          refine cdG_tt rfl (cdG_sub (.skip rfl .rfl') ?_)
          refine cdG_sq ?_
          refine ap_resize (k := L1.length) (bs := uvar fb.length) rfl en_35 (by rw [List.length_append]; omega) (by rw [List.length_append]; omega) (by rw [List.length_append]; omega) rfl (fun u hu => by rw [List.length_append, Nat.add_sub_cancel_left]; exact kbin_AppendUvarint u fb.length (by omega)) (by omega) (by kernel_rfl) (fun u v' ht22 => ?_)
          have h0 := h0.trans ht22
          have hrb := hrb.mv ht22 (by simp)
          rw [List.take_left]
          refine at_cdG ?_
          refine cdG_sq ?_
          refine cd_region ?_
          refine ln_pv (pv_assign ev_c) rfl ?_
          refine ln_nil ?_
          refine at_cdG ?_
          refine cdG_goto ?_
          exact at_jump (S := Value × Nat) (Lj := fun z => _ :: _ :: _ :: _ :: _) (Hj := fun z => OctRow z.1 _ :: _) (I := fun z u => RC u z.2 0 _) (v', bx) ((((((hu15.trans ht17).trans ht18).trans ht19).trans ht20).trans ht21).trans ht22) (fun u hu => hrb.mv hu (by simp)) (.put rfl (.put rfl (.put rfl (.put rfl (.skip rfl (.skip rfl (.skip rfl (.skip rfl (.skip rfl .rfl'))))))))) (List.Sublist.refl _)
        · skip
          have h0 := h0.trans hu16
          have hE := tg_open2 hE
          have hE : _ ++ (_ ++ _) = Full := hE
          conv at hE => lhs; rhs; lhs; rw [← hfb]
          have hE := fp_open (by decide) (by decide) hfuP hE
          have hE := pl_all (by decide) (hasB_all hv0) hE
          have hkk := okV_get k8 (by decide) (hasB_all hv0)
          refine cd_sq ?_
          refine cd_sq ?_
          refine ap_loadB (off := 0) rfl Tryz.underlying61 rfl tiint32.size rfl Tryz.underlying21 rfl hrb rfl rfl ?_
          refine at_cd ?_
          refine ap_call en_30 rfl rfl (fun u hu => by rw [fieldB_s0 (by decide) (by decide) (by decide)]; exact as_i32 u _ _ _) hE hB (fun u vd Lc ht23 hE => ?_)
          have h0 := h0.trans ht23
          have hrb := hrb.mv ht23 (by simp)
          refine at_sub (.cons (.skip rfl (.cons (.cons (.cons (.cons (.cons (.cons (.cons (.cons (.cons (.cons .rfl')))))))))))) ?_
          refine at_cd ?_
          have hE := pl_all (by decide) (hasB_all hv0) hE
          have hkk := okV_get k9 (by decide) (hasB_all hv0)
          refine cd_sq ?_
          refine cd_sq ?_
          refine ap_loadB (off := 1) rfl Tryz.underlying61 rfl tiint32.size rfl Tryz.underlying21 rfl hrb rfl rfl ?_
          refine at_cd ?_
          refine ap_call en_30 rfl rfl (fun u hu => by rw [fieldB_s0 (by decide) (by decide) (by decide)]; exact as_i32 u _ _ _) hE hB (fun u vd Lc ht24 hE => ?_)
          have h0 := h0.trans ht24
          have hrb := hrb.mv ht24 (by simp)
          refine at_sub (.cons (.skip rfl (.cons (.cons (.cons (.cons (.cons (.cons (.cons (.cons (.cons (.cons .rfl')))))))))))) ?_
          refine at_cd ?_
          have hE := pl_all (by decide) (hasB_all hv0) hE
          have hkk := okV_get k10 (by decide) (hasB_all hv0)
          refine cd_sq ?_
          refine cd_sq ?_
          refine ap_loadB (off := 2) rfl Tryz.underlying61 rfl tistring.size rfl Tryz.underlying9 rfl hrb rfl rfl ?_
          refine at_cd ?_
          refine ap_flex rfl en_37 en_38 rfl rfl rfl rfl (fun _ u hu => by rw [fieldB_s0 (by decide) (by decide) (by decide)]; exact as_cstr u _ (okV_s (by decide) (by decide) hkk (.inl rfl)).1) (fun hq => by cases hq) hE hB (fun u vd Lc ht25 hE => ?_)
          have h0 := h0.trans ht25
          have hrb := hrb.mv ht25 (by simp)
          refine at_sub (.cons (.skip rfl (.cons (.cons (.cons (.cons (.cons (.cons (.cons (.cons (.cons (.cons .rfl')))))))))))) ?_
          refine at_cd ?_
          have hE := pl_all (by decide) (hasB_all hv0) hE
          have hkk := okV_get k11 (by decide) (hasB_all hv0)
          refine cd_sq ?_
          refine cd_sq ?_
          refine ap_loadB (off := 3) rfl Tryz.underlying61 rfl tiint32.size rfl Tryz.underlying21 rfl hrb rfl rfl ?_
          refine at_cd ?_
          refine ap_call en_30 rfl rfl (fun u hu => by rw [fieldB_s0 (by decide) (by decide) (by decide)]; exact as_i32 u _ _ _) hE hB (fun u vd Lc ht26 hE => ?_)
          have h0 := h0.trans ht26
          have hrb := hrb.mv ht26 (by simp)
          refine at_sub (.cons (.skip rfl (.cons (.cons (.cons (.cons (.cons (.cons (.cons (.cons (.cons (.cons .rfl')))))))))))) ?_
          refine at_cd ?_
          have hE := pl_nil hE
          refine cd_sq ?_
          refine ap_tagsB (off := 4) (q := true) rfl rfl Tryz.underlying61 rfl tipub_kmsg_Tags.size rfl hrb rfl (hTg2.mv h0) (fun h => (hfuP h).2) rfl rfl rfl hE hB (fun u vd Lc ht27 hE => ?_)
          have h0 := h0.trans ht27
          have hrb := hrb.mv ht27 (by simp)
          refine at_cd ?_
          refine cd_sq ?_
          refine ap_sized (b := true) rfl rfl ?_
          refine at_cd ?_
          refine cd_ff rfl (cd_sub_ (.skip rfl .rfl') (cd_skip ?_))
          exact at_sub (.cons (.skip rfl (.skip rfl (.skip rfl (.cons (.cons (.cons (.cons (.cons (.cons (.cons .rfl'))))))))))) (kb _ _ _ (((((hu16.trans ht23).trans ht24).trans ht25).trans ht26).trans ht27) hE)
      have h0 := h0.trans ht13
      refine at_cd ?_
      refine ap_teach rfl Tryz.underlying63 rfl tipub_kmsg_Tags.size rfl (hrc.mv h0 (by simp)) rfl (hTg1.mv h0) o1 o2 rfl hE hB (fun u vd Lc ht28 hE => ?_)
      have h0 := h0.trans ht28
      refine at_Hs ?_
      refine at_sub (.cons (.skip rfl .rfl')) ?_
      refine at_cd ?_
      have hE : Lc = Full := by simpa using hE
      subst hE
      refine cd_rowone (i := 0) rfl (fun hone => ?_)
      refine cd_sr ?_
      refine ln_pv (pv_move rfl) rfl ?_
      refine ln_pv (pv_assign rfl) rfl ?_
      refine ln_cd ?_
      refine cd_ret ?_
      exact at_retT (i := 0) rfl rfl rfl (fun w hS => ⟨rfl, hone⟩)
    · skip
      have hus : us = true := hus0.symm.trans ((us_zz hu2 hmo).trans (by rw [← hbz]; simpa using hp))
      rw [hus] at hE
      simp only [if_true, List.nil_append] at hE
      refine cd_sub_ (.skip rfl (.skip rfl (.skip rfl (.skip rfl (.skip rfl (.skip rfl (.skip rfl .rfl'))))))) ?_
      refine cd_skip (at_sub (.swap rfl) ?_)
      refine at_cd ?_
      refine cd_sq ?_
      refine ap_tcount (m := 0) rfl (by decide) Tryz.underlying75 rfl Tryz.underlying63 rfl tipub_kmsg_Tags.size rfl (hrc.mv h0 (by simp)) rfl (hTg1.mv h0) o3 rfl hE hB (fun u vd Lc ht29 hE => ?_)
      have h0 := h0.trans ht29
      refine at_cd ?_
      refine cd_sq ?_
      refine ap_range (m := 0) (Tl := fun _ => []) Tryz.underlying75 rfl (by omega) rfl hE (fun i _ _ _ _ _ hi => absurd hi (by omega)) (fun u vd Lc ht30 hE => ?_)
      have h0 := h0.trans ht30
      refine at_cd ?_
      refine ap_teach rfl Tryz.underlying63 rfl tipub_kmsg_Tags.size rfl (hrc.mv h0 (by simp)) rfl (hTg1.mv h0) o1 o2 rfl hE hB (fun u vd Lc ht31 hE => ?_)
      have h0 := h0.trans ht31
      refine at_sub (.cons (.skip rfl .rfl')) ?_
      refine at_cd ?_
      have hE : Lc = Full := by simpa using hE
      subst hE
      refine cd_rowone (i := 0) rfl (fun hone => ?_)
      refine cd_sr ?_
      refine ln_pv (pv_move rfl) rfl ?_
      refine ln_pv (pv_assign rfl) rfl ?_
      refine ln_cd ?_
      refine cd_ret ?_
      exact at_retT (i := 0) rfl rfl rfl (fun w hS => ⟨rfl, hone⟩)
  · skip
    subst hq
    simp only [Bool.false_eq_true, if_false, List.nil_append] at hE
    refine cd_skip (at_base fun u ht32 => ?_)
    have h0 := h0.trans ht32
    refine at_cd ?_
    have hE : Lc = Full := by simpa using hE
    subst hE
    refine cd_rowone (i := 0) rfl (fun hone => ?_)
    refine cd_sr ?_
    refine ln_pv (pv_move rfl) rfl ?_
    refine ln_pv (pv_assign rfl) rfl ?_
    refine ln_cd ?_
    refine cd_ret ?_
    exact at_retT (i := 0) rfl rfl rfl (fun w hS => ⟨rfl, hone⟩)
end K
end Go.Proofs.YtepbicjadambbabGreatDoor
namespace Go.Proofs.YtepbicjadambbabGreatDoor
namespace K
open Go Go.Lib
theorem df_UpdateRaftVoterResponse (z0 z1 z2 z3 z4 z5 z6 z7 z8 : Value) : DfC 20 [z0, z1, z2, z3, z4, z5, z6, z7, z8] [z0, z1, z2, .int .i32 (-1), .int .i32 (-1), z5, z6, z7, z8] := by
  intro mk b o hT t hok hav
  refine ct_enter Tryz.func20 rfl Tryz.ntmps20 rfl hok hav (by rw [hT.blk]; simp) ?_
  refine cd_sr ?_
  refine ln_pv (pv_move rfl) rfl ?_
  refine ln_pv (pv_nilCheck rfl) rfl ?_
  refine ln_pv (pv_fieldAddr (off := 3) Tryz.underlying63 rfl tipub_kmsg_UpdateRaftVoterResponseCurrentLeader.size rfl rfl rfl) rfl ?_
  refine ln_pv (pv_assign rfl) rfl ?_
  refine ln_cd ?_
  refine cd_sr ?_
  refine ln_pv (pv_move rfl) rfl ?_
  refine ln_cd ?_
  refine cd_sr ?_
  refine ln_pv (pv_move rfl) rfl ?_
  refine ln_pv (pv_nilCheck rfl) rfl ?_
  refine ln_pv (pv_fieldAddr (off := 0) Tryz.underlying61 rfl tiint32.size rfl rfl rfl) rfl ?_
  refine ln_storeG1 (i := 0) (off := 3) (v := .int .i32 (-1)) hT rfl rfl rfl rfl rfl tiint32.size (Nat.le_of_ble_eq_true rfl) ?_
  refine ln_cd ?_
  refine cd_region ?_
  refine ln_pv (pv_move rfl) rfl ?_
  refine ln_pv (pv_nilCheck rfl) rfl ?_
  refine ln_pv (pv_fieldAddr (off := 1) Tryz.underlying61 rfl tiint32.size rfl rfl rfl) rfl ?_
  refine ln_storeG1 (i := 0) (off := 4) (v := .int .i32 (-1)) hT rfl rfl rfl rfl rfl tiint32.size (Nat.le_of_ble_eq_true rfl) ?_
  refine ln_nil ?_
  exact at_retT0 (i := 0) rfl rfl (fun w hS => ⟨rfl, rfl⟩)
theorem read_UpdateRaftVoterResponse (t : Vw) (b : Nat) (v : Int) (x : Tre) (sv : Value) (hsv : RSv t sv (partB F_UpdateRaftVoterResponse v (flexB 0 v) x)) (hk : keysT x) (h0 : 0 ≤ v) (h1 : v ≤ 0) (hok : (MsgBox b 63 (.int .i16 v :: ([.int .i32 0, .int .i16 0, .int .i32 (-1), .int .i32 (-1), .string .empty, .int .i32 0, .map none, .map none] : List Value))).ok t.w) (hav : ∀ q ∈ (MsgBox b 63 (.int .i16 v :: ([.int .i32 0, .int .i16 0, .int .i32 (-1), .int .i32 (-1), .string .empty, .int .i32 0, .map none, .map none] : List Value))).blk, t.av q) : CT Tryz.prog 29 [.pointer (some ⟨b, 0, none⟩), sv, .bool false] t (MsgBox b 63 (.int .i16 v :: ([.int .i32 0, .int .i16 0, .int .i32 (-1), .int .i32 (-1), .string .empty, .int .i32 0, .map none, .map none] : List Value))) fun u r e' => r = .nilIface ∧ ∃ cells, e' = MsgBox b 63 (.int .i16 v :: cells) ∧ RMq u F_UpdateRaftVoterResponse (imT F_UpdateRaftVoterResponse v (flexB 0 v) x) cells := by
  have hv0 := h0
  have hqt : flexB 0 v = true := by simp [flexB]; omega
  rw [hqt] at hsv ⊢
  have hq0 : decide (v ≥ 0) = true := decide_eq_true (by omega)
  obtain ⟨us, hus⟩ : ∃ us, us = usualB uF (x.at_ 2) := ⟨_, rfl⟩
  obtain ⟨U, hU⟩ : ∃ U, U = (unkn 1 x.u).map cut := ⟨_, rfl⟩
  obtain ⟨fb, hfb⟩ : ∃ fb, fb = fieldB uF v true (x.at_ 2) := ⟨_, rfl⟩
  obtain ⟨TL, hTL⟩ : ∃ TL, TL = tgl us fb U := ⟨_, rfl⟩
  have hsv : RSv t sv (plainB uPl v true x 0 ++ (uvar TL.length ++ (TL.flatMap tagB ++ []))) := by rw [hTL, hus, hfb, hU, ← uPl_enc]; exact hsv
  have hUb : ∀ y ∈ U, 1 ≤ y.1 ∧ y.1 < 4294967296 ∧ y.2.length ≤ 32767 := fun y hy => by
    rw [hU] at hy
    obtain ⟨z, hz, rfl⟩ := List.mem_map.1 hy
    have h1 := (unkn_mem hz).2
    exact ⟨by show 1 ≤ z.1; omega, hk.open.1 z (unkn_mem hz).1, by simp only [cut, List.length_take]; omega⟩
  have hUn : (U.map (·.1)).Nodup := by rw [hU]; exact keys_nodup (srt_cut (unkn_sorted 1 x.u))
  have hUl : U.length ≤ 32767 := by rw [hU, List.length_map]; exact unkn_le 1 x.u
  have hfl : fb.length ≤ 4294967295 := by rw [hfb]; exact uF_len (hk.at_ 2)
  have hTl : TL.length < 4294967296 := by rw [hTL, tgl_len]; cases us <;> simp <;> omega
  have hTb : ∀ y ∈ TL, y.1 < 4294967296 ∧ y.2.length < 4294967296 := fun y hy => by
    rw [hTL, tgl] at hy
    rcases List.mem_append.1 hy with h | h
    · cases us
      · simp at h; subst h; exact ⟨by show (0 : Nat) < 4294967296; decide, by show fb.length < _; omega⟩
      · simp at h
    · have := hUb y h
      exact ⟨this.2.1, by omega⟩
  obtain ⟨adS, cS, rfl, hcS⟩ := RSv.shape hsv
  refine ct_enter Tryz.func29 rfl Tryz.ntmps29 rfl hok hav (by simp [Ent.blk]) ?_
  refine cd_sq ?_
  refine rg_const rfl ?_
  refine at_cd ?_
  refine cd_sr ?_
  refine ln_pv (pv_move rfl) rfl ?_
  refine ln_callT (i := 0) (vals := [.pointer (some ⟨b, 0, none⟩)]) en_20 rfl rfl (fun u hu hok hav => df_UpdateRaftVoterResponse _ _ _ _ _ _ _ _ _ (fun w => .obj b (.cells w.toArray 63)) b 0 (Tgt.obj b 63 9) u hok hav) rfl ?_
  rintro u1 _ _ ht1 ⟨ux1, ⟨rfl, rfl⟩, hx1⟩
  refine ln_cd ?_
  refine cd_sr ?_
  refine ln_pv (pv_move rfl) rfl ?_
  refine ln_pv (pv_struct [(0, 1), (1, 1)] (l := [_, _]) rfl Tryz.underlying89 tipub_kmsg_inner_kbin_Reader (by kernel_rfl) rfl rfl) rfl ?_
  refine ln_alloc (l := [.slice none 0 0, .bool false]) tipub_kmsg_inner_kbin_Reader rfl rfl (fun br => ?_)
  refine ln_storeW (i := 0) (vs := [_, .bool false]) rfl rfl rfl rfl tipub_kmsg_inner_kbin_Reader.size rfl (by simp) ?_
  refine ln_cd ?_
  refine cd_sr ?_
  refine ln_pv (pv_move rfl) rfl ?_
  refine ln_pv (pv_nilCheck rfl) rfl ?_
  refine ln_pv (pv_fieldAddr (off := 0) (r := 0) Tryz.underlying63 rfl tiint16.size rfl rfl rfl) rfl ?_
  refine ln_pv (pv_ldo (i := 1) (v := .int .i16 v) rfl Tryz.underlying40 rfl rfl rfl) rfl ?_
  refine ln_pv (pv_assign rfl) rfl ?_
  refine ln_cd ?_
  refine cd_sq ?_
  refine rg_blank rfl rfl ?_
  refine at_cd ?_
  refine cd_sr ?_
  refine ln_pv (pv_move rfl) rfl ?_
  refine ln_pv (pv_geq rfl rfl) rfl ?_
  refine ln_pv (pv_assign rfl) rfl ?_
  rw [hq0]
  refine ln_cd ?_
  refine cd_sq ?_
  refine rg_blank rfl rfl ?_
  refine at_cd ?_
  refine cd_sr ?_
  refine ln_pv (pv_move rfl) rfl ?_
  refine ln_pv (pv_assign rfl) rfl ?_
  refine ln_cd ?_
  refine cd_sub_ (L' := [(10, .pointer (some ⟨b, 0, none⟩)), (9, .bool true), (8, .int .i16 v), (7, .pointer (some ⟨br, 0, none⟩)), (2, .bool false)]) (.put rfl (.put rfl (.put rfl (.put rfl (.put rfl .nil))))) ?_
  obtain ⟨mk, hmk⟩ : ∃ mk : List Value → Ent, mk = fun w => MsgBox b 63 (.int .i16 v :: w) := ⟨_, rfl⟩
  have hT : Tgt mk b 1 8 := by rw [hmk]; exact Tgt.behind b 63 _ 8
  refine cd_eqH (H' := [RdE br _, mk ([] ++ ([.int .i32 0, .int .i16 0, .int .i32 (-1), .int .i32 (-1), .string .empty, .int .i32 0, .map none, .map none] : List Value))]) (by rw [hmk]; rfl) ?_
  have hR : Rs u1 uPl [] v true x (imT uFs v true x) (uvar TL.length ++ (TL.flatMap tagB ++ [])) _ [] := Rs.startU h0 (RSv.mv hsv ht1)
  refine cd_sq ?_
  refine st_num (z := .int .i32 0) hR (hasB_all hv0) rfl en_46 (Fc.num (by decide) (by decide) (by decide) (fun null => sc_i32 null _ _)) rfl hT rfl Tryz.underlying63 rfl tiint32.size rfl (po_eq (show 1 = 1 + fszs _ by kernel_rfl)) tiint32.size rfl rfl (fun u1 v1 done1 ht1 hR => ?_)
  refine at_cd ?_
  refine cd_sq ?_
  refine st_num (z := .int .i16 0) hR (hasB_all hv0) rfl en_47 (Fc.num (by decide) (by decide) (by decide) (fun null => sc_i16 null _ _)) rfl hT rfl Tryz.underlying63 rfl tiint16.size rfl (po_eq (show 2 = 1 + fszs _ by kernel_rfl)) tiint16.size rfl rfl (fun u2 v2 done2 ht2 hR => ?_)
  refine at_cd ?_
  have hdl := hR.len
  have hv := hR.hv
  have hac := hR.acc
  simp only [plainB, List.nil_append] at hv
  obtain ⟨d0, d1, hd01⟩ := uTwo_of (hdl.trans (by kernel_rfl))
  rw [hd01] at hac
  rw [hd01]
  refine cd_eqH (H' := [RdE br _, MsgBox b 63 [.int .i16 v, d0, d1, .int .i32 (-1), .int .i32 (-1), .string .empty, .int .i32 0, .map none, .map none]]) (by rw [hmk]; rfl) ?_
  refine cd_sq ?_
  refine cd_sr ?_
  refine ln_pv (pv_move rfl) rfl ?_
  refine ln_cd ?_
  refine cd_tt rfl ?_
  refine cd_sr ?_
  refine ln_callT (i := 0) (vals := [.pointer (some ⟨br, 0, none⟩)]) en_48 rfl rfl (fun u hu hok hav => rd_Uvarint u TL.length hTl br _ _ (RSv.mv hv hu) hok hav) rfl ?_
  rintro u5 _ _ ht5 ⟨ux5, ⟨rfl, v5, rfl, hv5⟩, hx5⟩
  have hv5 := hv5.mv hx5
  refine ln_pv (pv_assign rfl) rfl ?_
  refine ln_cd ?_
  refine cd_block ?_
  refine cd_loop' (S := Nat × Option Nat × List (Nat × Value) × Value × List Value) ⟨fun z => [(13, .int .u32 ((TL.length - z.1 : Nat) : Int)), (10, .pointer (some ⟨b, 0, none⟩)), (9, .bool true), (8, .int .i16 v), (7, .pointer (some ⟨br, 0, none⟩)), (2, .bool false)],
      fun z => RdE br z.2.2.2.1 :: (mapE z.2.1 z.2.2.1 ++ [MsgBox b 63 (.int .i16 v :: d0 :: d1 :: (z.2.2.2.2 ++ [mapV z.2.1]))]),
      fun z u => (z.1 = 0 → z.2.1 = none ∧ z.2.2.2.2 = uDz) ∧ z.1 ≤ TL.length ∧ RK u z.2.2.1 (uTk us U z.1) ∧ (z.2.1 = none → z.2.2.1 = []) ∧ RSn u z.2.2.2.1 ((TL.drop z.1).flatMap tagB ++ []) ∧ RMp u uSub (uT2 us z.1 v (x.at_ 2)) z.2.2.2.2 ∧ ((uT2 us z.1 v (x.at_ 2)).u = [] → ∃ fc, z.2.2.2.2 = fc ++ [.map none]), fun z => TL.length - z.1⟩ (0, none, [], v5, uDz)
    (fun u hu => ⟨fun _ => ⟨rfl, rfl⟩, Nat.zero_le _, by cases us <;> rfl, fun _ => rfl, by simpa using hv5.mv hu, by simpa [uT2] using uDz_rel u, fun _ => ⟨[.int .i32 (-1), .int .i32 (-1), .string .empty, .int .i32 0], rfl⟩⟩) ?_ (List.Sublist.refl _) ?_
  · exact .put rfl (.put rfl (.put rfl (.put rfl (.put rfl (.put rfl .nil)))))
  rintro ⟨i, mo, ml, v2, cl⟩ u hu ⟨hm0, hi, hRK, hmo, hv2, hcl, hcn⟩
  dsimp only at hm0 hi hRK hmo hv2 hcl hcn ⊢
  obtain ⟨c0, c1, c2, c3, c4, rfl⟩ := uFive_of (hcl.len.1.trans (by kernel_rfl))
  refine cd_seq ?_
  refine cd_sr ?_
  refine ln_pv (pv_move rfl) rfl ?_
  refine ln_pv (pv_gtr rfl rfl) rfl ?_
  refine ln_cd ?_
  refine cd_if rfl (fun hlt => ?_) (fun hge => ?_)
  · skip
    have hi' : i < TL.length := by omega
    have hbi := hTb _ (List.getElem_mem hi')
    rw [tagB_cons hi'] at hv2
    refine cd_skip ?_
    refine at_cd ?_
    refine cd_seq ?_
    refine cd_block ?_
    refine cd_sr ?_
    refine ln_callT (i := 0) (vals := [.pointer (some ⟨br, 0, none⟩)]) en_48 rfl rfl (fun u hu hok hav => rd_Uvarint u _ hbi.1 br v2 _ (RSv.mv hv2.1 hu) hok hav) rfl ?_
    rintro u3 _ _ ht3 ⟨ux3, ⟨rfl, v3, rfl, hv3⟩, hx3⟩
    have hv3 := hv3.mv hx3
    refine ln_pv (pv_assign rfl) rfl ?_
    refine ln_cd ?_
    refine cd_sr ?_
    refine ln_pv (pv_move rfl) rfl ?_
    refine ln_cd ?_
    refine cd_block ?_
    refine cd_sr ?_
    refine ln_pv (pv_eql rfl rfl) rfl ?_
    refine ln_pv (pv_assign rfl) rfl ?_
    refine ln_cd ?_
    refine cd_if rfl (fun hkz => ?_) (fun hkz => ?_)
    · skip
      have hkz : TL[i].1 = 0 := by omega
      obtain ⟨hus0, hi0⟩ : us = false ∧ i = 0 := by subst hTL; exact tgl_zero (fun y hy => (hUb y hy).1) hi' hkz
      obtain ⟨rfl, hcl0⟩ := hm0 hi0
      obtain rfl := hmo rfl
      simp only [uDz, List.cons.injEq, and_true] at hcl0
      obtain ⟨rfl, rfl, rfl, rfl, rfl⟩ := hcl0
      have hTf : TL[i].2 = fb := by subst hi0; subst hTL; subst hus0; rfl
      refine cd_sr ?_
      refine ln_callT (i := 0) (vals := [.pointer (some ⟨br, 0, none⟩)]) en_48 rfl rfl (fun u hu hok hav => rd_Uvarint u _ hbi.2 br v3 _ (RSv.mv hv3.1 hu) hok hav) rfl ?_
      rintro u4 _ _ ht4 ⟨ux4, ⟨rfl, v4, rfl, hv4⟩, hx4⟩
      have hv4 := hv4.mv hx4
      refine ln_pv (pv_conv' (k := .u32) (i := (TL[i].2.length : Int)) Tryz.underlying53 Tryz.underlying3 rfl (r := (TL[i].2.length : Int)) (by rw [wrap_i64 (by omega) (by omega)])) rfl ?_
      refine ln_callT (i := 0) (vals := [.pointer (some ⟨br, 0, none⟩), .int .i64 (TL[i].2.length : Int)]) en_50 rfl rfl (fun u hu hok hav => rd_Span u br _ TL[i].2 _ (hv4.mv hu) hok hav) rfl ?_
      rintro u6 r6 _ ht6 ⟨ux6, ⟨hr6, v6, rfl, hv6⟩, hx6⟩
      have hv6 := hv6.mv hx6
      have hr6 := hr6.mv hx6
      rw [hTf] at hr6
      obtain ⟨hr6, g6, o6, c6, rfl⟩ := hr6
      refine ln_pv (pv_struct [(0, 1), (1, 1)] (l := [_, _]) rfl Tryz.underlying89 tipub_kmsg_inner_kbin_Reader (by kernel_rfl) rfl rfl) rfl ?_
      refine ln_alloc (l := [.slice none 0 0, .bool false]) tipub_kmsg_inner_kbin_Reader rfl rfl (fun br2 => ?_)
      refine ln_storeW (i := 0) (vs := [_, .bool false]) rfl rfl rfl rfl tipub_kmsg_inner_kbin_Reader.size rfl (by simp) ?_
      refine ln_cd ?_
      obtain ⟨mkP, hmkP⟩ : ∃ mk : List Value → Ent, mk = fun w => MsgBox b 63 (.int .i16 v :: ([d0, d1] ++ (w ++ [.map none]))) := ⟨_, rfl⟩
      have hTP : Tgt mkP b 3 5 := by rw [hmkP]; exact (Tgt.behind b 63 _ 8).mid [d0, d1] [.map none] 5 3 rfl rfl
      refine cd_perm (List.Perm.cons _ (List.Perm.swap _ _ _)) ?_
      refine cd_eqH (H' := RdE br2 _ :: mkP uDz :: [RdE br v6]) (by rw [hmkP]; rfl) ?_
      refine cd_sr ?_
      refine ln_pv (pv_move rfl) rfl ?_
      refine ln_pv (pv_nilCheck rfl) rfl ?_
      refine ln_pv (pv_fieldAddr (off := 3) (r := 3) Tryz.underlying63 rfl tipub_kmsg_UpdateRaftVoterResponseCurrentLeader.size rfl rfl rfl) rfl ?_
      refine ln_pv (pv_assign rfl) rfl ?_
      refine ln_cd ?_
      refine cd_sq ?_
      refine rg_dflt (z2 := uDz) rfl en_34 (df_UpdateRaftVoterResponseCurrentLeader _ _ _ _ _) hTP rfl (fun u7 ht7 => ?_)
      refine at_cd ?_
      refine cd_sq ?_
      refine rg_move rfl rfl ?_
      refine at_cd ?_
      have hnt : ntFs uSub = true := by kernel_rfl
      have hvp : RSv u6 (.slice (some ⟨g6, o6, none⟩) fb.length c6) (partB uSub v true (x.at_ 2) ++ []) := by
        have e : fb = partB uSub v true (x.at_ 2) := by rw [hfb, fieldB_mk]; rfl
        rw [List.append_nil, ← e]
        exact hr6
      have hkP : keysT (x.at_ 2) := hk.at_ 2
      obtain ⟨xP, hxP⟩ : ∃ z, z = x.at_ 2 := ⟨_, rfl⟩
      rw [← hxP] at hvp hkP
      have hRo := hR
      have hR : Rs u7 uSub [] v true xP (.mk 0 [] false (imL uSub v true xP 0) (imU uSub true xP.u)) (tgsB true xP ++ []) _ [] := Rs.start (F := uSub) (RSv.part hnt (RSv.mv hvp ht7)) hnt
      refine cd_eqH (H' := RdE br2 _ :: mkP ([] ++ uDz) :: [RdE br v6]) rfl ?_
      refine cd_sq ?_
      refine st_num (z := .int .i32 (-1)) hR (hasB_all hv0) rfl en_46 (Fc.num (by decide) (by decide) (by decide) (fun null => sc_i32 null _ _)) rfl hTP rfl Tryz.underlying61 rfl tiint32.size rfl (po_eq (show 0 = 0 + fszs _ by kernel_rfl)) tiint32.size rfl rfl (fun u101 v101 done101 ht101 hR => ?_)
      refine at_cd ?_
      refine cd_sq ?_
      refine st_num (z := .int .i32 (-1)) hR (hasB_all hv0) rfl en_46 (Fc.num (by decide) (by decide) (by decide) (fun null => sc_i32 null _ _)) rfl hTP rfl Tryz.underlying61 rfl tiint32.size rfl (po_eq (show 1 = 0 + fszs _ by kernel_rfl)) tiint32.size rfl rfl (fun u102 v102 done102 ht102 hR => ?_)
      refine at_cd ?_
      refine cd_sq ?_
      refine cd_sq ?_
      refine rg_const rfl ?_
      refine at_cd ?_
      refine st_str (z := .string .empty) hR (hasB_all hv0) rfl rfl rfl en_53 en_54 (fun h => Fc.of (by decide) (by decide) (by decide) (sc_cstr _ h _)) (fun h => Fc.of (by decide) (by decide) (by decide) (sc_str _ h _)) rfl hTP rfl Tryz.underlying61 rfl tistring.size rfl (po_eq (show 2 = 0 + fszs _ by kernel_rfl)) tistring.size rfl rfl rfl rfl rfl (fun u103 v103 done103 ht103 hR => ?_)
      refine at_cd ?_
      refine cd_sq ?_
      refine st_num (z := .int .i32 0) hR (hasB_all hv0) rfl en_46 (Fc.num (by decide) (by decide) (by decide) (fun null => sc_i32 null _ _)) rfl hTP rfl Tryz.underlying61 rfl tiint32.size rfl (po_eq (show 3 = 0 + fszs _ by kernel_rfl)) tiint32.size rfl rfl (fun u104 v104 done104 ht104 hR => ?_)
      refine at_cd ?_
      refine cd_sq ?_
      refine st_tagsN (F := uSub) hnt hR (keysT.open hkP).1 rfl rfl rfl hTP rfl Tryz.underlying61 rfl tipub_kmsg_Tags.size rfl (po_eq (show 4 = 0 + fszs _ by kernel_rfl)) tipub_kmsg_Tags.size rfl rfl (fun u105 v105 cs105 ht105 hv hM hN => ?_)
      refine at_cd ?_
      refine cd_sr ?_
      refine ln_callT (i := 0) (vals := [.pointer (some ⟨br2, 0, none⟩)]) en_56 rfl rfl (fun u hu hok hav => rd_Complete u br2 _ hok hav) rfl ?_
      rintro u9 _ _ ht9 ⟨ux9, ⟨rfl, rfl⟩, hx9⟩
      refine ln_pv (pv_assign rfl) rfl ?_
      refine ln_cd ?_
      refine cd_sr ?_
      refine ln_pv (pv_move rfl) rfl ?_
      refine ln_pv (pv_neqI Tryz.underlying50 rfl) rfl ?_
      refine ln_cd ?_
      refine cd_ff rfl ?_
      refine cd_skip ?_
      refine at_cd ?_
      refine cd_region ?_
      refine ln_pv (pv_move rfl) rfl ?_
      refine ln_pv (pv_sub' (k := .u32) (i := ((TL.length - i : Nat) : Int)) (j := 1) rfl rfl (r := ((TL.length - (i + 1) : Nat) : Int)) (by rw [wrap_u32_eq]; omega)) rfl ?_
      refine ln_pv (pv_assign rfl) rfl ?_
      refine ln_nil ?_
      refine at_perm (H' := RdE br v6 :: mkP cs105 :: [RdE br2 _]) (List.Perm.trans (List.Perm.swap _ _ _) (List.Perm.trans (List.Perm.cons _ (List.Perm.swap _ _ _)) (List.Perm.swap _ _ _))) ?_
      refine at_rnd' (i + 1, none, [], v6, cs105) (hu.trans (((((((((ht3.trans ht4).trans ht6).trans ht7).trans ht101).trans ht102).trans ht103).trans ht104).trans ht105).trans ht9)) (fun u8 hu8 => ⟨fun h => absurd h (Nat.succ_ne_zero _), by dsimp only; omega, ?_, fun _ => rfl, hv6.mv (((((((ht7.trans ht101).trans ht102).trans ht103).trans ht104).trans ht105).trans ht9).trans hu8), ?_, ?_⟩) (by dsimp only; omega) (.put rfl (.put rfl (.put rfl (.put rfl (.put rfl (.put rfl .nil)))))) ?_
      · subst hi0; subst hus0; rfl
      · have e : uT2 us (i + 1) v (x.at_ 2) = imF uF v true (x.at_ 2) := by subst hus0; simp [uT2]
        have e2 : imF uF v true (x.at_ 2) = imT uSub v true (x.at_ 2) := by simp [imF, imT]
        show RMp u8 uSub (uT2 us (i + 1) v (x.at_ 2)) _
        rw [e, e2, ← hxP]
        exact (hM.mv ht9).mv hu8
      · have e : uT2 us (i + 1) v (x.at_ 2) = imF uF v true (x.at_ 2) := by subst hus0; simp [uT2]
        have e2 : imF uF v true (x.at_ 2) = imT uSub v true (x.at_ 2) := by simp [imF, imT]
        show (uT2 us (i + 1) v (x.at_ 2)).u = [] → _
        rw [e, e2, ← hxP]
        exact hN
      · rw [hmkP]; exact .cons_cons _ (.cons_cons _ (.cons _ .slnil))
    · skip
      have hkz : ¬ TL[i].1 = 0 := by omega
      obtain ⟨j, hj, hj1, hj2, hj3⟩ : ∃ j, ∃ hj : j < U.length, uTk us U i = U.take j ∧ uTk us U (i + 1) = U.take (j + 1) ∧ TL[i] = U[j] := by subst hTL; exact tgl_next hi' hkz
      have hnew : ∀ y ∈ ml, y.1 ≠ TL[i].1 := by
        rw [hj3]
        exact nodup_new hj (by rw [RK.keys hRK, hj1]) hUn
      refine cd_draw' [] [0, 1, 2, 3] [0, 1, 2, 3, 4, 5, 6, 7] mixed (by kernel_rfl) ?_
      refine lo_pv rfl rfl (sk_js (Tr.refl _) [] rfl) (pv_move rfl) rfl ?_
      refine lo_pv rfl rfl (sk_js (Tr.refl _) [] rfl) (pv_nilCheck rfl) rfl ?_
      refine lo_pv rfl rfl (sk_js (Tr.refl _) [] rfl) (pv_fieldAddr (off := 8) (r := 8) Tryz.underlying63 rfl tipub_kmsg_Tags.size rfl rfl rfl) rfl ?_
      refine lo_pv rfl rfl (sk_js (Tr.refl _) [] rfl) (pv_move rfl) rfl ?_
      refine lo_eff rfl rfl ?_
      refine ln_callT (i := 0) (vals := [.pointer (some ⟨br, 0, none⟩)]) en_48 rfl rfl (fun u hu hok hav => rd_Uvarint u _ hbi.2 br v3 _ (RSv.mv hv3.1 hu) hok hav) rfl ?_
      rintro u4 _ _ ht4 ⟨ux4, ⟨rfl, v4, rfl, hv4⟩, hx4⟩
      have hv4 := hv4.mv hx4
      refine lo_back (sk_js ht4 [] rfl) ?_
      refine lo_eff rfl rfl ?_
      refine ln_pv (pv_conv' (k := .u32) (i := (TL[i].2.length : Int)) Tryz.underlying53 Tryz.underlying3 rfl (r := (TL[i].2.length : Int)) (by rw [wrap_i64 (by omega) (by omega)])) rfl ?_
      refine lo_back (sk_js ht4 [] rfl) ?_
      refine lo_eff rfl rfl ?_
      refine ln_callT (i := 0) (vals := [.pointer (some ⟨br, 0, none⟩), .int .i64 (TL[i].2.length : Int)]) en_50 rfl rfl (fun u hu hok hav => rd_Span u br _ TL[i].2 _ (hv4.mv hu) hok hav) rfl ?_
      rintro u6 r6 _ ht6 ⟨ux6, ⟨hr6, v6, rfl, hv6⟩, hx6⟩
      have hv6 := hv6.mv hx6
      have hr6 := hr6.mv hx6
      refine lo_back (sk_js (ht4.trans ht6) [] rfl) ?_
      refine lo_eff rfl rfl ?_
      have hs8 : ∀ z : Value, [.int .i16 v, d0, d1, c0, c1, c2, c3, c4, .map none].set 8 z = [.int .i16 v, d0, d1, c0, c1, c2, c3, c4, z] := fun z => rfl
      refine ln_callH (E := mapE mo ml ++ [MsgBox b 63 [.int .i16 v, d0, d1, c0, c1, c2, c3, c4, mapV mo]]) (H0 := [RdE br v6]) (vals := [.pointer (some ⟨b, 8, none⟩), .int .u32 (TL[i].1 : Int), r6]) (show List.Perm (RdE br v6 :: (mapE mo ml ++ MsgBox b 63 [.int .i16 v, d0, d1, c0, c1, c2, c3, c4, mapV mo] :: [])) (_ ++ _) from set_perm) en_49 rfl (fun u hu hok hav hnd => by
        have h := tags_SetU u b 8 TL[i].1 [.int .i16 v, d0, d1, c0, c1, c2, c3, c4, .map none] 63 r6 mo ml (Nat.le_of_ble_eq_true rfl) hmo hnew (by rw [hs8]; exact hok) (by rw [hs8]; exact hav) (by rw [hs8]; exact hnd)
        simp only [hs8] at h
        exact h) rfl ?_
      rintro u8 r8 _ ht8 ⟨_, ⟨m, rfl⟩, _⟩
      refine lo_back (sk_js (ht4.trans (ht6.trans ht8)) [] rfl) ?_
      refine lo_nil ?_
      refine at_cd ?_
      refine cd_region ?_
      refine ln_pv (pv_move rfl) rfl ?_
      refine ln_pv (pv_sub' (k := .u32) (i := ((TL.length - i : Nat) : Int)) (j := 1) rfl rfl (r := ((TL.length - (i + 1) : Nat) : Int)) (by rw [wrap_u32_eq]; omega)) rfl ?_
      refine ln_pv (pv_assign rfl) rfl ?_
      refine ln_nil ?_
      refine at_perm (H' := RdE br v6 :: (mapE (some m) (ml ++ [(TL[i].1, r6)]) ++ MsgBox b 63 [.int .i16 v, d0, d1, c0, c1, c2, c3, c4, mapV (some m)] :: [])) ?_ ?_
      · exact set_perm.symm
      refine at_rnd' (i + 1, some m, ml ++ [(TL[i].1, r6)], v6, [c0, c1, c2, c3, c4]) (hu.trans (ht3.trans (ht4.trans (ht6.trans ht8)))) (fun u9 hu9 => ⟨fun h => absurd h (Nat.succ_ne_zero _), by dsimp only; omega, ?_, (fun h => by cases h), hv6.mv (ht8.trans hu9), ?_, ?_⟩) (by dsimp only; omega) (.put rfl (.put rfl (.put rfl (.put rfl (.put rfl (.put rfl .nil)))))) (List.Sublist.refl _)
      · show RK u9 _ (uTk us U (i + 1))
        rw [hj2, take_snoc' hj, ← hj3]
        rw [hj1] at hRK
        exact RK.snoc (RSv.mv hr6.1 (ht8.trans hu9)) (RK.mv ((ht3.trans (ht4.trans (ht6.trans ht8))).trans hu9) hRK)
      skip
      · show RMp u9 uSub (uT2 us (i + 1) v (x.at_ 2)) _
        rw [uT2_next hTL hi' hkz]
        exact (hcl.mv (ht3.trans (ht4.trans (ht6.trans ht8)))).mv hu9
      · show (uT2 us (i + 1) v (x.at_ 2)).u = [] → _
        rw [uT2_next hTL hi' hkz]
        exact hcn
  · skip
    have him : i = TL.length := by omega
    subst him
    have hRK : RK u ml U := by have := hRK; rw [hTL, uTk_all] at this; exact this
    have hY2 : (imT uFs v true x).at_ 2 = uT2 us TL.length v (x.at_ 2) := by rw [hTL]; exact uT2_end hus
    rw [← hY2] at hcl hcn
    refine cd_exit rfl ?_
    refine at_cd ?_
    have hacU : RMl u uPl (imT uFs v true x) 0 [d0, d1] := RMl.mv (ht5.trans hu) hac
    have hall : RMl u uFs (imT uFs v true x) 0 ([d0, d1] ++ [c0, c1, c2, c3, c4]) := RMl_snoc (fs := uPl) (f := uF) hacU ((RMf_part (by decide)).2 hcl)
    have hc4 : ((imT uFs v true x).at_ 2).u = [] → c4 = .map none := fun h => by
      obtain ⟨fc, hfc⟩ := hcn h
      have := congrArg List.getLast? hfc
      simpa using this
    cases mo with
    | none =>
      obtain rfl := hmo rfl
      refine cd_sr ?_
      refine ln_callT (i := 0) (vals := [.pointer (some ⟨br, 0, none⟩)]) en_56 rfl rfl (fun u hu hok hav => rd_Complete u br _ hok hav) rfl ?_
      rintro u9 _ _ ht9 ⟨ux9, ⟨rfl, rfl⟩, hx9⟩
      refine ln_pv (pv_assign rfl) rfl ?_
      refine ln_cd ?_
      refine cd_ret ?_
      refine at_retT (i := 1) rfl rfl rfl (fun w hS => ⟨rfl, [d0, d1, c0, c1, c2, c3, c4, .map none], rfl, ⟨[d0, d1, c0, c1, c2, c3, c4], .map none, rfl, (RMl.mv (ht9.trans (hS.trFinT _ _)) hall), [], .inl ⟨rfl, rfl⟩, ?_⟩, fun h => by have := hc4 h; subst this; rfl⟩)
      show RK _ [] (imU uFs true x.u)
      rw [imU, if_pos rfl, uFs_known, ← hU]
      exact RK.mv (ht9.trans (hS.trFinT _ _)) hRK
    | some m =>
      refine cd_sr ?_
      refine ln_callT (i := 0) (vals := [.pointer (some ⟨br, 0, none⟩)]) en_56 rfl rfl (fun u hu hok hav => rd_Complete u br _ hok hav) rfl ?_
      rintro u9 _ _ ht9 ⟨ux9, ⟨rfl, rfl⟩, hx9⟩
      refine ln_pv (pv_assign rfl) rfl ?_
      refine ln_cd ?_
      refine cd_ret ?_
      refine at_retT (i := 2) rfl rfl rfl (fun w hS => ⟨rfl, [d0, d1, c0, c1, c2, c3, c4, .map (some m)], rfl, ⟨[d0, d1, c0, c1, c2, c3, c4], .map (some m), rfl, (RMl.mv (ht9.trans (hS.trFinT _ _)) hall), ml, .inr ⟨m, rfl, obT hS (by simp [Ent.blk]) (i := 2) (j := 1) rfl rfl (by decide)⟩, ?_⟩, fun h => by have := hc4 h; subst this; rfl⟩)
      show RK _ ml (imU uFs true x.u)
      rw [imU, if_pos rfl, uFs_known, ← hU]
      exact RK.mv (ht9.trans (hS.trFinT _ _)) hRK
end K
end Go.Proofs.YtepbicjadambbabGreatDoor
namespace Go.Proofs.YtepbicjadambbabGreatDoor
namespace K
open Go Go.Lib
theorem newp_UpdateRaftVoterResponse (t : Vw) (hok : HF [] t.w) (hav : ∀ q ∈ blks [], t.av q) (hnd : (blks []).Nodup) : CH Tryz.prog 12 [] t [] fun u r E' => ∃ b, r = .pointer (some ⟨b, 0, none⟩) ∧ E' = [MsgBox b 63 [.int .i16 0, .int .i32 0, .int .i16 0, .int .i32 (-1), .int .i32 (-1), .string .empty, .int .i32 0, .map none, .map none]] := by
  refine ch_enter Tryz.func12 rfl Tryz.ntmps12 rfl hok hav hnd ?_
  refine cd_sr ?_
  refine ln_pv (pv_assign rfl) rfl ?_
  refine ln_cd ?_
  refine cd_sr ?_
  refine ln_alloc tipub_kmsg_UpdateRaftVoterResponse rfl rfl (fun b => ?_)
  refine ln_cd ?_
  refine cd_sr ?_
  refine ln_callT (i := 0) en_20 rfl rfl (fun u hu hok hav => df_UpdateRaftVoterResponse _ _ _ _ _ _ _ _ _ (fun w => .obj b (.cells w.toArray 63)) b 0 (Tgt.obj b 63 9) u hok hav) rfl ?_
  rintro u1 _ _ ht1 ⟨_, ⟨rfl, rfl⟩, _⟩
  refine ln_cd ?_
  refine cd_sr ?_
  refine ln_pv (pv_assign rfl) rfl ?_
  refine ln_cd ?_
  refine cd_ret ?_
  exact at_retHq [MsgBox b 63 [.int .i16 0, .int .i32 0, .int .i16 0, .int .i32 (-1), .int .i32 (-1), .string .empty, .int .i32 0, .map none, .map none]] (List.Sublist.refl _) rfl rfl (fun w hS => ⟨b, rfl, rfl⟩)
theorem setd_UpdateRaftVoterResponse (t : Vw) (b : Nat) (v : Int) (hok : (MsgBox b 63 [.int .i16 0, .int .i32 0, .int .i16 0, .int .i32 (-1), .int .i32 (-1), .string .empty, .int .i32 0, .map none, .map none]).ok t.w) (hav : ∀ q ∈ (MsgBox b 63 [.int .i16 0, .int .i32 0, .int .i16 0, .int .i32 (-1), .int .i32 (-1), .string .empty, .int .i32 0, .map none, .map none]).blk, t.av q) : CT Tryz.prog 16 [.pointer (some ⟨b, 0, none⟩), .int .i16 v] t (MsgBox b 63 [.int .i16 0, .int .i32 0, .int .i16 0, .int .i32 (-1), .int .i32 (-1), .string .empty, .int .i32 0, .map none, .map none]) fun u r e' => e' = MsgBox b 63 [.int .i16 v, .int .i32 0, .int .i16 0, .int .i32 (-1), .int .i32 (-1), .string .empty, .int .i32 0, .map none, .map none] := by
  refine ct_enter Tryz.func16 rfl Tryz.ntmps16 rfl hok hav (by simp [Ent.blk]) ?_
  refine cd_region ?_
  refine ln_pv (pv_move rfl) rfl ?_
  refine ln_pv (pv_move rfl) rfl ?_
  refine ln_pv (pv_nilCheck rfl) rfl ?_
  refine ln_pv (pv_fieldAddr (off := 0) (r := 0) Tryz.underlying63 rfl (tiint16).size rfl rfl rfl) rfl ?_
  refine ln_store1 (i := 0) rfl rfl rfl rfl (tiint16).size rfl ?_
  refine ln_nil ?_
  exact at_retT0 (i := 0) rfl rfl (fun w hS => rfl)
theorem readf_UpdateRaftVoterResponse (t : Vw) (b : Nat) (v : Int) (x : Tre) (sv : Value) (hsv : RSv t sv (partB F_UpdateRaftVoterResponse v (flexB 0 v) x)) (hk : keysT x) (h0 : 0 ≤ v) (h1 : v ≤ 0) (hok : (MsgBox b 63 (.int .i16 v :: ([.int .i32 0, .int .i16 0, .int .i32 (-1), .int .i32 (-1), .string .empty, .int .i32 0, .map none, .map none] : List Value))).ok t.w) (hav : ∀ q ∈ (MsgBox b 63 (.int .i16 v :: ([.int .i32 0, .int .i16 0, .int .i32 (-1), .int .i32 (-1), .string .empty, .int .i32 0, .map none, .map none] : List Value))).blk, t.av q) : CT Tryz.prog 17 [.pointer (some ⟨b, 0, none⟩), sv] t (MsgBox b 63 (.int .i16 v :: ([.int .i32 0, .int .i16 0, .int .i32 (-1), .int .i32 (-1), .string .empty, .int .i32 0, .map none, .map none] : List Value))) fun u r e' => r = .nilIface ∧ ∃ cells, e' = MsgBox b 63 (.int .i16 v :: cells) ∧ RMq u F_UpdateRaftVoterResponse (imT F_UpdateRaftVoterResponse v (flexB 0 v) x) cells := by
  refine ct_enter Tryz.func17 rfl Tryz.ntmps17 rfl hok hav (by simp [Ent.blk]) ?_
  refine cd_sr ?_
  refine ln_pv (pv_assign rfl) rfl ?_
  refine ln_cd ?_
  refine cd_sr ?_
  refine ln_pv (pv_move rfl) rfl ?_
  refine ln_pv (pv_move rfl) rfl ?_
  refine ln_callT (i := 0) en_29 rfl rfl (fun u hu hok hav => read_UpdateRaftVoterResponse u b v x sv (RSv.mv hsv hu) hk h0 h1 hok hav) rfl ?_
  rintro u2 _ _ ht2 ⟨ux, ⟨rfl, cells, rfl, hM⟩, hx⟩
  refine ln_pv (pv_assign rfl) rfl ?_
  refine ln_cd ?_
  refine cd_ret ?_
  exact at_retT (i := 0) rfl rfl rfl (fun w hS => ⟨rfl, cells, rfl, (hM.mv hx).mv (hS.trFinT _ _)⟩)
theorem behind_UpdateRaftVoterResponse (t : Vw) (v : Int) (x : Tre) (D : List UInt8) (dv sv : Value) (hdv : RSv t dv D) (hsv : RSv t sv (partB F_UpdateRaftVoterResponse v (flexB 0 v) x)) (hk : keysT x) (h0 : 0 ≤ v) (h1 : v ≤ 0) (hD : D.length ≤ 1000) (hB : (partB F_UpdateRaftVoterResponse v (flexB 0 v) x).length ≤ 1099511627776) : CA Tryz.prog 9 [.int .i64 v, dv, sv] t fun u r => ∃ rv, r = .tuple #[rv, .bool true] ∧ RSv u rv (D ++ partB F_UpdateRaftVoterResponse v (flexB 0 v) x) := by
  have hqt : flexB 0 v = true := by simp [flexB]; omega
  have him : partB F_UpdateRaftVoterResponse v (flexB 0 v) (imT F_UpdateRaftVoterResponse v (flexB 0 v) x) = partB F_UpdateRaftVoterResponse v (flexB 0 v) x := by rw [hqt]; exact uFs_im h0
  have hfit : okP F_UpdateRaftVoterResponse v (flexB 0 v) (imT F_UpdateRaftVoterResponse v (flexB 0 v) x) := by rw [hqt]; exact uFs_okim h0 hk
  have hf32 : (fieldB (F_UpdateRaftVoterResponse[2]'(by decide)) v true ((imT F_UpdateRaftVoterResponse v (flexB 0 v) x).at_ 2)).length ≤ 4294967295 := by rw [hqt]; exact uF_im_len hk
  refine ca_enter Tryz.func9 rfl Tryz.ntmps9 rfl ?_
  refine cd_sr ?_
  refine ln_pv (pv_assign rfl) rfl ?_
  refine ln_pv (pv_assign rfl) rfl ?_
  refine ln_cd ?_
  refine cd_sr ?_
  refine ln_callH (E := []) (H0 := []) (List.Perm.refl _) en_12 rfl (fun u hu hok hav hnd => newp_UpdateRaftVoterResponse u hok hav hnd) rfl ?_
  rintro u1 _ _ ht1 ⟨_, ⟨b, rfl, rfl⟩, _⟩
  refine ln_pv (pv_assign rfl) rfl ?_
  refine ln_cd ?_
  refine cd_sr ?_
  refine ln_pv (pv_move rfl) rfl ?_
  refine ln_pv (pv_move rfl) rfl ?_
  refine ln_pv (pv_conv' Tryz.underlying3 Tryz.underlying40 rfl (r := v) (wrap_i16_in (by omega) (by omega))) rfl ?_
  refine ln_callT (i := 0) en_16 rfl rfl (fun u hu hok hav => setd_UpdateRaftVoterResponse u b v hok hav) rfl ?_
  rintro u2 _ _ ht2 ⟨_, rfl, _⟩
  refine ln_cd ?_
  have hsv := hsv.mv (ht1.trans ht2)
  have hdv := hdv.mv (ht1.trans ht2)
  refine cd_seq ?_
  refine cd_sr ?_
  refine ln_pv (pv_move rfl) rfl ?_
  refine ln_pv (pv_move rfl) rfl ?_
  refine ln_nilrow 5 1 ?_
  refine ln_append (i := 0) rfl Tryz.underlying22 tiuint8 rfl (by decide) rfl rfl (RS.src hsv) (by simp only [maxLen]; omega) (by omega) rfl (k' := (partB F_UpdateRaftVoterResponse v (flexB 0 v) x).length) (xs' := u8s (partB F_UpdateRaftVoterResponse v (flexB 0 v) x)) (by omega) (by simp) (fun va hva => ?_)
  refine ln_free1 (fun q h => h.elim) (fun s3 ht3 hK => ?_)
  have hs3 : RSv s3 va (partB F_UpdateRaftVoterResponse v (flexB 0 v) x) := Known.rs hK (u8s_one _)
  have hdv := hdv.mv ht3
  clear hK
  refine ln_callT (i := 0) en_17 rfl rfl (fun u hu hok hav => readf_UpdateRaftVoterResponse u b v x _ (RSv.mv hs3 hu) hk h0 h1 hok hav) rfl ?_
  rintro u4 _ _ ht4 ⟨ux4, ⟨rfl, cells, rfl, hM⟩, hx4⟩
  have hM := hM.mv hx4
  have hdv := hdv.mv ht4
  refine ln_pv (pv_neqI Tryz.underlying50 rfl) rfl ?_
  refine ln_cd ?_
  refine cd_ff rfl ?_
  refine cd_skip ?_
  refine at_cd ?_
  refine cd_free (fun s9 hs9 hK => ?_)
  have hob : OB s9 b (.cells (.int .i16 v :: cells).toArray 63) := hK _ (List.mem_of_getElem? (i := 0) rfl)
  clear hK
  have hM := hM.mv hs9
  have hdv := hdv.mv hs9
  refine cd_sr ?_
  refine ln_pv (pv_move rfl) rfl ?_
  refine ln_pv (pv_move rfl) rfl ?_
  refine ln_nilrow 5 1 ?_
  refine ln_append (i := 0) rfl Tryz.underlying22 tiuint8 rfl (by decide) rfl rfl (RS.src hdv) (by simp only [maxLen]; omega) (by omega) rfl (k' := (D).length) (xs' := u8s (D)) (by omega) (by simp) (fun vb hvb => ?_)
  refine ln_callT (i := 0) en_18 rfl rfl (fun u hu hok hav => append_UpdateRaftVoterResponse u b v (imT F_UpdateRaftVoterResponse v (flexB 0 v) x) cells _ D (hob.mv hu).rc (hM.mv hu) hfit h0 h1 hf32 (by rw [him, List.length_append]; omega) hok hav) rfl ?_
  rintro u5 v5 _ ht5 ⟨_, ⟨rfl, h15⟩, _⟩
  refine ln_pv (pv_assign rfl) rfl ?_
  refine ln_pv (pv_assign rfl) rfl ?_
  refine ln_cd ?_
  refine cd_ret ?_
  exact at_retA2 (K := 0) rfl rfl rfl (fun w hS => ⟨v5, rfl, (congrArg (fun q => RSv hS.fin v5 (D ++ q)) him).mp (row_rs hS (j := 0) rfl (u8s_one _))⟩)
theorem law_UpdateRaftVoterResponse (t : Vw) (n : Nat) (x : Tre) (cs : List Value) (D : List UInt8) (dv : Value) (hn8 : n < 256) (hdv : RSv t dv D) (hD : D.length ≤ 1048576) (hx : RT t x cs) (hkx : keysT x) (hsm : smT x) (hB : (writeB F_UpdateRaftVoterResponse 0 ((versionN n 0 : Nat) : Int) x).length < 1099511627776) : CS Tryz.prog 3 [.int .u8 (n : Int), dv, .agg cs.toArray] t (.bool true) := by
  obtain ⟨sS, sL, sU, rfl, hn, hS, ⟨lc, hL, hLs⟩, hU⟩ := hx.open
  obtain ⟨adS, cS, rfl, hleS⟩ := hS.shape
  obtain ⟨adL, cL, rfl, hleL⟩ := hL.shape
  have hU0 := hU
  obtain ⟨uc, hU1, hUs⟩ := hU0
  obtain ⟨hz1, hz2, hz3, hz4⟩ := hsm.open
  obtain ⟨adD, cD, rfl, hleD⟩ := hdv.shape
  have hok := ok_F_UpdateRaftVoterResponse
  have hvn : versionN n 0 ≤ 0 := by have := Nat.mod_lt n (show 0 < 0 + 1 by omega); unfold versionN; omega
  refine CA.cs ?_
  refine ca_enter Tryz.func3 rfl Tryz.ntmps3 rfl ?_
  cases hft : fits1 x with
  | false =>
    refine cd_sr ?_
    refine ln_box rfl rfl rfl (fun b1 => ?_)
    refine ln_pv (pv_assign rfl) rfl ?_
    refine ln_cd ?_
    refine cd_seq ?_
    refine cd_sr ?_
    refine ln_pv (pv_move rfl) rfl ?_
    refine ln_pv (pv_len_slice Tryz.underlying22 rfl) rfl ?_
    refine ln_pv (pv_ff (pv_gtr rfl rfl) (by omega)) rfl ?_
    refine ln_pv (pv_move rfl) rfl ?_
    refine ln_gt rfl rfl rfl (pv_ldO (i := 0) rfl Tryz.underlying26 rfl (tispec_Tree).size rfl rfl) rfl ?_
    refine ln_gE rfl rfl rfl ?_
    refine ln_callS en_4 rfl (fun u hu => by have h := laws_zzFits1 u x _ (RT.mv hx hu) (by omega); rwa [hft] at h) rfl ?_
    refine ln_gt rfl rfl rfl (pv_not rfl) rfl ?_
    refine ln_pv (pv_pick rfl (fun _ => rfl) (fun _ => rfl)) rfl ?_
    refine ln_cd ?_
    refine cd_tt rfl ?_
    refine cd_sr ?_
    refine ln_pv (pv_assign rfl) rfl ?_
    refine ln_cd ?_
    refine cd_ret ?_
    refine at_retA rfl rfl (fun w hS => ?_)
    rfl
  | true =>
    by_cases hbig : D.length > 1000
    · skip
      refine cd_sr ?_
      refine ln_box rfl rfl rfl (fun b1 => ?_)
      refine ln_pv (pv_assign rfl) rfl ?_
      refine ln_cd ?_
      refine cd_seq ?_
      refine cd_sr ?_
      refine ln_pv (pv_move rfl) rfl ?_
      refine ln_pv (pv_len_slice Tryz.underlying22 rfl) rfl ?_
      refine ln_pv (pv_ff (pv_gtr rfl rfl) (by omega)) rfl ?_
      refine ln_pv (pv_move rfl) rfl ?_
      refine ln_gt rfl rfl rfl (pv_ldO (i := 0) rfl Tryz.underlying26 rfl (tispec_Tree).size rfl rfl) rfl ?_
      refine ln_gE rfl rfl rfl ?_
      refine ln_callS en_4 rfl (fun u hu => by have h := laws_zzFits1 u x _ (RT.mv hx hu) (by omega); rwa [hft] at h) rfl ?_
      refine ln_gt rfl rfl rfl (pv_not rfl) rfl ?_
      refine ln_pv (pv_pick rfl (fun _ => rfl) (fun _ => rfl)) rfl ?_
      refine ln_cd ?_
      refine cd_ff rfl ?_
      refine cd_skip ?_
      refine at_cd ?_
      refine cd_sr ?_
      refine ln_callS en_5 rfl (fun u hu => max_UpdateRaftVoterResponse u) rfl ?_
      refine ln_pv (pv_assign rfl) rfl ?_
      refine ln_cd ?_
      refine cd_seq ?_
      refine cd_sr ?_
      refine ln_pv (pv_move rfl) rfl ?_
      refine ln_pv (pv_ff (pv_lss rfl rfl) (by omega)) rfl ?_
      refine ln_cd ?_
      refine cd_ff rfl ?_
      refine cd_skip ?_
      refine at_cd ?_
      refine cd_sr ?_
      refine ln_callA en_6 rfl (fun u hu => sch_F_UpdateRaftVoterResponse u) rfl (fun u1 v1 ht1 hR1 => ?_)
      have hx := hx.mv ht1
      have hdv := hdv.mv ht1
      obtain ⟨sv, lcm, rfl, hVm, hFm⟩ := hR1
      refine ln_pv (pv_move rfl) rfl ?_
      refine ln_pv (pv_move rfl) rfl ?_
      refine ln_callS en_7 rfl (fun u hu => laws_version u n 0 hn8 (by omega)) rfl ?_
      refine ln_alloc tispec_Message rfl rfl (fun b2 => ?_)
      refine ln_storeW (i := 0) rfl rfl rfl rfl (tispec_Message).size rfl (by simp [(RS.one hVm)]) ?_
      refine ln_pv (pv_assign rfl) rfl ?_
      refine ln_cd ?_
      refine cd_seq ?_
      refine cd_sr ?_
      refine ln_pv (pv_move rfl) rfl ?_
      refine ln_pv (pv_len_slice Tryz.underlying22 rfl) rfl ?_
      refine ln_pv (pv_tt (pv_gtr rfl rfl) (by omega)) rfl ?_
      refine ln_cd ?_
      refine cd_tt rfl ?_
      refine cd_sr ?_
      refine ln_pv (pv_assign rfl) rfl ?_
      refine ln_cd ?_
      refine cd_ret ?_
      refine at_retA rfl rfl (fun w hS => ?_)
      rfl
    · skip
      refine cd_sr ?_
      refine ln_box rfl rfl rfl (fun b1 => ?_)
      refine ln_pv (pv_assign rfl) rfl ?_
      refine ln_cd ?_
      refine cd_seq ?_
      refine cd_sr ?_
      refine ln_pv (pv_move rfl) rfl ?_
      refine ln_pv (pv_len_slice Tryz.underlying22 rfl) rfl ?_
      refine ln_pv (pv_ff (pv_gtr rfl rfl) (by omega)) rfl ?_
      refine ln_pv (pv_move rfl) rfl ?_
      refine ln_gt rfl rfl rfl (pv_ldO (i := 0) rfl Tryz.underlying26 rfl (tispec_Tree).size rfl rfl) rfl ?_
      refine ln_gE rfl rfl rfl ?_
      refine ln_callS en_4 rfl (fun u hu => by have h := laws_zzFits1 u x _ (RT.mv hx hu) (by omega); rwa [hft] at h) rfl ?_
      refine ln_gt rfl rfl rfl (pv_not rfl) rfl ?_
      refine ln_pv (pv_pick rfl (fun _ => rfl) (fun _ => rfl)) rfl ?_
      refine ln_cd ?_
      refine cd_ff rfl ?_
      refine cd_skip ?_
      refine at_cd ?_
      refine cd_sr ?_
      refine ln_callS en_5 rfl (fun u hu => max_UpdateRaftVoterResponse u) rfl ?_
      refine ln_pv (pv_assign rfl) rfl ?_
      refine ln_cd ?_
      refine cd_seq ?_
      refine cd_sr ?_
      refine ln_pv (pv_move rfl) rfl ?_
      refine ln_pv (pv_ff (pv_lss rfl rfl) (by omega)) rfl ?_
      refine ln_cd ?_
      refine cd_ff rfl ?_
      refine cd_skip ?_
      refine at_cd ?_
      refine cd_sr ?_
      refine ln_callA en_6 rfl (fun u hu => sch_F_UpdateRaftVoterResponse u) rfl (fun u1 v1 ht1 hR1 => ?_)
      have hx := hx.mv ht1
      have hdv := hdv.mv ht1
      obtain ⟨sv, lcm, rfl, hVm, hFm⟩ := hR1
      refine ln_pv (pv_move rfl) rfl ?_
      refine ln_pv (pv_move rfl) rfl ?_
      refine ln_callS en_7 rfl (fun u hu => laws_version u n 0 hn8 (by omega)) rfl ?_
      refine ln_alloc tispec_Message rfl rfl (fun b2 => ?_)
      refine ln_storeW (i := 0) rfl rfl rfl rfl (tispec_Message).size rfl (by simp [(RS.one hVm)]) ?_
      refine ln_pv (pv_assign rfl) rfl ?_
      refine ln_cd ?_
      refine cd_seq ?_
      refine cd_sr ?_
      refine ln_pv (pv_move rfl) rfl ?_
      refine ln_pv (pv_len_slice Tryz.underlying22 rfl) rfl ?_
      refine ln_pv (pv_ff (pv_gtr rfl rfl) (by omega)) rfl ?_
      refine ln_cd ?_
      refine cd_ff rfl ?_
      refine cd_skip ?_
      refine at_cd ?_
      refine cd_sr ?_
      refine ln_pv (pv_ldO (i := 0) rfl Tryz.underlying31 rfl (tispec_Message).size rfl rfl) rfl ?_
      refine ln_pv (pv_move rfl) rfl ?_
      refine ln_pv (pv_ldO (i := 1) rfl Tryz.underlying26 rfl (tispec_Tree).size rfl rfl) rfl ?_
      refine ln_callA en_8 rfl (fun u hu => spec_Write F_UpdateRaftVoterResponse 0 hok.1 hok.2.2 u _ _ _ ((versionN n 0 : Nat) : Int) x (RS.mv hVm hu) (RFs.mv hFm hu) (RT.mv hx hu) hsm hB) rfl (fun u2 v2 ht2 hR2 => ?_)
      have hx := hx.mv ht2
      have hdv := hdv.mv ht2
      have hVm := hVm.mv ht2
      have hFm := hFm.mv ht2
      refine ln_pv (pv_assign rfl) rfl ?_
      refine ln_cd ?_
      refine cd_sr ?_
      refine ln_pv (pv_move rfl) rfl ?_
      refine ln_pv (pv_move rfl) rfl ?_
      refine ln_pv (pv_move rfl) rfl ?_
      refine ln_callA en_9 rfl (fun u hu => behind_UpdateRaftVoterResponse u ((versionN n 0 : Nat) : Int) x D _ _ (RSv.mv hdv hu) (RSv.mv hR2 hu) hkx (by omega) (by omega) (by omega) (by rw [show partB F_UpdateRaftVoterResponse ((versionN n 0 : Nat) : Int) (flexB 0 ((versionN n 0 : Nat) : Int)) x = writeB F_UpdateRaftVoterResponse 0 ((versionN n 0 : Nat) : Int) x from rfl]; omega)) rfl (fun u3 v3 ht3 hR3 => ?_)
      have hx := hx.mv ht3
      have hdv := hdv.mv ht3
      have hVm := hVm.mv ht3
      have hFm := hFm.mv ht3
      have hR2 := hR2.mv ht3
      obtain ⟨rv, rfl, hV⟩ := hR3
      refine ln_pv (pv_move rfl) rfl ?_
      refine ln_pv (pv_extract rfl rfl) rfl ?_
      refine ln_pv (pv_extract rfl rfl) rfl ?_
      refine ln_pv (pv_assign rfl) rfl ?_
      refine ln_pv (pv_assign rfl) rfl ?_
      refine ln_cd ?_
      refine cd_sr ?_
      refine ln_pv (pv_move rfl) rfl ?_
      refine ln_pv (pv_move rfl) rfl ?_
      refine ln_gt rfl rfl rfl (pv_move rfl) rfl ?_
      refine ln_gE rfl rfl rfl ?_
      refine ln_lit (vs := []) Tryz.underlying22 tiuint8 rfl (by decide) rfl rfl rfl rfl rfl rfl (fun b3 => ?_)
      refine ln_gt rfl rfl rfl (pv_move rfl) rfl ?_
      refine ln_gE rfl rfl rfl ?_
      refine ln_objrow (i := 0) (m := 0) (sz := 1) rfl rfl (by decide) ?_
      refine ln_append (i := 0) rfl Tryz.underlying22 tiuint8 rfl (by decide) rfl rfl (RS.src hdv) (by first | omega | (simp only [maxLen]; omega)) (by first | omega | (simp only [maxLen]; omega)) rfl (k' := D.length) (xs' := u8s D) (by omega) (by simp [flat]) (fun v4 hv4 => ?_)
      refine ln_gt rfl rfl rfl (pv_move rfl) rfl ?_
      refine ln_gE rfl rfl rfl ?_
      refine ln_append (i := 0) rfl Tryz.underlying22 tiuint8 rfl (by decide) rfl rfl (RS.src hR2) (by first | omega | (simp only [maxLen]; omega)) (by first | omega | (simp only [maxLen]; omega)) rfl (k' := (D ++ writeB F_UpdateRaftVoterResponse 0 ((versionN n 0 : Nat) : Int) x).length) (xs' := u8s (D ++ writeB F_UpdateRaftVoterResponse 0 ((versionN n 0 : Nat) : Int) x)) (by rw [List.length_append]) (by simp [u8s]) (fun v5 hv5 => ?_)
      refine ln_free1 (fun q h => h.elim) (fun s9 hs9 hK => ?_)
      have hrow : RSv s9 _ (D ++ writeB F_UpdateRaftVoterResponse 0 ((versionN n 0 : Nat) : Int) x) := Known.rs hK (u8s_one _)
      clear hK
      have hx := hx.mv hs9
      have hdv := hdv.mv hs9
      have hVm := hVm.mv hs9
      have hFm := hFm.mv hs9
      have hR2 := hR2.mv hs9
      have hV := hV.mv hs9
      refine ln_gE rfl rfl rfl ?_
      refine ln_callS en_10 rfl (fun u hu => by have h := spec_Same u _ _ _ _ (RSv.mv hV hu) (RSv.mv hrow hu) (by rw [show partB F_UpdateRaftVoterResponse ((versionN n 0 : Nat) : Int) (flexB 0 ((versionN n 0 : Nat) : Int)) x = writeB F_UpdateRaftVoterResponse 0 ((versionN n 0 : Nat) : Int) x from rfl, List.length_append]; omega); rwa [show partB F_UpdateRaftVoterResponse ((versionN n 0 : Nat) : Int) (flexB 0 ((versionN n 0 : Nat) : Int)) x = writeB F_UpdateRaftVoterResponse 0 ((versionN n 0 : Nat) : Int) x from rfl, decide_eq_true rfl] at h) rfl ?_
      refine ln_pv (pv_pick rfl (fun _ => rfl) (fun _ => rfl)) rfl ?_
      refine ln_pv (pv_assign rfl) rfl ?_
      refine ln_cd ?_
      refine cd_ret ?_
      refine at_retA rfl rfl (fun w hS => ?_)
      rfl
theorem fn_UpdateRaftVoterResponse (t : Vw) (n : Nat) (x : Tre) (cs : List Value) (D : List UInt8) (dv : Value) (hn : n < 256) (hdv : RSv t dv D) (hD : D.length ≤ 1048576) (hx : RT t x cs) (hw : wt x ≤ 1048576) : CS Tryz.prog 3 [.int .u8 (n : Int), dv, .agg cs.toArray] t (.bool true) := by
  have hok := ok_F_UpdateRaftVoterResponse
  exact law_UpdateRaftVoterResponse t n x cs D dv hn hdv hD hx hx.keys (smT_wt x (by omega)) (writeB_len _ _ _ x hok.1 hx.keys hw (of_decide_eq_true (by kernel_rfl)))
end K
end Go.Proofs.YtepbicjadambbabGreatDoor
