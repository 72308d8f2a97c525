import Derived.Test.YtkcdocdldebeoaaDoorVa
import Derived.Test.YtkcdocdldebeoaaDoorTe
import Derived.Test.YtkcdocdldebeoaaDoorMjs
import Derived.Test.YtkcdocdldebeoaaDoorP4
import Derived.Test.YtkcdocdldebeoaaDoorS10
set_option linter.unusedVariables false
set_option linter.unusedSimpArgs false
namespace Go.Proofs.YtkcdocdldebeoaaDoor
namespace K
open Go Go.Lib
theorem df_BrokerHeartbeatResponse (z0 z1 z2 z3 z4 z5 z6 : Value) : DfC 35 [z0, z1, z2, z3, z4, z5, z6] [z0, z1, z2, z3, .bool true, z5, z6] := by
  intro mk b o hT t hok hav
  refine ct_enter Tryd.func35 rfl Tryd.ntmps35 rfl hok hav (by rw [hT.blk]; simp) ?_
  refine cd_region ?_
  refine ln_pv (pv_move rfl) rfl ?_
  refine ln_pv (pv_nilCheck rfl) rfl ?_
  refine ln_pv (pv_fieldAddr (off := 4) Tryd.underlying93 rfl tibool.size rfl rfl rfl) rfl ?_
  refine ln_storeG1 (i := 0) (off := 4) (v := .bool true) hT rfl rfl rfl rfl rfl tibool.size (Nat.le_of_ble_eq_true rfl) ?_
  refine ln_nil ?_
  exact at_retT0 (i := 0) rfl rfl (fun w hS => ⟨rfl, rfl⟩)
theorem read_BrokerHeartbeatResponse (t : Vw) (b : Nat) (v : Int) (x : Tre) (sv : Value) (hsv : RSv t sv (partB F_BrokerHeartbeatResponse v (flexB 0 v) x)) (hk : keysT x) (h0 : 0 ≤ v) (h1 : v ≤ 2) (hok : (MsgBox b 93 (.int .i16 v :: ([.int .i32 0, .int .i16 0, .bool false, .bool true, .bool false, .map none] : List Value))).ok t.w) (hav : ∀ q ∈ (MsgBox b 93 (.int .i16 v :: ([.int .i32 0, .int .i16 0, .bool false, .bool true, .bool false, .map none] : List Value))).blk, t.av q) : CT Tryd.prog 54 [.pointer (some ⟨b, 0, none⟩), sv, .bool false] t (MsgBox b 93 (.int .i16 v :: ([.int .i32 0, .int .i16 0, .bool false, .bool true, .bool false, .map none] : List Value))) fun u r e' => r = .nilIface ∧ ∃ cells, e' = MsgBox b 93 (.int .i16 v :: cells) ∧ RMp u F_BrokerHeartbeatResponse (imT F_BrokerHeartbeatResponse v (flexB 0 v) x) cells := by
  have hv0 := h0
  have hnt : ntFs F_BrokerHeartbeatResponse = true := by kernel_rfl
  generalize hqd : flexB 0 v = q at *
  have hq0 : decide (v ≥ 0) = q := by rw [← hqd]; simp [flexB]
  obtain ⟨adS, cS, rfl, hcS⟩ := RSv.shape hsv
  refine ct_enter Tryd.func54 rfl Tryd.ntmps54 rfl hok hav (by simp [Ent.blk]) ?_
  refine cd_sq ?_
  refine rg_const rfl ?_
  refine at_cd ?_
  refine cd_sr ?_
  refine ln_pv (pv_move rfl) rfl ?_
  refine ln_callT (i := 0) (vals := [.pointer (some ⟨b, 0, none⟩)]) en_35 rfl rfl (fun u hu hok hav => df_BrokerHeartbeatResponse _ _ _ _ _ _ _ (fun w => .obj b (.cells w.toArray 93)) b 0 (Tgt.obj b 93 7) u hok hav) rfl ?_
  rintro u1 _ _ ht1 ⟨ux1, ⟨rfl, rfl⟩, hx1⟩
  refine ln_cd ?_
  refine cd_sr ?_
  refine ln_pv (pv_move rfl) rfl ?_
  refine ln_pv (pv_struct [(0, 1), (1, 1)] (l := [_, _]) rfl Tryd.underlying101 tipub_kmsg_inner_kbin_Reader (by kernel_rfl) rfl rfl) rfl ?_
  refine ln_alloc (l := [.slice none 0 0, .bool false]) tipub_kmsg_inner_kbin_Reader rfl rfl (fun br => ?_)
  refine ln_storeW (i := 0) (vs := [_, .bool false]) rfl rfl rfl rfl tipub_kmsg_inner_kbin_Reader.size rfl (by simp) ?_
  refine ln_cd ?_
  refine cd_sr ?_
  refine ln_pv (pv_move rfl) rfl ?_
  refine ln_pv (pv_nilCheck rfl) rfl ?_
  refine ln_pv (pv_fieldAddr (off := 0) (r := 0) Tryd.underlying93 rfl tiint16.size rfl rfl rfl) rfl ?_
  refine ln_pv (pv_ldo (i := 1) (v := .int .i16 v) rfl Tryd.underlying49 rfl rfl rfl) rfl ?_
  refine ln_pv (pv_assign rfl) rfl ?_
  refine ln_cd ?_
  refine cd_sq ?_
  refine rg_blank rfl rfl ?_
  refine at_cd ?_
  refine cd_sr ?_
  refine ln_pv (pv_move rfl) rfl ?_
  refine ln_pv (pv_geq rfl rfl) rfl ?_
  refine ln_pv (pv_assign rfl) rfl ?_
  rw [hq0]
  refine ln_cd ?_
  refine cd_sq ?_
  refine rg_blank rfl rfl ?_
  refine at_cd ?_
  refine cd_sr ?_
  refine ln_pv (pv_move rfl) rfl ?_
  refine ln_pv (pv_assign rfl) rfl ?_
  refine ln_cd ?_
  refine cd_sub_ (L' := [(10, .pointer (some ⟨b, 0, none⟩)), (9, .bool q), (8, .int .i16 v), (7, .pointer (some ⟨br, 0, none⟩)), (2, .bool false)]) (.put rfl (.put rfl (.put rfl (.put rfl (.put rfl .nil))))) ?_
  obtain ⟨mk, hmk⟩ : ∃ mk : List Value → Ent, mk = fun w => MsgBox b 93 (.int .i16 v :: w) := ⟨_, rfl⟩
  have hT : Tgt mk b 1 6 := by rw [hmk]; exact Tgt.behind b 93 _ 6
  refine cd_eqH (H' := [RdE br _, mk ([] ++ ([.int .i32 0, .int .i16 0, .bool false, .bool true, .bool false, .map none] : List Value))]) (by rw [hmk]; rfl) ?_
  have hR : Rs u1 [.mk 3 0 (-1) (-1) (-1) 0 0 [], .mk 2 0 (-1) (-1) (-1) 0 0 [], .mk 0 0 (-1) (-1) (-1) 0 0 [], .mk 0 0 (-1) (-1) (-1) 1 0 [], .mk 0 0 (-1) (-1) (-1) 0 0 []] [] v q x (imT F_BrokerHeartbeatResponse v q x) (tgsB q x ++ []) _ [] := Rs.start (F := F_BrokerHeartbeatResponse) (RSv.part hnt (by rw [List.append_nil]; exact RSv.mv hsv ht1)) hnt
  refine cd_sq ?_
  refine st_num (z := .int .i32 0) hR (hasB_all hv0) rfl en_64 (Fc.num (by decide) (by decide) (by decide) (fun null => sc_i32 null _ _)) rfl hT rfl Tryd.underlying93 rfl tiint32.size rfl (po_eq (show 1 = 1 + fszs _ by kernel_rfl)) tiint32.size rfl rfl (fun u1 v1 done1 ht1 hR => ?_)
  refine at_cd ?_
  refine cd_sq ?_
  refine st_num (z := .int .i16 0) hR (hasB_all hv0) rfl en_65 (Fc.num (by decide) (by decide) (by decide) (fun null => sc_i16 null _ _)) rfl hT rfl Tryd.underlying93 rfl tiint16.size rfl (po_eq (show 2 = 1 + fszs _ by kernel_rfl)) tiint16.size rfl rfl (fun u2 v2 done2 ht2 hR => ?_)
  refine at_cd ?_
  refine cd_sq ?_
  refine st_num (z := .bool false) hR (hasB_all hv0) rfl en_77 (Fc.num (by decide) (by decide) (by decide) (fun null => sc_b null _ _)) rfl hT rfl Tryd.underlying93 rfl tibool.size rfl (po_eq (show 3 = 1 + fszs _ by kernel_rfl)) tibool.size rfl rfl (fun u3 v3 done3 ht3 hR => ?_)
  refine at_cd ?_
  refine cd_sq ?_
  refine st_num (z := .bool true) hR (hasB_all hv0) rfl en_77 (Fc.num (by decide) (by decide) (by decide) (fun null => sc_b null _ _)) rfl hT rfl Tryd.underlying93 rfl tibool.size rfl (po_eq (show 4 = 1 + fszs _ by kernel_rfl)) tibool.size rfl rfl (fun u4 v4 done4 ht4 hR => ?_)
  refine at_cd ?_
  refine cd_sq ?_
  refine st_num (z := .bool false) hR (hasB_all hv0) rfl en_77 (Fc.num (by decide) (by decide) (by decide) (fun null => sc_b null _ _)) rfl hT rfl Tryd.underlying93 rfl tibool.size rfl (po_eq (show 5 = 1 + fszs _ by kernel_rfl)) tibool.size rfl rfl (fun u5 v5 done5 ht5 hR => ?_)
  refine at_cd ?_
  refine cd_sq ?_
  refine st_tags (F := F_BrokerHeartbeatResponse) hnt hR (keysT.open hk).1 rfl rfl rfl hT rfl Tryd.underlying93 rfl tipub_kmsg_Tags.size rfl (po_eq (show 6 = 1 + fszs _ by kernel_rfl)) tipub_kmsg_Tags.size rfl rfl (fun u6 v6 cs6 ht6 hv hM => ?_)
  refine at_cd ?_
  refine cd_sr ?_
  refine ln_callT (i := 0) (vals := [.pointer (some ⟨br, 0, none⟩)]) en_68 rfl rfl (fun u hu hok hav => rd_Complete u br _ hok hav) rfl ?_
  rintro u9 _ _ ht9 ⟨ux9, ⟨rfl, rfl⟩, hx9⟩
  refine ln_pv (pv_assign rfl) rfl ?_
  refine ln_cd ?_
  refine cd_ret ?_
  exact at_retT (i := 1) rfl rfl rfl (fun w hS => ⟨rfl, _, by rw [hmk], (hM.mv ht9).mv (hS.trFinT _ _)⟩)
theorem newp_BrokerHeartbeatResponse (t : Vw) (hok : HF [] t.w) (hav : ∀ q ∈ blks [], t.av q) (hnd : (blks []).Nodup) : CH Tryd.prog 31 [] t [] fun u r E' => ∃ b, r = .pointer (some ⟨b, 0, none⟩) ∧ E' = [MsgBox b 93 [.int .i16 0, .int .i32 0, .int .i16 0, .bool false, .bool true, .bool false, .map none]] := by
  refine ch_enter Tryd.func31 rfl Tryd.ntmps31 rfl hok hav hnd ?_
  refine cd_sr ?_
  refine ln_pv (pv_assign rfl) rfl ?_
  refine ln_cd ?_
  refine cd_sr ?_
  refine ln_alloc tipub_kmsg_BrokerHeartbeatResponse rfl rfl (fun b => ?_)
  refine ln_cd ?_
  refine cd_sr ?_
  refine ln_callT (i := 0) en_35 rfl rfl (fun u hu hok hav => df_BrokerHeartbeatResponse _ _ _ _ _ _ _ (fun w => .obj b (.cells w.toArray 93)) b 0 (Tgt.obj b 93 7) u hok hav) rfl ?_
  rintro u1 _ _ ht1 ⟨_, ⟨rfl, rfl⟩, _⟩
  refine ln_cd ?_
  refine cd_sr ?_
  refine ln_pv (pv_assign rfl) rfl ?_
  refine ln_cd ?_
  refine cd_ret ?_
  exact at_retHq [MsgBox b 93 [.int .i16 0, .int .i32 0, .int .i16 0, .bool false, .bool true, .bool false, .map none]] (List.Sublist.refl _) rfl rfl (fun w hS => ⟨b, rfl, rfl⟩)
theorem setd_BrokerHeartbeatResponse (t : Vw) (b : Nat) (v : Int) (hok : (MsgBox b 93 [.int .i16 0, .int .i32 0, .int .i16 0, .bool false, .bool true, .bool false, .map none]).ok t.w) (hav : ∀ q ∈ (MsgBox b 93 [.int .i16 0, .int .i32 0, .int .i16 0, .bool false, .bool true, .bool false, .map none]).blk, t.av q) : CT Tryd.prog 33 [.pointer (some ⟨b, 0, none⟩), .int .i16 v] t (MsgBox b 93 [.int .i16 0, .int .i32 0, .int .i16 0, .bool false, .bool true, .bool false, .map none]) fun u r e' => e' = MsgBox b 93 [.int .i16 v, .int .i32 0, .int .i16 0, .bool false, .bool true, .bool false, .map none] := by
  refine ct_enter Tryd.func33 rfl Tryd.ntmps33 rfl hok hav (by simp [Ent.blk]) ?_
  refine cd_region ?_
  refine ln_pv (pv_move rfl) rfl ?_
  refine ln_pv (pv_move rfl) rfl ?_
  refine ln_pv (pv_nilCheck rfl) rfl ?_
  refine ln_pv (pv_fieldAddr (off := 0) (r := 0) Tryd.underlying93 rfl (tiint16).size rfl rfl rfl) rfl ?_
  refine ln_store1 (i := 0) rfl rfl rfl rfl (tiint16).size rfl ?_
  refine ln_nil ?_
  exact at_retT0 (i := 0) rfl rfl (fun w hS => rfl)
theorem readf_BrokerHeartbeatResponse (t : Vw) (b : Nat) (v : Int) (x : Tre) (sv : Value) (hsv : RSv t sv (partB F_BrokerHeartbeatResponse v (flexB 0 v) x)) (hk : keysT x) (h0 : 0 ≤ v) (h1 : v ≤ 2) (hok : (MsgBox b 93 (.int .i16 v :: ([.int .i32 0, .int .i16 0, .bool false, .bool true, .bool false, .map none] : List Value))).ok t.w) (hav : ∀ q ∈ (MsgBox b 93 (.int .i16 v :: ([.int .i32 0, .int .i16 0, .bool false, .bool true, .bool false, .map none] : List Value))).blk, t.av q) : CT Tryd.prog 34 [.pointer (some ⟨b, 0, none⟩), sv] t (MsgBox b 93 (.int .i16 v :: ([.int .i32 0, .int .i16 0, .bool false, .bool true, .bool false, .map none] : List Value))) fun u r e' => r = .nilIface ∧ ∃ cells, e' = MsgBox b 93 (.int .i16 v :: cells) ∧ RMp u F_BrokerHeartbeatResponse (imT F_BrokerHeartbeatResponse v (flexB 0 v) x) cells := by
  refine ct_enter Tryd.func34 rfl Tryd.ntmps34 rfl hok hav (by simp [Ent.blk]) ?_
  refine cd_sr ?_
  refine ln_pv (pv_assign rfl) rfl ?_
  refine ln_cd ?_
  refine cd_sr ?_
  refine ln_pv (pv_move rfl) rfl ?_
  refine ln_pv (pv_move rfl) rfl ?_
  refine ln_callT (i := 0) en_54 rfl rfl (fun u hu hok hav => read_BrokerHeartbeatResponse u b v x sv (RSv.mv hsv hu) hk h0 h1 hok hav) rfl ?_
  rintro u2 _ _ ht2 ⟨ux, ⟨rfl, cells, rfl, hM⟩, hx⟩
  refine ln_pv (pv_assign rfl) rfl ?_
  refine ln_cd ?_
  refine cd_ret ?_
  exact at_retT (i := 0) rfl rfl rfl (fun w hS => ⟨rfl, cells, rfl, (hM.mv hx).mv (hS.trFinT _ _)⟩)
theorem tclo_BrokerHeartbeatResponse (b3 : Nat) (c0 c1 c2 c3 : Value) (us : Tags) (hk : ∀ y ∈ us, y.1 < 4294967296) (hl : ∀ y ∈ us, y.2.length ≤ 4398046511104) (hlen : us.length ≤ 1099511627776) : ∀ j (hj : j < us.length) (u : Vw) (z : Value × List Value × Nat) (tv : Value), Iv (TInv us) j u z → RSv u tv (us[j]'hj).2 → HF [TA b3 c0 c1 c2 c3 z, TB z] u.w → (∀ q ∈ blks [TA b3 c0 c1 c2 c3 z, TB z], u.av q) → (blks [TA b3 c0 c1 c2 c3 z, TB z]).Nodup → CH Tryd.prog 56 [.int .u32 ((us[j]'hj).1 : Int), tv, .pointer (some ⟨b3, 0, none⟩)] u [TA b3 c0 c1 c2 c3 z, TB z] fun u r E' => ∃ z', E' = [TA b3 c0 c1 c2 c3 z', TB z'] ∧ Iv (TInv us) (j + 1) u z' := by
  rintro j hj u ⟨vU, cs, k⟩ tv hz htv hok hav hnd
  obtain ⟨hk0, hR⟩ := hz.get
  dsimp only at hk0 hR
  subst hk0
  have hbl := hl _ (List.getElem_mem hj)
  obtain ⟨adV, cV, rfl, hleV⟩ := htv.shape
  refine ch_enter Tryd.func56 rfl Tryd.ntmps56 rfl hok hav hnd ?_
  refine cd_draw' [0] [0, 1, 2, 3, 5, 8] [0, 1, 2, 3, 4, 5, 6, 7, 8, 9] mixed (by kernel_rfl) ?_
  refine lo_pv rfl rfl (sk_js (Tr.refl _) [0] rfl) (pv_fieldAddr (off := 4) (r := 4) Tryd.underlying37 rfl (tiSl_impl_Tag).size rfl rfl rfl) rfl ?_
  refine lo_pv rfl rfl (sk_js (Tr.refl _) [0] rfl) (pv_ldo (i := 0) rfl Tryd.underlying35 rfl rfl rfl) rfl ?_
  refine lo_pv rfl rfl (sk_js (Tr.refl _) [0] rfl) (pv_move rfl) rfl ?_
  refine lo_pv rfl rfl (sk_js (Tr.refl _) [0] rfl) (pv_move rfl) rfl ?_
  refine lo_eff rfl rfl ?_
  refine ln_nilrow 5 1 ?_
  refine ln_append (i := 0) rfl Tryd.underlying22 tiuint8 rfl (by decide) rfl rfl (RS.src htv) (by simp only [maxLen]; omega) (by omega) rfl (k' := (us[k]'hj).2.length) (xs' := u8s (us[k]'hj).2) (by omega) (by simp) (fun vc hvc => ?_)
  refine ln_free1 (fun q h => by simpa using h) (fun s1 ht1 hK1 => ?_)
  have hcp : RSv s1 vc (us[k]'hj).2 := Known.rs hK1 (u8s_one _)
  clear hK1
  have htv := htv.mv ht1
  have hR := RUs.mv ht1 hR
  refine lo_back (sk_js ht1 [0] rfl) ?_
  refine lo_pv rfl rfl (sk_js ht1 [0] rfl) (pv_struct [(0, 1), (1, 1)] (l := [_, _]) rfl Tryd.underlying65 tiimpl_Tag (by kernel_rfl) rfl (by simp [okL, Nat.ble_eq, Value.cells, hvc.2])) rfl ?_
  refine lo_eff rfl rfl ?_
  refine ln_lit (vs := [_]) Tryd.underlying35 tiimpl_Tag rfl (by decide) rfl rfl rfl rfl rfl rfl (fun b1 => ?_)
  refine lo_back (sk_js ht1 [1] rfl) ?_
  refine lo_eff rfl rfl ?_
  refine ln_append (i := 2) rfl Tryd.underlying35 tiimpl_Tag rfl (by decide) rfl rfl (src_obj (j := 0) rfl rfl (by simp [flat, Value.cells, hvc.2])) (by first | omega | (simp only [maxLen]; omega)) (by first | omega | (simp only [maxLen]; omega)) rfl (k' := (k + 1)) (xs' := cs ++ [.int .u32 ((us[k]'hj).1 : Int), vc]) rfl (by simp [flat, Value.cells]) (fun v1 hv1 => ?_)
  refine lo_back (sk_js ht1 [1] rfl) ?_
  refine lo_pv rfl rfl (sk_js ht1 [1] rfl) (pv_fieldAddr (off := 4) (r := 4) Tryd.underlying37 rfl (tiSl_impl_Tag).size rfl rfl rfl) rfl ?_
  refine lo_eff rfl rfl ?_
  refine ln_store1 (i := 1) rfl rfl rfl hv1.2 (tiSl_impl_Tag).size rfl ?_
  refine lo_last (by kernel_rfl) ?_
  refine lo_nil ?_
  refine at_retH0 [TA b3 c0 c1 c2 c3 (v1, cs ++ [.int .u32 ((us[k]'hj).1 : Int), vc], k + 1), TB (v1, cs ++ [.int .u32 ((us[k]'hj).1 : Int), vc], k + 1)] (.cons _ (.cons_cons _ (.cons_cons _ .slnil))) rfl (fun w hS => ⟨(v1, cs ++ [.int .u32 ((us[k]'hj).1 : Int), vc], k + 1), rfl, fun w2 hw2 => ⟨rfl, ?_⟩⟩)
  rw [take_snoc' hj]
  have hq := (hS.trFinH _ _).trans hw2
  exact RUs.append (RUs.mv hq hR) (RUs.one_ (hk _ (List.getElem_mem hj)) (RSv.mv hcp hq))
theorem tell_BrokerHeartbeatResponse (t : Vw) (b : Nat) (v : Int) (y : Tre) (cells : List Value) (hrc : RC t b 0 (.int .i16 v :: cells)) (hM : RMp t F_BrokerHeartbeatResponse y cells) (hsrt : y.u.Pairwise (fun x z => x.1 < z.1)) (hkeys : ∀ z ∈ y.u, z.1 < 4294967296) (hlens : ∀ z ∈ y.u, z.2.length ≤ 4398046511104) (hlen : y.u.length ≤ 1099511627776) : CA Tryd.prog 36 [.pointer (some ⟨b, 0, none⟩)] t fun u r => ∃ ds, r = .agg ds.toArray ∧ RT u (.mk 0 [] false [.mk (IntKind.i32.wrap (y.at_ 0).n) [] false [] [], .mk (IntKind.i16.wrap (y.at_ 1).n) [] false [] [], .mk (if decide ((y.at_ 2).n % 2 = 1) then 1 else 0) [] false [] [], .mk (if decide ((y.at_ 3).n % 2 = 1) then 1 else 0) [] false [] [], .mk (if decide ((y.at_ 4).n % 2 = 1) then 1 else 0) [] false [] []] y.u) ds := by
  obtain ⟨fc1, mv1, hce1, hfl1, hTg1⟩ := hM
  simp only [F_BrokerHeartbeatResponse, RMl] at hfl1
  obtain ⟨x1_0, z1_0, e1_0, g1_0, x1_1, z1_1, e1_1, g1_1, x1_2, z1_2, e1_2, g1_2, x1_3, z1_3, e1_3, g1_3, x1_4, z1_4, e1_4, g1_4, hend1⟩ := hfl1
  obtain rfl := RMf_i32.1 g1_0
  obtain rfl := RMf_i16.1 g1_1
  obtain rfl := RMf_b.1 g1_2
  obtain rfl := RMf_b.1 g1_3
  obtain rfl := RMf_b.1 g1_4
  subst hend1
  subst e1_4
  subst e1_3
  subst e1_2
  subst e1_1
  subst e1_0
  rw [hce1] at hrc
  simp only [List.cons_append, List.nil_append, List.append_assoc] at hrc
  obtain ⟨lt, hMK, hRK⟩ := hTg1
  have hrt : RC1 t b 6 mv1 := hrc.sub 6 (c1 := [.int .i16 v, .int .i32 (IntKind.i32.wrap (y.at_ 0).n), .int .i16 (IntKind.i16.wrap (y.at_ 1).n), .bool (decide ((y.at_ 2).n % 2 = 1)), .bool (decide ((y.at_ 3).n % 2 = 1)), .bool (decide ((y.at_ 4).n % 2 = 1))]) (c2 := [mv1]) (c3 := []) rfl rfl
  have hrc : RCx t b 0 (.int .i16 v) _ := hrc
  refine ca_enter Tryd.func36 rfl Tryd.ntmps36 rfl ?_
  refine cd_sr ?_
  refine ln_alloc tiimpl_Tree rfl rfl (fun b1 => ?_)
  refine ln_cd ?_
  refine cd_sr ?_
  refine ln_makeN (m := 5) (l := [.int .i64 0, .slice none 0 0, .bool false, .slice none 0 0, .slice none 0 0, .int .i64 0, .slice none 0 0, .bool false, .slice none 0 0, .slice none 0 0, .int .i64 0, .slice none 0 0, .bool false, .slice none 0 0, .slice none 0 0, .int .i64 0, .slice none 0 0, .bool false, .slice none 0 0, .slice none 0 0, .int .i64 0, .slice none 0 0, .bool false, .slice none 0 0, .slice none 0 0]) Tryd.underlying34 tiimpl_Tree rfl rfl (by kernel_rfl) (by decide) (by decide) rfl (fun bL => ?_)
  refine ln_pv (pv_struct [(0, 1), (1, 1), (2, 1), (3, 1), (4, 1)] (l := [_, _, _, _, _]) rfl Tryd.underlying37 tiimpl_Tree (by kernel_rfl) rfl rfl) rfl ?_
  refine ln_alloc tiimpl_Tree rfl rfl (fun b2 => ?_)
  refine ln_storeW (i := 0) rfl rfl rfl rfl (tiimpl_Tree).size rfl (by simp []) ?_
  refine ln_cd ?_
  refine cd_dr' [0, 1, 2] [0, 1, 2, 3, 4, 5, 6, 7, 8] [0, 1, 2, 3, 4, 5, 6, 7, 8, 9] mixed (by kernel_rfl) ?_
  refine lo_pv rfl rfl (sk_js (Tr.refl _) [0, 1, 2] rfl) (pv_fieldAddr (off := 3) (r := 3) Tryd.underlying37 rfl (tiSl_impl_Tree).size rfl rfl rfl) rfl ?_
  refine lo_pv rfl rfl (sk_js (Tr.refl _) [0, 1, 2] rfl) (pv_ldo (i := 0) rfl Tryd.underlying34 rfl rfl rfl) rfl ?_
  refine lo_pv rfl rfl (sk_js (Tr.refl _) [0, 1, 2] rfl) (pv_move rfl) rfl ?_
  refine lo_pv rfl rfl (sk_js (Tr.refl _) [0, 1, 2] rfl) (pv_nilCheck rfl) rfl ?_
  refine lo_pv rfl rfl (sk_js (Tr.refl _) [0, 1, 2] rfl) (pv_fieldAddr (off := 1)  Tryd.underlying93 rfl (tiint32).size rfl rfl rfl) rfl ?_
  refine lo_pv rfl rfl (sk_js (Tr.refl _) [0, 1, 2] rfl) (pv_ldr (j := 1) hrc Tryd.underlying21 rfl rfl rfl) rfl ?_
  refine lo_pv rfl rfl (sk_js (Tr.refl _) [0, 1, 2] rfl) (pv_conv' Tryd.underlying21 Tryd.underlying2 rfl (w64_i32 _)) rfl ?_
  refine lo_pv rfl rfl (sk_js (Tr.refl _) [0, 1, 2] rfl) (pv_struct [(0, 1), (1, 1), (2, 1), (3, 1), (4, 1)] (l := [_, _, _, _, _]) rfl Tryd.underlying37 tiimpl_Tree (by kernel_rfl) rfl rfl) rfl ?_
  refine lo_pv rfl rfl (sk_js (Tr.refl _) [0, 1, 2] rfl) (pv_ixN (o := 0) (i := 0) Tryd.underlying34 (tiimpl_Tree).size rfl rfl (by decide)) rfl ?_
  refine lo_eff rfl rfl ?_
  refine ln_store (i := 1) (vs := [_, _, _, _, _]) rfl rfl rfl rfl (tiimpl_Tree).size rfl rfl rfl ?_
  refine lo_last (by kernel_rfl) ?_
  refine lo_cd ?_
  refine cd_dr' [0, 1, 2] [0, 1, 2, 3, 4, 5, 6, 7, 8] [0, 1, 2, 3, 4, 5, 6, 7, 8, 9] mixed (by kernel_rfl) ?_
  refine lo_pv rfl rfl (sk_js (Tr.refl _) [0, 1, 2] rfl) (pv_fieldAddr (off := 3) (r := 3) Tryd.underlying37 rfl (tiSl_impl_Tree).size rfl rfl rfl) rfl ?_
  refine lo_pv rfl rfl (sk_js (Tr.refl _) [0, 1, 2] rfl) (pv_ldo (i := 0) rfl Tryd.underlying34 rfl rfl rfl) rfl ?_
  refine lo_pv rfl rfl (sk_js (Tr.refl _) [0, 1, 2] rfl) (pv_move rfl) rfl ?_
  refine lo_pv rfl rfl (sk_js (Tr.refl _) [0, 1, 2] rfl) (pv_nilCheck rfl) rfl ?_
  refine lo_pv rfl rfl (sk_js (Tr.refl _) [0, 1, 2] rfl) (pv_fieldAddr (off := 2)  Tryd.underlying93 rfl (tiint16).size rfl rfl rfl) rfl ?_
  refine lo_pv rfl rfl (sk_js (Tr.refl _) [0, 1, 2] rfl) (pv_ldr (j := 2) hrc Tryd.underlying49 rfl rfl rfl) rfl ?_
  refine lo_pv rfl rfl (sk_js (Tr.refl _) [0, 1, 2] rfl) (pv_conv' Tryd.underlying49 Tryd.underlying2 rfl (w64_i16 _)) rfl ?_
  refine lo_pv rfl rfl (sk_js (Tr.refl _) [0, 1, 2] rfl) (pv_struct [(0, 1), (1, 1), (2, 1), (3, 1), (4, 1)] (l := [_, _, _, _, _]) rfl Tryd.underlying37 tiimpl_Tree (by kernel_rfl) rfl rfl) rfl ?_
  refine lo_pv rfl rfl (sk_js (Tr.refl _) [0, 1, 2] rfl) (pv_ixN (o := 0) (i := 1) Tryd.underlying34 (tiimpl_Tree).size rfl rfl (by decide)) rfl ?_
  refine lo_eff rfl rfl ?_
  refine ln_store (i := 1) (vs := [_, _, _, _, _]) rfl rfl rfl rfl (tiimpl_Tree).size rfl rfl rfl ?_
  refine lo_last (by kernel_rfl) ?_
  refine lo_cd ?_
  refine cd_dr' [0, 1, 2] [0, 1, 2, 3, 4, 5, 7] [0, 1, 2, 3, 4, 5, 6, 7, 8] mixed (by kernel_rfl) ?_
  refine lo_pv rfl rfl (sk_js (Tr.refl _) [0, 1, 2] rfl) (pv_fieldAddr (off := 3) (r := 3) Tryd.underlying37 rfl (tiSl_impl_Tree).size rfl rfl rfl) rfl ?_
  refine lo_pv rfl rfl (sk_js (Tr.refl _) [0, 1, 2] rfl) (pv_ldo (i := 0) rfl Tryd.underlying34 rfl rfl rfl) rfl ?_
  refine lo_pv rfl rfl (sk_js (Tr.refl _) [0, 1, 2] rfl) (pv_move rfl) rfl ?_
  refine lo_pv rfl rfl (sk_js (Tr.refl _) [0, 1, 2] rfl) (pv_nilCheck rfl) rfl ?_
  refine lo_pv rfl rfl (sk_js (Tr.refl _) [0, 1, 2] rfl) (pv_fieldAddr (off := 3)  Tryd.underlying93 rfl (tibool).size rfl rfl rfl) rfl ?_
  refine lo_pv rfl rfl (sk_js (Tr.refl _) [0, 1, 2] rfl) (pv_ldr (j := 3) hrc Tryd.underlying4 rfl rfl rfl) rfl ?_
  refine lo_eff rfl rfl ?_
  refine ln_callA en_55 rfl (fun u hu => bool_tree u _) rfl (fun u1 v1 ht1 hR1 => ?_)
  have hrc := hrc.mv ht1
  have hrt := hrt.mv ht1
  have hMK := hMK.mv ht1
  have hRK := hRK.mv ht1
  subst hR1
  refine lo_back (sk_js ht1 [0, 1, 2] rfl) ?_
  refine lo_pv rfl rfl (sk_js ht1 [0, 1, 2] rfl) (pv_ixN (o := 0) (i := 2) Tryd.underlying34 (tiimpl_Tree).size rfl rfl (by decide)) rfl ?_
  refine lo_eff rfl rfl ?_
  refine ln_store (i := 1) (vs := [_, _, _, _, _]) rfl rfl rfl rfl (tiimpl_Tree).size rfl rfl rfl ?_
  refine lo_last (by kernel_rfl) ?_
  refine lo_cd ?_
  refine cd_dr' [0, 1, 2] [0, 1, 2, 3, 4, 5, 7] [0, 1, 2, 3, 4, 5, 6, 7, 8] mixed (by kernel_rfl) ?_
  refine lo_pv rfl rfl (sk_js (Tr.refl _) [0, 1, 2] rfl) (pv_fieldAddr (off := 3) (r := 3) Tryd.underlying37 rfl (tiSl_impl_Tree).size rfl rfl rfl) rfl ?_
  refine lo_pv rfl rfl (sk_js (Tr.refl _) [0, 1, 2] rfl) (pv_ldo (i := 0) rfl Tryd.underlying34 rfl rfl rfl) rfl ?_
  refine lo_pv rfl rfl (sk_js (Tr.refl _) [0, 1, 2] rfl) (pv_move rfl) rfl ?_
  refine lo_pv rfl rfl (sk_js (Tr.refl _) [0, 1, 2] rfl) (pv_nilCheck rfl) rfl ?_
  refine lo_pv rfl rfl (sk_js (Tr.refl _) [0, 1, 2] rfl) (pv_fieldAddr (off := 4)  Tryd.underlying93 rfl (tibool).size rfl rfl rfl) rfl ?_
  refine lo_pv rfl rfl (sk_js (Tr.refl _) [0, 1, 2] rfl) (pv_ldr (j := 4) hrc Tryd.underlying4 rfl rfl rfl) rfl ?_
  refine lo_eff rfl rfl ?_
  refine ln_callA en_55 rfl (fun u hu => bool_tree u _) rfl (fun u2 v2 ht2 hR2 => ?_)
  have hrc := hrc.mv ht2
  have hrt := hrt.mv ht2
  have hMK := hMK.mv ht2
  have hRK := hRK.mv ht2
  subst hR2
  refine lo_back (sk_js ht2 [0, 1, 2] rfl) ?_
  refine lo_pv rfl rfl (sk_js ht2 [0, 1, 2] rfl) (pv_ixN (o := 0) (i := 3) Tryd.underlying34 (tiimpl_Tree).size rfl rfl (by decide)) rfl ?_
  refine lo_eff rfl rfl ?_
  refine ln_store (i := 1) (vs := [_, _, _, _, _]) rfl rfl rfl rfl (tiimpl_Tree).size rfl rfl rfl ?_
  refine lo_last (by kernel_rfl) ?_
  refine lo_cd ?_
  refine cd_dr' [0, 1, 2] [0, 1, 2, 3, 4, 5, 7] [0, 1, 2, 3, 4, 5, 6, 7, 8] mixed (by kernel_rfl) ?_
  refine lo_pv rfl rfl (sk_js (Tr.refl _) [0, 1, 2] rfl) (pv_fieldAddr (off := 3) (r := 3) Tryd.underlying37 rfl (tiSl_impl_Tree).size rfl rfl rfl) rfl ?_
  refine lo_pv rfl rfl (sk_js (Tr.refl _) [0, 1, 2] rfl) (pv_ldo (i := 0) rfl Tryd.underlying34 rfl rfl rfl) rfl ?_
  refine lo_pv rfl rfl (sk_js (Tr.refl _) [0, 1, 2] rfl) (pv_move rfl) rfl ?_
  refine lo_pv rfl rfl (sk_js (Tr.refl _) [0, 1, 2] rfl) (pv_nilCheck rfl) rfl ?_
  refine lo_pv rfl rfl (sk_js (Tr.refl _) [0, 1, 2] rfl) (pv_fieldAddr (off := 5)  Tryd.underlying93 rfl (tibool).size rfl rfl rfl) rfl ?_
  refine lo_pv rfl rfl (sk_js (Tr.refl _) [0, 1, 2] rfl) (pv_ldr (j := 5) hrc Tryd.underlying4 rfl rfl rfl) rfl ?_
  refine lo_eff rfl rfl ?_
  refine ln_callA en_55 rfl (fun u hu => bool_tree u _) rfl (fun u3 v3 ht3 hR3 => ?_)
  have hrc := hrc.mv ht3
  have hrt := hrt.mv ht3
  have hMK := hMK.mv ht3
  have hRK := hRK.mv ht3
  subst hR3
  refine lo_back (sk_js ht3 [0, 1, 2] rfl) ?_
  refine lo_pv rfl rfl (sk_js ht3 [0, 1, 2] rfl) (pv_ixN (o := 0) (i := 4) Tryd.underlying34 (tiimpl_Tree).size rfl rfl (by decide)) rfl ?_
  refine lo_eff rfl rfl ?_
  refine ln_store (i := 1) (vs := [_, _, _, _, _]) rfl rfl rfl rfl (tiimpl_Tree).size rfl rfl rfl ?_
  refine lo_last (by kernel_rfl) ?_
  refine lo_cd ?_
  refine cd_sr ?_
  refine ln_pv (pv_move rfl) rfl ?_
  refine ln_pv (pv_nilCheck rfl) rfl ?_
  refine ln_pv (pv_fieldAddr (off := 6)  Tryd.underlying93 rfl (tipub_kmsg_Tags).size rfl rfl rfl) rfl ?_
  refine ln_pv (pv_makeFunc (vf := #[]) (vc := #[.pointer (some ⟨b2, 0, none⟩)]) (by rw [List.map_toArray, List.map_toArray]; rfl) (by rw [List.map_toArray, List.map_toArray]; rfl)) rfl ?_
  refine ln_nilrow 65 2 ?_
  have hst := tclo_BrokerHeartbeatResponse b2 (.int .i64 0) (.slice none 0 0) (.bool false) (.slice (some ⟨bL, 0, none⟩) 5 5) y.u hkeys hlens hlen
  have hEa := fun (u : Vw) hr hm hk h0 hok hav hnd => tags_EachG (fun z => TA b2 (.int .i64 0) (.slice none 0 0) (.bool false) (.slice (some ⟨bL, 0, none⟩) 5 5) z) TB (TInv y.u) 56 (.pointer (some ⟨b2, 0, none⟩)) en_56 u b 6 mv1 lt y.u (.slice none 0 0, [], 0) hr hm hk hsrt (by omega) h0 hst hok hav hnd
  refine ln_callH (E := [TA b2 (.int .i64 0) (.slice none 0 0) (.bool false) (.slice (some ⟨bL, 0, none⟩) 5 5) (.slice none 0 0, [], 0), TB (.slice none 0 0, [], 0)]) (H0 := [_, _]) (List.Perm.swap _ _ _) en_44 rfl (fun u hu hok hav hnd => hEa u (RC1.mv hrt hu) (hMK.mv hu) (RK.mv hu hRK) (fun w hw => ⟨rfl, by rw [List.take_zero]; rfl⟩) hok hav hnd) rfl ?_
  rintro u4 v4 _ ht4 ⟨xu4, ⟨⟨vU, csU, kU⟩, rfl, hzU⟩, hxu4⟩
  obtain ⟨hkU, hRU⟩ := (hzU.mv hxu4).get
  dsimp only at hkU hRU
  subst hkU
  rw [List.take_length] at hRU
  have hrc := hrc.mv ht4
  have hrt := hrt.mv ht4
  have hMK := hMK.mv ht4
  have hRK := hRK.mv ht4
  refine ln_cd ?_
  refine cd_sr ?_
  refine ln_pv (pv_fieldAddr (off := 4) (r := 4) Tryd.underlying37 rfl (tiSl_impl_Tag).size rfl rfl rfl) rfl ?_
  refine ln_pv (pv_ldo (i := 0) rfl Tryd.underlying35 rfl rfl rfl) rfl ?_
  refine ln_callT (i := 1) en_46 rfl rfl (fun u hu hok hav => impl_sorted u vU y.u csU hsrt (by omega) (RUs.cells hRU).1 (fun i hi => by obtain ⟨c1, tv, c3, he, hc, _, _⟩ := RUs.at_ hi hRU; rw [he, List.append_assoc, List.getElem?_append_right (by omega), hc]; simp) hok hav) rfl ?_
  rintro u5 v5 _ ht5 ⟨_, rfl, _⟩
  have hrc := hrc.mv ht5
  have hrt := hrt.mv ht5
  have hMK := hMK.mv ht5
  have hRK := hRK.mv ht5
  have hRU := hRU.mv ht5
  refine ln_cd ?_
  refine cd_rowone (i := 1) rfl (fun hoU => ?_)
  refine cd_sr ?_
  refine ln_pv (pv_ldO (i := 0) rfl Tryd.underlying37 rfl (tiimpl_Tree).size rfl rfl) rfl ?_
  refine ln_storeW (i := 3) rfl rfl rfl rfl (tiimpl_Tree).size rfl (by simp [hoU]) ?_
  refine ln_cd ?_
  refine cd_ret ?_
  refine at_retC (i := 3) rfl rfl rfl Tryd.underlying37 rfl tiimpl_Tree.size rfl (fun w hS => ?_)
  have hRTs : RTs hS.fin [.mk (IntKind.i32.wrap (y.at_ 0).n) [] false [] [], .mk (IntKind.i16.wrap (y.at_ 1).n) [] false [] [], .mk (if decide ((y.at_ 2).n % 2 = 1) then 1 else 0) [] false [] [], .mk (if decide ((y.at_ 3).n % 2 = 1) then 1 else 0) [] false [] [], .mk (if decide ((y.at_ 4).n % 2 = 1) then 1 else 0) [] false [] []] _ := ⟨[.int .i64 (IntKind.i32.wrap (y.at_ 0).n), .slice none 0 0, .bool false, .slice none 0 0, .slice none 0 0], _, rfl, RT_num (I64_i32 _), ⟨[.int .i64 (IntKind.i16.wrap (y.at_ 1).n), .slice none 0 0, .bool false, .slice none 0 0, .slice none 0 0], _, rfl, RT_num (I64_i16 _), ⟨[.int .i64 (if decide ((y.at_ 2).n % 2 = 1) then 1 else 0), .slice none 0 0, .bool false, .slice none 0 0, .slice none 0 0], _, rfl, RT_num (by split <;> (simp [I64])), ⟨[.int .i64 (if decide ((y.at_ 3).n % 2 = 1) then 1 else 0), .slice none 0 0, .bool false, .slice none 0 0, .slice none 0 0], _, rfl, RT_num (by split <;> (simp [I64])), ⟨[.int .i64 (if decide ((y.at_ 4).n % 2 = 1) then 1 else 0), .slice none 0 0, .bool false, .slice none 0 0, .slice none 0 0], _, rfl, RT_num (by split <;> (simp [I64])), rfl⟩⟩⟩⟩⟩
  refine ⟨_, rfl, RT.shut ⟨_, _, _, rfl, (show I64 0 from by unfold I64; omega), RS_nil 1, ⟨_, obj_rsS hS (i := 2) (sz := 5) (m := 5) rfl rfl (RTs.cells hRTs), hRTs⟩, ⟨csU, row_rs hS (j := 1) rfl (RUs.cells hRU).2, RUs.mv hS.trFin hRU⟩⟩⟩
theorem default_BrokerHeartbeatResponse (t : Vw) (v : Int) (x : Tre) (sv : Value) (hsv : RSv t sv (partB F_BrokerHeartbeatResponse v (flexB 0 v) x)) (hk : keysT x) (h0 : 0 ≤ v) (h1 : v ≤ 2) (hB : (partB F_BrokerHeartbeatResponse v (flexB 0 v) x).length ≤ 1099511627776) : CA Tryd.prog 16 [.int .i64 v, sv] t fun u r => ∃ (ds : List Value) (told : Tre), r = .tuple #[.agg ds.toArray, .bool true] ∧ RT u told ds ∧ smT told ∧ ∀ i, (hi : i < List.length F_BrokerHeartbeatResponse) → ¬ (F_BrokerHeartbeatResponse[i]'hi).dflt = 0 → (told.at_ i).n = numK (F_BrokerHeartbeatResponse[i]'hi).kind (F_BrokerHeartbeatResponse[i]'hi).dflt := by
  refine ca_enter Tryd.func16 rfl Tryd.ntmps16 rfl ?_
  refine cd_sr ?_
  refine ln_alloc (l := [_, _, _, _, _]) tiimpl_Tree rfl rfl (fun br => ?_)
  refine ln_pv (pv_assign rfl) rfl ?_
  refine ln_cd ?_
  refine cd_sr ?_
  refine ln_callH (E := []) (H0 := [_]) (List.Perm.refl _) en_31 rfl (fun u hu hok hav hnd => newp_BrokerHeartbeatResponse u hok hav hnd) rfl ?_
  rintro u1 _ _ ht1 ⟨_, ⟨b, rfl, rfl⟩, _⟩
  refine ln_pv (pv_assign rfl) rfl ?_
  refine ln_cd ?_
  refine cd_sr ?_
  refine ln_pv (pv_move rfl) rfl ?_
  refine ln_pv (pv_move rfl) rfl ?_
  refine ln_pv (pv_conv' Tryd.underlying3 Tryd.underlying49 rfl (r := v) (wrap_i16_in (by omega) (by omega))) rfl ?_
  refine ln_callT (i := 0) en_33 rfl rfl (fun u hu hok hav => setd_BrokerHeartbeatResponse u b v hok hav) rfl ?_
  rintro u2 _ _ ht2 ⟨_, rfl, _⟩
  refine ln_cd ?_
  have hsv := hsv.mv (ht1.trans ht2)
  refine cd_seq ?_
  refine cd_sr ?_
  refine ln_pv (pv_move rfl) rfl ?_
  refine ln_pv (pv_move rfl) rfl ?_
  refine ln_nilrow 5 1 ?_
  refine ln_append (i := 0) rfl Tryd.underlying22 tiuint8 rfl (by decide) rfl rfl (RS.src hsv) (by simp only [maxLen]; omega) (by omega) rfl (k' := (partB F_BrokerHeartbeatResponse v (flexB 0 v) x).length) (xs' := u8s (partB F_BrokerHeartbeatResponse v (flexB 0 v) x)) (by omega) (by simp) (fun va hva => ?_)
  refine ln_free1 (fun q h => h.elim) (fun s3 ht3 hK => ?_)
  have hs3 : RSv s3 va (partB F_BrokerHeartbeatResponse v (flexB 0 v) x) := Known.rs hK (u8s_one _)
  clear hK
  refine ln_callT (i := 0) en_34 rfl rfl (fun u hu hok hav => readf_BrokerHeartbeatResponse u b v x _ (RSv.mv hs3 hu) hk h0 h1 hok hav) rfl ?_
  rintro u4 _ _ ht4 ⟨ux4, ⟨rfl, cells, rfl, hM⟩, hx4⟩
  have hM := hM.mv hx4
  refine ln_pv (pv_neqI Tryd.underlying57 rfl) rfl ?_
  refine ln_cd ?_
  refine cd_ff rfl ?_
  refine cd_skip ?_
  refine at_cd ?_
  obtain ⟨fc1, mv1, hce1, hfl1, hTg1⟩ := hM
  simp only [F_BrokerHeartbeatResponse, RMl] at hfl1
  obtain ⟨x1_0, z1_0, e1_0, g1_0, x1_1, z1_1, e1_1, g1_1, x1_2, z1_2, e1_2, g1_2, x1_3, z1_3, e1_3, g1_3, x1_4, z1_4, e1_4, g1_4, hend1⟩ := hfl1
  obtain rfl := RMf_i32.1 g1_0
  obtain rfl := RMf_i16.1 g1_1
  obtain rfl := RMf_b.1 g1_2
  obtain rfl := RMf_b.1 g1_3
  obtain rfl := RMf_b.1 g1_4
  subst hend1
  subst e1_4
  subst e1_3
  subst e1_2
  subst e1_1
  subst e1_0
  subst hce1
  refine cd_sr ?_
  refine ln_pv (pv_move rfl) rfl ?_
  refine ln_callT (i := 0) en_35 rfl rfl (fun u hu hok hav => df_BrokerHeartbeatResponse _ _ _ _ _ _ _ (fun w => .obj b (.cells w.toArray 93)) b 0 (Tgt.obj b 93 7) u hok hav) rfl ?_
  rintro u5 _ _ ht5 ⟨_, ⟨rfl, rfl⟩, _⟩
  refine ln_cd ?_
  have hM2 : RMp u4 F_BrokerHeartbeatResponse (.mk 0 [] false [(imT F_BrokerHeartbeatResponse v (flexB 0 v) x).at_ 0, (imT F_BrokerHeartbeatResponse v (flexB 0 v) x).at_ 1, (imT F_BrokerHeartbeatResponse v (flexB 0 v) x).at_ 2, dfF (.mk 0 0 (-1) (-1) (-1) 1 0 []), (imT F_BrokerHeartbeatResponse v (flexB 0 v) x).at_ 4] (imT F_BrokerHeartbeatResponse v (flexB 0 v) x).u) [.int .i32 (IntKind.i32.wrap ((imT F_BrokerHeartbeatResponse v (flexB 0 v) x).at_ 0).n), .int .i16 (IntKind.i16.wrap ((imT F_BrokerHeartbeatResponse v (flexB 0 v) x).at_ 1).n), .bool (decide (((imT F_BrokerHeartbeatResponse v (flexB 0 v) x).at_ 2).n % 2 = 1)), .bool true, .bool (decide (((imT F_BrokerHeartbeatResponse v (flexB 0 v) x).at_ 4).n % 2 = 1)), mv1] := ⟨[.int .i32 (IntKind.i32.wrap ((imT F_BrokerHeartbeatResponse v (flexB 0 v) x).at_ 0).n), .int .i16 (IntKind.i16.wrap ((imT F_BrokerHeartbeatResponse v (flexB 0 v) x).at_ 1).n), .bool (decide (((imT F_BrokerHeartbeatResponse v (flexB 0 v) x).at_ 2).n % 2 = 1)), .bool true, .bool (decide (((imT F_BrokerHeartbeatResponse v (flexB 0 v) x).at_ 4).n % 2 = 1))], mv1, rfl, by simp only [F_BrokerHeartbeatResponse, RMl]; exact ⟨[.int .i32 (IntKind.i32.wrap ((imT F_BrokerHeartbeatResponse v (flexB 0 v) x).at_ 0).n)], _, rfl, g1_0, ⟨[.int .i16 (IntKind.i16.wrap ((imT F_BrokerHeartbeatResponse v (flexB 0 v) x).at_ 1).n)], _, rfl, g1_1, ⟨[.bool (decide (((imT F_BrokerHeartbeatResponse v (flexB 0 v) x).at_ 2).n % 2 = 1))], _, rfl, g1_2, ⟨[.bool true], _, rfl, (show RMf _ (.mk 0 0 (-1) (-1) (-1) 1 0 []) (dfF (.mk 0 0 (-1) (-1) (-1) 1 0 [])) [.bool true] from by rw [RMf_b]; simp [dfF, tn]), ⟨[.bool (decide (((imT F_BrokerHeartbeatResponse v (flexB 0 v) x).at_ 4).n % 2 = 1))], _, rfl, g1_4, rfl⟩⟩⟩⟩⟩, hTg1⟩
  have hM2 := hM2.mv ht5
  refine cd_free1 (fun q h => h.elim) (fun s9 hs9 hK => ?_)
  have hob : OB s9 b (.cells (.int .i16 v :: [.int .i32 (IntKind.i32.wrap ((imT F_BrokerHeartbeatResponse v (flexB 0 v) x).at_ 0).n), .int .i16 (IntKind.i16.wrap ((imT F_BrokerHeartbeatResponse v (flexB 0 v) x).at_ 1).n), .bool (decide (((imT F_BrokerHeartbeatResponse v (flexB 0 v) x).at_ 2).n % 2 = 1)), .bool true, .bool (decide (((imT F_BrokerHeartbeatResponse v (flexB 0 v) x).at_ 4).n % 2 = 1)), mv1]).toArray 93) := hK
  clear hK
  have hM2 := hM2.mv hs9
  obtain ⟨f1, f2, f3, f4⟩ := imU_facts (fs := F_BrokerHeartbeatResponse) (flexB 0 v) (u := x.u) hk.open.1
  refine cd_sr ?_
  refine ln_pv (pv_move rfl) rfl ?_
  refine ln_callA en_36 rfl (fun u hu => tell_BrokerHeartbeatResponse u b v (.mk 0 [] false [(imT F_BrokerHeartbeatResponse v (flexB 0 v) x).at_ 0, (imT F_BrokerHeartbeatResponse v (flexB 0 v) x).at_ 1, (imT F_BrokerHeartbeatResponse v (flexB 0 v) x).at_ 2, dfF (.mk 0 0 (-1) (-1) (-1) 1 0 []), (imT F_BrokerHeartbeatResponse v (flexB 0 v) x).at_ 4] (imT F_BrokerHeartbeatResponse v (flexB 0 v) x).u) [.int .i32 (IntKind.i32.wrap ((imT F_BrokerHeartbeatResponse v (flexB 0 v) x).at_ 0).n), .int .i16 (IntKind.i16.wrap ((imT F_BrokerHeartbeatResponse v (flexB 0 v) x).at_ 1).n), .bool (decide (((imT F_BrokerHeartbeatResponse v (flexB 0 v) x).at_ 2).n % 2 = 1)), .bool true, .bool (decide (((imT F_BrokerHeartbeatResponse v (flexB 0 v) x).at_ 4).n % 2 = 1)), mv1] (hob.mv hu).rc (hM2.mv hu) f1 f2 f3 (Nat.le_trans f4 (by decide))) rfl (fun u7 v7 ht7 hR7 => ?_)
  obtain ⟨ds, rfl, hds⟩ := hR7
  refine ln_storeW (i := 0) rfl rfl rfl rfl tiimpl_Tree.size hds.len hds.cells ?_
  refine ln_pv (pv_assign rfl) rfl ?_
  refine ln_cd ?_
  refine cd_ret ?_
  refine at_retCA2 (i := 0) rfl rfl rfl rfl Tryd.underlying37 rfl tiimpl_Tree.size hds.len (fun w hS => ⟨ds, _, rfl, hds.mv hS.trFin, smT_num (l := [_, _, _, _, _]) (by simp) f4, fun i hi hd => ?_⟩)
  have hi : i < 5 := hi
  match i, hi with
  | 0, _ => first | exact absurd rfl hd | rfl | (simp [numK, Tre.at_, dfF, Tre.n]; done)
  | 1, _ => first | exact absurd rfl hd | rfl | (simp [numK, Tre.at_, dfF, Tre.n]; done)
  | 2, _ => first | exact absurd rfl hd | rfl | (simp [numK, Tre.at_, dfF, Tre.n]; done)
  | 3, _ => first | exact absurd rfl hd | rfl | (simp [numK, Tre.at_, dfF, Tre.n]; done)
  | 4, _ => first | exact absurd rfl hd | rfl | (simp [numK, Tre.at_, dfF, Tre.n]; done)
theorem law_BrokerHeartbeatResponse (t : Vw) (n : Nat) (x : Tre) (cs : List Value) (hn8 : n < 256) (hx : RT t x cs) (hkx : keysT x) (hsm : smT x) (hB : (writeB F_BrokerHeartbeatResponse 0 ((versionN n 2 : Nat) : Int) x).length < 1099511627776) : CS Tryd.prog 4 [.int .u8 (n : Int), .agg cs.toArray] t (.bool true) := by
  obtain ⟨sS, sL, sU, rfl, hn, hS, ⟨lc, hL, hLs⟩, hU⟩ := hx.open
  obtain ⟨adS, cS, rfl, hleS⟩ := hS.shape
  obtain ⟨adL, cL, rfl, hleL⟩ := hL.shape
  have hU0 := hU
  obtain ⟨uc, hU1, hUs⟩ := hU0
  obtain ⟨hz1, hz2, hz3, hz4⟩ := hsm.open
  have hok := ok_F_BrokerHeartbeatResponse
  have hId : ∀ g ∈ F_BrokerHeartbeatResponse, I64 g.dflt := by unfold I64; decide
  have hvn : versionN n 2 ≤ 2 := by have := Nat.mod_lt n (show 0 < 2 + 1 by omega); unfold versionN; omega
  refine CA.cs ?_
  refine ca_enter Tryd.func4 rfl Tryd.ntmps4 rfl ?_
  cases hft : fits1 x with
  | false =>
    refine cd_sr ?_
    refine ln_box rfl rfl rfl (fun b1 => ?_)
    refine ln_pv (pv_assign rfl) rfl ?_
    refine ln_cd ?_
    refine cd_seq ?_
    refine cd_sr ?_
    refine ln_pv (pv_ldO (i := 0) rfl Tryd.underlying26 rfl (tispec_Tree).size rfl rfl) rfl ?_
    refine ln_callS en_6 rfl (fun u hu => by have h := laws_zzFits1 u x _ (RT.mv hx hu) (by omega); rwa [hft] at h) rfl ?_
    refine ln_pv (pv_not rfl) rfl ?_
    refine ln_cd ?_
    refine cd_tt rfl ?_
    refine cd_sr ?_
    refine ln_pv (pv_assign rfl) rfl ?_
    refine ln_cd ?_
    refine cd_ret ?_
    refine at_retA rfl rfl (fun w hS => ?_)
    rfl
  | true =>
    refine cd_sr ?_
    refine ln_box rfl rfl rfl (fun b1 => ?_)
    refine ln_pv (pv_assign rfl) rfl ?_
    refine ln_cd ?_
    refine cd_seq ?_
    refine cd_sr ?_
    refine ln_pv (pv_ldO (i := 0) rfl Tryd.underlying26 rfl (tispec_Tree).size rfl rfl) rfl ?_
    refine ln_callS en_6 rfl (fun u hu => by have h := laws_zzFits1 u x _ (RT.mv hx hu) (by omega); rwa [hft] at h) rfl ?_
    refine ln_pv (pv_not rfl) rfl ?_
    refine ln_cd ?_
    refine cd_ff rfl ?_
    refine cd_skip ?_
    refine at_cd ?_
    refine cd_sr ?_
    refine ln_callS en_14 rfl (fun u hu => max_BrokerHeartbeatResponse u) rfl ?_
    refine ln_pv (pv_assign rfl) rfl ?_
    refine ln_cd ?_
    refine cd_seq ?_
    refine cd_sr ?_
    refine ln_pv (pv_move rfl) rfl ?_
    refine ln_pv (pv_ff (pv_lss rfl rfl) (by omega)) rfl ?_
    refine ln_cd ?_
    refine cd_ff rfl ?_
    refine cd_skip ?_
    refine at_cd ?_
    refine cd_sr ?_
    refine ln_callA en_15 rfl (fun u hu => sch_F_BrokerHeartbeatResponse u) rfl (fun u1 v1 ht1 hR1 => ?_)
    have hx := hx.mv ht1
    obtain ⟨sv, lcm, rfl, hVm, hFm⟩ := hR1
    refine ln_pv (pv_move rfl) rfl ?_
    refine ln_pv (pv_move rfl) rfl ?_
    refine ln_callS en_9 rfl (fun u hu => laws_version u n 2 hn8 (by omega)) rfl ?_
    refine ln_alloc tispec_Message rfl rfl (fun b2 => ?_)
    refine ln_storeW (i := 0) rfl rfl rfl rfl (tispec_Message).size rfl (by simp [(RS.one hVm)]) ?_
    refine ln_pv (pv_assign rfl) rfl ?_
    refine ln_cd ?_
    refine cd_sr ?_
    refine ln_pv (pv_move rfl) rfl ?_
    refine ln_pv (pv_ldO (i := 0) rfl Tryd.underlying31 rfl (tispec_Message).size rfl rfl) rfl ?_
    refine ln_pv (pv_move rfl) rfl ?_
    refine ln_pv (pv_ldO (i := 1) rfl Tryd.underlying26 rfl (tispec_Tree).size rfl rfl) rfl ?_
    refine ln_callA en_11 rfl (fun u hu => spec_Write F_BrokerHeartbeatResponse 0 hok.1 hok.2.2 u _ _ _ ((versionN n 2 : Nat) : Int) x (RS.mv hVm hu) (RFs.mv hFm hu) (RT.mv hx hu) hsm hB) rfl (fun u2 v2 ht2 hR2 => ?_)
    have hx := hx.mv ht2
    have hVm := hVm.mv ht2
    have hFm := hFm.mv ht2
    refine ln_callA en_16 rfl (fun u hu => default_BrokerHeartbeatResponse u ((versionN n 2 : Nat) : Int) x _ (RSv.mv hR2 hu) hkx (by omega) (by omega) (by rw [show partB F_BrokerHeartbeatResponse ((versionN n 2 : Nat) : Int) (flexB 0 ((versionN n 2 : Nat) : Int)) x = writeB F_BrokerHeartbeatResponse 0 ((versionN n 2 : Nat) : Int) x from rfl]; omega)) rfl (fun u3 v3 ht3 hR3 => ?_)
    have hx := hx.mv ht3
    have hVm := hVm.mv ht3
    have hFm := hFm.mv ht3
    have hR2 := hR2.mv ht3
    obtain ⟨ds, told, rfl, hT, hsmT, hDt⟩ := hR3
    refine ln_pv (pv_move rfl) rfl ?_
    refine ln_pv (pv_extract rfl rfl) rfl ?_
    refine ln_pv (pv_extract rfl rfl) rfl ?_
    refine ln_alloc tiimpl_Tree rfl rfl (fun b3 => ?_)
    refine ln_storeW (i := 0) rfl rfl rfl rfl (tiimpl_Tree).size hT.len hT.cells ?_
    refine ln_pv (pv_assign rfl) rfl ?_
    refine ln_cd ?_
    refine cd_dr' [0, 1, 2] [0, 1, 2, 3, 4, 7, 8] [0, 1, 2, 3, 4, 5, 6, 7, 8] mixed (by kernel_rfl) ?_
    refine lo_pv rfl rfl (sk_js (Tr.refl _) [0, 1, 2] rfl) (pv_move rfl) rfl ?_
    refine lo_pv rfl rfl (sk_js (Tr.refl _) [0, 1, 2] rfl) (pv_move rfl) rfl ?_
    refine lo_gt rfl rfl (sk_js (Tr.refl _) [0, 1, 2] rfl) rfl rfl rfl (pv_fieldAddr (off := 0) (r := 0) Tryd.underlying31 rfl (tiSl_spec_Field).size rfl rfl rfl) rfl ?_
    refine lo_gt rfl rfl (sk_js (Tr.refl _) [0, 1, 2] rfl) rfl rfl rfl (pv_ldo (i := 1) rfl Tryd.underlying29 rfl rfl rfl) rfl ?_
    refine lo_gt rfl rfl (sk_js (Tr.refl _) [0, 1, 2] rfl) rfl rfl rfl (pv_ldO (i := 0) rfl Tryd.underlying37 rfl (tiimpl_Tree).size rfl hT.len) rfl ?_
    refine lo_eff rfl rfl ?_
    refine ln_gE rfl rfl rfl ?_
    refine ln_callA en_13 rfl (fun u hu => laws_got told u _ (RT.mv hT hu) hsmT) rfl (fun u4 v4 ht4 hR4 => ?_)
    have hx := hx.mv ht4
    have hVm := hVm.mv ht4
    have hFm := hFm.mv ht4
    have hR2 := hR2.mv ht4
    have hT := hT.mv ht4
    obtain ⟨dg, rfl, hG⟩ := hR4
    refine lo_back (sk_js ht4 [0, 1, 2] rfl) ?_
    refine lo_eff rfl rfl ?_
    refine ln_gE rfl rfl rfl ?_
    refine ln_callS en_12 rfl (fun u hu => spec_Defaults F_BrokerHeartbeatResponse hId (by decide) u _ _ _ told (RS.mv hVm hu) (RFs.mv hFm hu) (RT.mv hG hu) hDt) rfl ?_
    refine lo_back (sk_js ht4 [0, 1, 2] rfl) ?_
    refine lo_pv rfl rfl (sk_js ht4 [0, 1, 2] rfl) (pv_pick rfl (fun _ => rfl) (fun _ => rfl)) rfl ?_
    refine lo_pv rfl rfl (sk_js ht4 [0, 1, 2] rfl) (pv_assign rfl) rfl ?_
    refine lo_cd ?_
    refine cd_ret ?_
    refine at_retA rfl rfl (fun w hS => ?_)
    rfl
theorem fn_BrokerHeartbeatResponse (t : Vw) (n : Nat) (x : Tre) (cs : List Value) (hn : n < 256) (hx : RT t x cs) (hw : wt x ≤ 1048576) : CS Tryd.prog 4 [.int .u8 (n : Int), .agg cs.toArray] t (.bool true) := by
  have hok := ok_F_BrokerHeartbeatResponse
  exact law_BrokerHeartbeatResponse t n x cs hn hx hx.keys (smT_wt x (by omega)) (writeB_len _ _ _ x hok.1 hx.keys hw (of_decide_eq_true (by kernel_rfl)))
end K
end Go.Proofs.YtkcdocdldebeoaaDoor
