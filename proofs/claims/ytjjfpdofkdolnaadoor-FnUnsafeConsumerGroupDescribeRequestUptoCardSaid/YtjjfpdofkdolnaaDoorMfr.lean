import Derived.Test.YtjjfpdofkdolnaaDoorUe
import Derived.Test.YtjjfpdofkdolnaaDoorMfs
import Derived.Test.YtjjfpdofkdolnaaDoorP4
import Derived.Test.YtjjfpdofkdolnaaDoorS10
set_option linter.unusedVariables false
set_option linter.unusedSimpArgs false
namespace Go.Proofs.YtjjfpdofkdolnaaDoor
namespace K
open Go Go.Lib
theorem df_ConsumerGroupDescribeRequest (z0 z1 z2 z3 : Value) : DfC 79 [z0, z1, z2, z3] [z0, z1, z2, z3] := by
  intro mk b o hT t hok hav
  refine ct_enter Tryd.func79 rfl Tryd.ntmps79 rfl hok hav (by rw [hT.blk]; simp) ?_
  refine cd_skip ?_
  exact at_retT0 (i := 0) rfl rfl (fun w hS => ⟨rfl, rfl⟩)
theorem readu_ConsumerGroupDescribeRequest (t : Vw) (b : Nat) (v : Int) (ub : Bool) (D : List UInt8) (sv : Value) (hsv : RSv t sv D) (hD : D.length ≤ 32767) (hG : EG t) (h0 : 0 ≤ v) (h1 : v ≤ 1) (hok : (MsgBox b 91 (.int .i16 v :: ([.slice none 0 0, .bool false, .map none] : List Value))).ok t.w) (hav : ∀ q ∈ (MsgBox b 91 (.int .i16 v :: ([.slice none 0 0, .bool false, .map none] : List Value))).blk, t.av q) : CT Tryd.prog 80 [.pointer (some ⟨b, 0, none⟩), sv, .bool ub] t (MsgBox b 91 (.int .i16 v :: ([.slice none 0 0, .bool false, .map none] : List Value))) fun u r e' => ∃ cells, e' = MsgBox b 91 (.int .i16 v :: cells) ∧ (((dcP F_ConsumerGroupDescribeRequest v (flexB 0 v) (D, false)).2.2 = true ∧ ∃ ty x, r = .iface ty x) ∨ ((dcP F_ConsumerGroupDescribeRequest v (flexB 0 v) (D, false)).2.2 = false ∧ r = .nilIface ∧ RMp u F_ConsumerGroupDescribeRequest (dcP F_ConsumerGroupDescribeRequest v (flexB 0 v) (D, false)).1 cells)) := by
  have hv0 := h0
  generalize hqd : flexB 0 v = q at *
  have hq0 : decide (v ≥ 0) = q := by rw [← hqd]; simp [flexB]
  obtain ⟨adS, cS, hsve, hcS⟩ := RSv.shape hsv
  obtain ⟨st0, hst0⟩ : ∃ z : Rst, z = (D, false) := ⟨_, rfl⟩
  rw [← hst0]
  have hsv : RSv t sv st0.1 := by rw [hst0]; exact hsv
  have hD : st0.1.length ≤ 32767 := by rw [hst0]; exact hD
  subst hsve
  refine ct_enter Tryd.func80 rfl Tryd.ntmps80 rfl hok hav (by simp [Ent.blk]) ?_
  refine cd_sq ?_
  refine rg_const rfl ?_
  refine at_cd ?_
  refine cd_sr ?_
  refine ln_pv (pv_move rfl) rfl ?_
  refine ln_callT (i := 0) (vals := [.pointer (some ⟨b, 0, none⟩)]) en_79 rfl rfl (fun u hu hok hav => df_ConsumerGroupDescribeRequest _ _ _ _ (fun w => .obj b (.cells w.toArray 91)) b 0 (Tgt.obj b 91 4) u hok hav) rfl ?_
  rintro u0 _ _ ht0 ⟨ux0, ⟨rfl, rfl⟩, hx0⟩
  refine ln_cd ?_
  refine cd_sr ?_
  refine ln_pv (pv_move rfl) rfl ?_
  refine ln_pv (pv_struct [(0, 1), (1, 1)] (l := [_, _]) rfl Tryd.underlying142 tipub_kmsg_inner_kbin_Reader (by kernel_rfl) rfl rfl) rfl ?_
  refine ln_alloc (l := [.slice none 0 0, .bool false]) tipub_kmsg_inner_kbin_Reader rfl rfl (fun br => ?_)
  refine ln_storeW (i := 0) (vs := [_, .bool false]) rfl rfl rfl rfl tipub_kmsg_inner_kbin_Reader.size rfl (by simp) ?_
  refine ln_cd ?_
  refine cd_sr ?_
  refine ln_pv (pv_move rfl) rfl ?_
  refine ln_pv (pv_nilCheck rfl) rfl ?_
  refine ln_pv (pv_fieldAddr (off := 0) (r := 0) Tryd.underlying91 rfl tiint16.size rfl rfl rfl) rfl ?_
  refine ln_pv (pv_ldo (i := 1) (v := .int .i16 v) rfl Tryd.underlying45 rfl rfl rfl) rfl ?_
  refine ln_pv (pv_assign rfl) rfl ?_
  refine ln_cd ?_
  refine cd_sq ?_
  refine rg_blank rfl rfl ?_
  refine at_cd ?_
  refine cd_sr ?_
  refine ln_pv (pv_move rfl) rfl ?_
  refine ln_pv (pv_geq rfl rfl) rfl ?_
  refine ln_pv (pv_assign rfl) rfl ?_
  rw [hq0]
  refine ln_cd ?_
  refine cd_sq ?_
  refine rg_blank rfl rfl ?_
  refine at_cd ?_
  refine cd_sr ?_
  refine ln_pv (pv_move rfl) rfl ?_
  refine ln_pv (pv_assign rfl) rfl ?_
  refine ln_cd ?_
  refine cd_sub_ (L' := [(10, .pointer (some ⟨b, 0, none⟩)), (9, .bool q), (8, .int .i16 v), (7, .pointer (some ⟨br, 0, none⟩)), (2, .bool ub)]) (.put rfl (.put rfl (.put rfl (.put rfl (.put rfl .nil))))) ?_
  obtain ⟨mk, hmk⟩ : ∃ mk : List Value → Ent, mk = fun w => MsgBox b 91 (.int .i16 v :: w) := ⟨_, rfl⟩
  have hT : Tgt mk b 1 3 := by rw [hmk]; exact Tgt.behind b 91 _ 3
  refine cd_eqH (H' := [RdX br _ st0.2, mk ([] ++ ([.slice none 0 0, .bool false, .map none] : List Value))]) (by rw [hmk, hst0]; rfl) ?_
  have hR := RsU.start (F := F_ConsumerGroupDescribeRequest) (v0 := v) (q := q) (st := st0) (z := false) (U := (dcU q (dcL F_ConsumerGroupDescribeRequest v q st0).2).1) (s := u0) (v := _) (RSv.mv hsv ht0) hD
  obtain ⟨E0, hE0⟩ : ∃ E, E = (dcL F_ConsumerGroupDescribeRequest v q st0).2 := ⟨_, rfl⟩
  rw [← hE0] at hR
  obtain ⟨Y0, hY0⟩ : ∃ Y : Tre, Y = .mk 0 [] false (dcL F_ConsumerGroupDescribeRequest v q st0).1 (dcU q E0).1 := ⟨_, rfl⟩
  have hYu0 : Y0.u = (dcU q E0).1 := by rw [hY0]; rfl
  rw [← hY0] at hR
  have hR : RsU u0 [.mk 11 0 (-1) (-1) (-1) 0 8 [], .mk 0 0 (-1) (-1) (-1) 0 0 []] [] v q Y0 st0 E0 _ [] := hR
  have hbad0 : E0.2 = true → (dcP F_ConsumerGroupDescribeRequest v q st0).2.2 = true := fun h => (dcU_sane q (dcL F_ConsumerGroupDescribeRequest v q st0).2).1 (by rw [← hE0]; exact h)
  refine cd_sq ?_
  refine st_listU (zc := ([.string .empty] : List Value)) hR (hasB_all hv0) (by decide) rfl rfl rfl hT rfl Tryd.underlying91 rfl tiSl_string.size rfl (po_eq (show 1 = 1 + fszs _ by kernel_rfl)) tiSl_string.size Tryd.underlying89 Tryd.underlying21 tistring rfl rfl (by kernel_rfl) (by decide) (by decide) (fun q hq => .inl (by simpa [Ent.blk] using hq)) rfl rfl rfl rfl rfl rfl rfl rfl rfl rfl rfl rfl rfl (fun hb1 uA1 vA1 LA1 NA1 htA1 hsA1 => ret_early (i := 0) (EG.mv hG (ht0.trans htA1)) (hsA1 _ _ rfl) rfl rfl rfl rfl (fun u r hr => ⟨_, by rw [hmk], .inl ⟨hbad0 hb1, hr⟩⟩)) (fun gb1 cap1 m1 i1 st1 u1 v1 xs1 N1 X1 hi1 hm1 hK1 ht1 hxl1 hv1 hbd1 kb1 => ?_) (fun uu1 vv1 st1 done1 hh1 hR => ?_)
  · skip
    refine cd_sq ?_
    refine rg_const rfl ?_
    refine at_cd ?_
    refine st_elemSU (sb := []) (v0 := v) rfl rfl rfl en_116 en_117 (fun h => ex_cstr h) (fun h => ex_str h) en_114 en_115 (fun h => ex_ucstr h) (fun h => ex_ustr h) hv1 rfl rfl hi1 (by rw [hxl1]) (by simp) Tryd.underlying89 tistring.size rfl rfl rfl rfl rfl rfl rfl rfl (fun u v c ht hE hv => ?_)
    exact kb1 _ _ _ ht hE hv
  refine at_cd ?_
  refine cd_sq ?_
  refine st_numU (z := .bool false) hR (hasB_all hv0) rfl en_118 fx_b rfl hT rfl Tryd.underlying91 rfl tibool.size rfl (po_eq (show 2 = 1 + fszs _ by kernel_rfl)) tibool.size rfl rfl (fun u2 v2 st2 done2 ht2 hR => ?_)
  refine at_cd ?_
  refine cd_sq ?_
  refine st_tagsU (F := F_ConsumerGroupDescribeRequest) hR hYu0 rfl rfl rfl hT rfl Tryd.underlying91 rfl tipub_kmsg_Tags.size rfl (po_eq (show 3 = 1 + fszs _ by kernel_rfl)) tipub_kmsg_Tags.size rfl rfl (fun u3 v3 cs3 ht3 hv hM => ?_)
  refine at_cd ?_
  have hfin : (dcP F_ConsumerGroupDescribeRequest v q st0).2.2 = (dcU q E0).2.2 := by rw [hE0]; rfl
  have hYP : Y0 = (dcP F_ConsumerGroupDescribeRequest v q st0).1 := by rw [hY0, hE0]; rfl
  refine cd_sr ?_
  refine ln_callT (i := 0) (vals := [.pointer (some ⟨br, 0, none⟩)]) en_113 rfl rfl (fun u hu hok hav => gx_Complete u br _ _ (EG.mv hG ((((ht0.trans hh1).trans ht2).trans ht3).trans hu)) hok hav) rfl ?_
  rintro u9 r9 _ ht9 ⟨ux9, ⟨hr9, rfl⟩, hx9⟩
  refine ln_pv (pv_assign rfl) rfl ?_
  refine ln_cd ?_
  refine cd_ret ?_
  refine at_retT (i := 1) rfl rfl rfl (fun w hS => ⟨_, by rw [hmk], ?_⟩)
  rcases hr9 with ⟨h9, rfl⟩ | ⟨h9, h8⟩
  · exact .inr ⟨by rw [hfin]; exact h9, rfl, by rw [← hYP]; exact (hM.mv ht9).mv (hS.trFinT _ _)⟩
  · exact .inl ⟨by rw [hfin]; exact h9, h8⟩
end K
end Go.Proofs.YtjjfpdofkdolnaaDoor
