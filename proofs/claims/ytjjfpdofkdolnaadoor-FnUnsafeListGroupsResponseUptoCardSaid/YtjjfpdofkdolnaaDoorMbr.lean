import Derived.Test.YtjjfpdofkdolnaaDoorUe
import Derived.Test.YtjjfpdofkdolnaaDoorMbs
import Derived.Test.YtjjfpdofkdolnaaDoorP4
import Derived.Test.YtjjfpdofkdolnaaDoorS10
set_option linter.unusedVariables false
set_option linter.unusedSimpArgs false
namespace Go.Proofs.YtjjfpdofkdolnaaDoor
namespace K
open Go Go.Lib
theorem df_ListGroupsResponse (z0 z1 z2 z3 z4 : Value) : DfC 89 [z0, z1, z2, z3, z4] [z0, z1, z2, z3, z4] := by
  intro mk b o hT t hok hav
  refine ct_enter Tryd.func89 rfl Tryd.ntmps89 rfl hok hav (by rw [hT.blk]; simp) ?_
  refine cd_skip ?_
  exact at_retT0 (i := 0) rfl rfl (fun w hS => ⟨rfl, rfl⟩)
theorem df_ListGroupsResponseGroup (z0 z1 z2 z3 z4 : Value) : DfC 126 [z0, z1, z2, z3, z4] [z0, z1, z2, z3, z4] := by
  intro mk b o hT t hok hav
  refine ct_enter Tryd.func126 rfl Tryd.ntmps126 rfl hok hav (by rw [hT.blk]; simp) ?_
  refine cd_skip ?_
  exact at_retT0 (i := 0) rfl rfl (fun w hS => ⟨rfl, rfl⟩)
theorem readu_ListGroupsResponse (t : Vw) (b : Nat) (v : Int) (ub : Bool) (D : List UInt8) (sv : Value) (hsv : RSv t sv D) (hD : D.length ≤ 32767) (hG : EG t) (h0 : 0 ≤ v) (h1 : v ≤ 5) (hok : (MsgBox b 107 (.int .i16 v :: ([.int .i32 0, .int .i16 0, .slice none 0 0, .map none] : List Value))).ok t.w) (hav : ∀ q ∈ (MsgBox b 107 (.int .i16 v :: ([.int .i32 0, .int .i16 0, .slice none 0 0, .map none] : List Value))).blk, t.av q) : CT Tryd.prog 90 [.pointer (some ⟨b, 0, none⟩), sv, .bool ub] t (MsgBox b 107 (.int .i16 v :: ([.int .i32 0, .int .i16 0, .slice none 0 0, .map none] : List Value))) fun u r e' => ∃ cells, e' = MsgBox b 107 (.int .i16 v :: cells) ∧ (((dcP F_ListGroupsResponse v (flexB 3 v) (D, false)).2.2 = true ∧ ∃ ty x, r = .iface ty x) ∨ ((dcP F_ListGroupsResponse v (flexB 3 v) (D, false)).2.2 = false ∧ r = .nilIface ∧ RMp u F_ListGroupsResponse (dcP F_ListGroupsResponse v (flexB 3 v) (D, false)).1 cells)) := by
  have hv0 := h0
  generalize hqd : flexB 3 v = q at *
  have hq0 : decide (v ≥ 3) = q := by rw [← hqd]; simp [flexB]
  obtain ⟨adS, cS, hsve, hcS⟩ := RSv.shape hsv
  obtain ⟨st0, hst0⟩ : ∃ z : Rst, z = (D, false) := ⟨_, rfl⟩
  rw [← hst0]
  have hsv : RSv t sv st0.1 := by rw [hst0]; exact hsv
  have hD : st0.1.length ≤ 32767 := by rw [hst0]; exact hD
  subst hsve
  refine ct_enter Tryd.func90 rfl Tryd.ntmps90 rfl hok hav (by simp [Ent.blk]) ?_
  refine cd_sq ?_
  refine rg_const rfl ?_
  refine at_cd ?_
  refine cd_sr ?_
  refine ln_pv (pv_move rfl) rfl ?_
  refine ln_callT (i := 0) (vals := [.pointer (some ⟨b, 0, none⟩)]) en_89 rfl rfl (fun u hu hok hav => df_ListGroupsResponse _ _ _ _ _ (fun w => .obj b (.cells w.toArray 107)) b 0 (Tgt.obj b 107 5) u hok hav) rfl ?_
  rintro u0 _ _ ht0 ⟨ux0, ⟨rfl, rfl⟩, hx0⟩
  refine ln_cd ?_
  refine cd_sr ?_
  refine ln_pv (pv_move rfl) rfl ?_
  refine ln_pv (pv_struct [(0, 1), (1, 1)] (l := [_, _]) rfl Tryd.underlying142 tipub_kmsg_inner_kbin_Reader (by kernel_rfl) rfl rfl) rfl ?_
  refine ln_alloc (l := [.slice none 0 0, .bool false]) tipub_kmsg_inner_kbin_Reader rfl rfl (fun br => ?_)
  refine ln_storeW (i := 0) (vs := [_, .bool false]) rfl rfl rfl rfl tipub_kmsg_inner_kbin_Reader.size rfl (by simp) ?_
  refine ln_cd ?_
  refine cd_sr ?_
  refine ln_pv (pv_move rfl) rfl ?_
  refine ln_pv (pv_nilCheck rfl) rfl ?_
  refine ln_pv (pv_fieldAddr (off := 0) (r := 0) Tryd.underlying107 rfl tiint16.size rfl rfl rfl) rfl ?_
  refine ln_pv (pv_ldo (i := 1) (v := .int .i16 v) rfl Tryd.underlying45 rfl rfl rfl) rfl ?_
  refine ln_pv (pv_assign rfl) rfl ?_
  refine ln_cd ?_
  refine cd_sq ?_
  refine rg_blank rfl rfl ?_
  refine at_cd ?_
  refine cd_sr ?_
  refine ln_pv (pv_move rfl) rfl ?_
  refine ln_pv (pv_geq rfl rfl) rfl ?_
  refine ln_pv (pv_assign rfl) rfl ?_
  rw [hq0]
  refine ln_cd ?_
  refine cd_sq ?_
  refine rg_blank rfl rfl ?_
  refine at_cd ?_
  refine cd_sr ?_
  refine ln_pv (pv_move rfl) rfl ?_
  refine ln_pv (pv_assign rfl) rfl ?_
  refine ln_cd ?_
  refine cd_sub_ (L' := [(10, .pointer (some ⟨b, 0, none⟩)), (9, .bool q), (8, .int .i16 v), (7, .pointer (some ⟨br, 0, none⟩)), (2, .bool ub)]) (.put rfl (.put rfl (.put rfl (.put rfl (.put rfl .nil))))) ?_
  obtain ⟨mk, hmk⟩ : ∃ mk : List Value → Ent, mk = fun w => MsgBox b 107 (.int .i16 v :: w) := ⟨_, rfl⟩
  have hT : Tgt mk b 1 4 := by rw [hmk]; exact Tgt.behind b 107 _ 4
  refine cd_eqH (H' := [RdX br _ st0.2, mk ([] ++ ([.int .i32 0, .int .i16 0, .slice none 0 0, .map none] : List Value))]) (by rw [hmk, hst0]; rfl) ?_
  have hR := RsU.start (F := F_ListGroupsResponse) (v0 := v) (q := q) (st := st0) (z := false) (U := (dcU q (dcL F_ListGroupsResponse v q st0).2).1) (s := u0) (v := _) (RSv.mv hsv ht0) hD
  obtain ⟨E0, hE0⟩ : ∃ E, E = (dcL F_ListGroupsResponse v q st0).2 := ⟨_, rfl⟩
  rw [← hE0] at hR
  obtain ⟨Y0, hY0⟩ : ∃ Y : Tre, Y = .mk 0 [] false (dcL F_ListGroupsResponse v q st0).1 (dcU q E0).1 := ⟨_, rfl⟩
  have hYu0 : Y0.u = (dcU q E0).1 := by rw [hY0]; rfl
  rw [← hY0] at hR
  have hR : RsU u0 [.mk 3 1 (-1) (-1) (-1) 0 0 [], .mk 2 0 (-1) (-1) (-1) 0 0 [], .mk 11 0 (-1) (-1) (-1) 0 10 F_sListGroupsResponseGroup] [] v q Y0 st0 E0 _ [] := hR
  have hbad0 : E0.2 = true → (dcP F_ListGroupsResponse v q st0).2.2 = true := fun h => (dcU_sane q (dcL F_ListGroupsResponse v q st0).2).1 (by rw [← hE0]; exact h)
  refine cd_sq ?_
  refine st_ifU (zc := ([.int .i32 0] : List Value)) (zs := ([.int .i16 0, .slice none 0 0, .map none] : List Value)) rfl rfl hR (hasB_from) (fun u => df_i32 u (by decide)) rfl (fun u1 v1 st1 done1 ht1 hR => ?_) (fun hh kk => ?_)
  rotate_left
  · skip
    exact st_numU (z := .int .i32 0) hR hh rfl en_122 fx_i32 rfl hT rfl Tryd.underlying107 rfl tiint32.size rfl (po_eq (show 1 = 1 + fszs _ by kernel_rfl)) tiint32.size rfl rfl kk
  refine at_cd ?_
  refine cd_sq ?_
  refine st_numU (z := .int .i16 0) hR (hasB_all hv0) rfl en_125 fx_i16 rfl hT rfl Tryd.underlying107 rfl tiint16.size rfl (po_eq (show 2 = 1 + fszs _ by kernel_rfl)) tiint16.size rfl rfl (fun u2 v2 st2 done2 ht2 hR => ?_)
  refine at_cd ?_
  refine cd_sq ?_
  refine st_listU (zc := ([.string .empty, .string .empty, .string .empty, .string .empty, .map none] : List Value)) hR (hasB_all hv0) (by decide) rfl rfl rfl hT rfl Tryd.underlying107 rfl tiSl_kmsg_ListGroupsResponseGroup.size rfl (po_eq (show 3 = 1 + fszs _ by kernel_rfl)) tiSl_kmsg_ListGroupsResponseGroup.size Tryd.underlying105 Tryd.underlying21 tipub_kmsg_ListGroupsResponseGroup rfl rfl (by kernel_rfl) (by decide) (by decide) (fun q hq => .inl (by simpa [Ent.blk] using hq)) rfl rfl rfl rfl rfl rfl rfl rfl rfl rfl rfl rfl rfl (fun hb3 uA3 vA3 LA3 NA3 htA3 hsA3 => ret_early (i := 0) (EG.mv hG (((ht0.trans ht1).trans ht2).trans htA3)) (hsA3 _ _ rfl) rfl rfl rfl rfl (fun u r hr => ⟨_, by rw [hmk], .inl ⟨hbad0 hb3, hr⟩⟩)) (fun gb3 cap3 m3 i3 st3 u3 v3 xs3 N3 X3 hi3 hm3 hK3 ht3 hxl3 hv3 hbd3 kb3 => ?_) (fun uu3 vv3 st3 done3 hh3 hR => ?_)
  · skip
    refine cd_sq ?_
    refine rg_ix rfl rfl hi3 Tryd.underlying105 tipub_kmsg_ListGroupsResponseGroup.size rfl ?_
    refine at_cd ?_
    obtain ⟨mk3, hmk3⟩ : ∃ mk : List Value → Ent, mk = fun w => .row (.slice (some ⟨gb3, 0, none⟩) m3 cap3) 111 5 m3 (xs3 ++ (w ++ (List.replicate (m3 - (i3 + 1)) ([.string .empty, .string .empty, .string .empty, .string .empty, .map none] : List Value)).flatten)) := ⟨_, rfl⟩
    have hT3 : Tgt mk3 gb3 (0 + i3 * 5) 5 := by rw [hmk3]; exact (Tgt.row gb3 cap3 m3 5 111).mid _ _ _ _ (list_fits hi3 hxl3 rfl) (by rw [hxl3])
    refine cd_eqH (H' := RdX _ v3 st3.2 :: mk3 ([.string .empty, .string .empty, .string .empty, .string .empty, .map none] : List Value) :: _) (by rw [hmk3]) ?_
    refine cd_sq ?_
    refine rg_dflt (z2 := ([.string .empty, .string .empty, .string .empty, .string .empty, .map none] : List Value)) rfl en_126 (df_ListGroupsResponseGroup _ _ _ _ _) hT3 rfl (fun u4 ht4 => ?_)
    refine at_cd ?_
    refine cd_sq ?_
    refine rg_move rfl rfl ?_
    refine at_cd ?_
    have hR := RsU.start (F := F_sListGroupsResponseGroup) (v0 := v) (q := q) (st := st3) (z := false) (U := (dcU q (dcL F_sListGroupsResponseGroup v q st3).2).1) (s := u4) (v := v3) (RSv.mv hv3 ht4) hK3
    obtain ⟨E3, hE3⟩ : ∃ E, E = (dcL F_sListGroupsResponseGroup v q st3).2 := ⟨_, rfl⟩
    rw [← hE3] at hR
    obtain ⟨Y3, hY3⟩ : ∃ Y : Tre, Y = .mk 0 [] false (dcL F_sListGroupsResponseGroup v q st3).1 (dcU q E3).1 := ⟨_, rfl⟩
    have hYu3 : Y3.u = (dcU q E3).1 := by rw [hY3]; rfl
    rw [← hY3] at hR
    have hR : RsU u4 [.mk 8 0 (-1) (-1) (-1) 0 0 [], .mk 8 0 (-1) (-1) (-1) 0 0 [], .mk 8 4 (-1) (-1) (-1) 0 0 [], .mk 8 5 (-1) (-1) (-1) 0 0 []] [] v q Y3 st3 E3 v3 [] := hR
    have hbad3 : E3.2 = true → _ := fun h => hbad0 (hbd3 (dcE_bad (by rw [← hE3]; exact h)))
    refine cd_eqH (H' := RdX _ v3 st3.2 :: mk3 ([] ++ ([.string .empty, .string .empty, .string .empty, .string .empty, .map none] : List Value)) :: _) rfl ?_
    refine cd_sq ?_
    refine cd_sq ?_
    refine rg_const rfl ?_
    refine at_cd ?_
    refine st_strU (z := .string .empty) en_114 en_115 (fun h => fx_ucstr (by decide) h) (fun h => fx_ustr (by decide) h) rfl rfl rfl hR (hasB_all hv0) rfl rfl rfl en_116 en_117 (fun h => fx_cstr (by decide) h) (fun h => fx_str (by decide) h) rfl hT3 rfl Tryd.underlying111 rfl tistring.size rfl (po_eq (show 0 = 0 + fszs _ by kernel_rfl)) tistring.size rfl rfl rfl rfl rfl (fun u5 v5 st5 done5 ht5 hR => ?_)
    refine at_cd ?_
    refine cd_sq ?_
    refine cd_sq ?_
    refine rg_const rfl ?_
    refine at_cd ?_
    refine st_strU (z := .string .empty) en_114 en_115 (fun h => fx_ucstr (by decide) h) (fun h => fx_ustr (by decide) h) rfl rfl rfl hR (hasB_all hv0) rfl rfl rfl en_116 en_117 (fun h => fx_cstr (by decide) h) (fun h => fx_str (by decide) h) rfl hT3 rfl Tryd.underlying111 rfl tistring.size rfl (po_eq (show 1 = 0 + fszs _ by kernel_rfl)) tistring.size rfl rfl rfl rfl rfl (fun u6 v6 st6 done6 ht6 hR => ?_)
    refine at_cd ?_
    refine cd_sq ?_
    refine st_ifU (zc := ([.string .empty] : List Value)) (zs := ([.string .empty, .map none] : List Value)) rfl rfl hR (hasB_from) (fun u => df_str u (by decide)) rfl (fun u7 v7 st7 done7 ht7 hR => ?_) (fun hh kk => ?_)
    rotate_left
    · skip
      refine cd_sq ?_
      refine rg_const rfl ?_
      refine at_cd ?_
      exact st_strU (z := .string .empty) en_114 en_115 (fun h => fx_ucstr (by decide) h) (fun h => fx_ustr (by decide) h) rfl rfl rfl hR hh rfl rfl rfl en_116 en_117 (fun h => fx_cstr (by decide) h) (fun h => fx_str (by decide) h) rfl hT3 rfl Tryd.underlying111 rfl tistring.size rfl (po_eq (show 2 = 0 + fszs _ by kernel_rfl)) tistring.size rfl rfl rfl rfl rfl kk
    refine at_cd ?_
    refine cd_sq ?_
    refine st_ifU (zc := ([.string .empty] : List Value)) (zs := ([.map none] : List Value)) rfl rfl hR (hasB_from) (fun u => df_str u (by decide)) rfl (fun u8 v8 st8 done8 ht8 hR => ?_) (fun hh kk => ?_)
    rotate_left
    · skip
      refine cd_sq ?_
      refine rg_const rfl ?_
      refine at_cd ?_
      exact st_strU (z := .string .empty) en_114 en_115 (fun h => fx_ucstr (by decide) h) (fun h => fx_ustr (by decide) h) rfl rfl rfl hR hh rfl rfl rfl en_116 en_117 (fun h => fx_cstr (by decide) h) (fun h => fx_str (by decide) h) rfl hT3 rfl Tryd.underlying111 rfl tistring.size rfl (po_eq (show 3 = 0 + fszs _ by kernel_rfl)) tistring.size rfl rfl rfl rfl rfl kk
    refine at_cd ?_
    refine st_tagsU (F := F_sListGroupsResponseGroup) hR hYu3 rfl rfl rfl hT3 rfl Tryd.underlying111 rfl tipub_kmsg_Tags.size rfl (po_eq (show 4 = 0 + fszs _ by kernel_rfl)) tipub_kmsg_Tags.size rfl rfl (fun u9 v9 cs9 ht9 hv hM => ?_)
    refine at_eqH (H' := RdX _ _ _ :: .row (.slice (some ⟨gb3, 0, none⟩) m3 cap3) 111 5 m3 (xs3 ++ (_ ++ (List.replicate (m3 - (i3 + 1)) ([.string .empty, .string .empty, .string .empty, .string .empty, .map none] : List Value)).flatten)) :: _) (by rw [hmk3]) ?_
    rw [hY3, hE3] at hM
    rw [hE3, ← dcE_part] at hv ⊢
    exact at_sub (.skip rfl (.skip rfl .rfl')) (kb3 _ _ _ (((((ht4.trans ht5).trans ht6).trans ht7).trans ht8).trans ht9) (REl_partU hM) hv)
  refine at_cd ?_
  refine cd_sq ?_
  refine st_tagsU (F := F_ListGroupsResponse) hR hYu0 rfl rfl rfl hT rfl Tryd.underlying107 rfl tipub_kmsg_Tags.size rfl (po_eq (show 4 = 1 + fszs _ by kernel_rfl)) tipub_kmsg_Tags.size rfl rfl (fun u10 v10 cs10 ht10 hv hM => ?_)
  refine at_cd ?_
  have hfin : (dcP F_ListGroupsResponse v q st0).2.2 = (dcU q E0).2.2 := by rw [hE0]; rfl
  have hYP : Y0 = (dcP F_ListGroupsResponse v q st0).1 := by rw [hY0, hE0]; rfl
  refine cd_sr ?_
  refine ln_callT (i := 0) (vals := [.pointer (some ⟨br, 0, none⟩)]) en_113 rfl rfl (fun u hu hok hav => gx_Complete u br _ _ (EG.mv hG (((((ht0.trans ht1).trans ht2).trans hh3).trans ht10).trans hu)) hok hav) rfl ?_
  rintro u9 r9 _ ht9 ⟨ux9, ⟨hr9, rfl⟩, hx9⟩
  refine ln_pv (pv_assign rfl) rfl ?_
  refine ln_cd ?_
  refine cd_ret ?_
  refine at_retT (i := 1) rfl rfl rfl (fun w hS => ⟨_, by rw [hmk], ?_⟩)
  rcases hr9 with ⟨h9, rfl⟩ | ⟨h9, h8⟩
  · exact .inr ⟨by rw [hfin]; exact h9, rfl, by rw [← hYP]; exact (hM.mv ht9).mv (hS.trFinT _ _)⟩
  · exact .inl ⟨by rw [hfin]; exact h9, h8⟩
end K
end Go.Proofs.YtjjfpdofkdolnaaDoor
