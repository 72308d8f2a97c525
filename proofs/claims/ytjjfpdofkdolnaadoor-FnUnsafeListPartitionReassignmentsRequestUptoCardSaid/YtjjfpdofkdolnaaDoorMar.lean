import Derived.Test.YtjjfpdofkdolnaaDoorUe
import Derived.Test.YtjjfpdofkdolnaaDoorMas
import Derived.Test.YtjjfpdofkdolnaaDoorP4
import Derived.Test.YtjjfpdofkdolnaaDoorS10
set_option linter.unusedVariables false
set_option linter.unusedSimpArgs false
namespace Go.Proofs.YtjjfpdofkdolnaaDoor
namespace K
open Go Go.Lib
theorem df_ListPartitionReassignmentsRequest (z0 z1 z2 z3 : Value) : DfC 85 [z0, z1, z2, z3] [z0, .int .i32 60000, z2, z3] := by
  intro mk b o hT t hok hav
  refine ct_enter Tryd.func85 rfl Tryd.ntmps85 rfl hok hav (by rw [hT.blk]; simp) ?_
  refine cd_region ?_
  refine ln_pv (pv_move rfl) rfl ?_
  refine ln_pv (pv_nilCheck rfl) rfl ?_
  refine ln_pv (pv_fieldAddr (off := 1) Tryd.underlying99 rfl tiint32.size rfl rfl rfl) rfl ?_
  refine ln_storeG1 (i := 0) (off := 1) (v := .int .i32 60000) hT rfl rfl rfl rfl rfl tiint32.size (Nat.le_of_ble_eq_true rfl) ?_
  refine ln_nil ?_
  exact at_retT0 (i := 0) rfl rfl (fun w hS => ⟨rfl, rfl⟩)
theorem df_ListPartitionReassignmentsRequestTopic (z0 z1 z2 : Value) : DfC 123 [z0, z1, z2] [z0, z1, z2] := by
  intro mk b o hT t hok hav
  refine ct_enter Tryd.func123 rfl Tryd.ntmps123 rfl hok hav (by rw [hT.blk]; simp) ?_
  refine cd_skip ?_
  exact at_retT0 (i := 0) rfl rfl (fun w hS => ⟨rfl, rfl⟩)
theorem readu_ListPartitionReassignmentsRequest (t : Vw) (b : Nat) (v : Int) (ub : Bool) (D : List UInt8) (sv : Value) (hsv : RSv t sv D) (hD : D.length ≤ 32767) (hG : EG t) (h0 : 0 ≤ v) (h1 : v ≤ 0) (hok : (MsgBox b 99 (.int .i16 v :: ([.int .i32 60000, .slice none 0 0, .map none] : List Value))).ok t.w) (hav : ∀ q ∈ (MsgBox b 99 (.int .i16 v :: ([.int .i32 60000, .slice none 0 0, .map none] : List Value))).blk, t.av q) : CT Tryd.prog 86 [.pointer (some ⟨b, 0, none⟩), sv, .bool ub] t (MsgBox b 99 (.int .i16 v :: ([.int .i32 60000, .slice none 0 0, .map none] : List Value))) fun u r e' => ∃ cells, e' = MsgBox b 99 (.int .i16 v :: cells) ∧ (((dcP F_ListPartitionReassignmentsRequest v (flexB 0 v) (D, false)).2.2 = true ∧ ∃ ty x, r = .iface ty x) ∨ ((dcP F_ListPartitionReassignmentsRequest v (flexB 0 v) (D, false)).2.2 = false ∧ r = .nilIface ∧ RMp u F_ListPartitionReassignmentsRequest (dcP F_ListPartitionReassignmentsRequest v (flexB 0 v) (D, false)).1 cells)) := by
  have hv0 := h0
  generalize hqd : flexB 0 v = q at *
  have hq0 : decide (v ≥ 0) = q := by rw [← hqd]; simp [flexB]
  obtain ⟨adS, cS, hsve, hcS⟩ := RSv.shape hsv
  obtain ⟨st0, hst0⟩ : ∃ z : Rst, z = (D, false) := ⟨_, rfl⟩
  rw [← hst0]
  have hsv : RSv t sv st0.1 := by rw [hst0]; exact hsv
  have hD : st0.1.length ≤ 32767 := by rw [hst0]; exact hD
  subst hsve
  refine ct_enter Tryd.func86 rfl Tryd.ntmps86 rfl hok hav (by simp [Ent.blk]) ?_
  refine cd_sq ?_
  refine rg_const rfl ?_
  refine at_cd ?_
  refine cd_sr ?_
  refine ln_pv (pv_move rfl) rfl ?_
  refine ln_callT (i := 0) (vals := [.pointer (some ⟨b, 0, none⟩)]) en_85 rfl rfl (fun u hu hok hav => df_ListPartitionReassignmentsRequest _ _ _ _ (fun w => .obj b (.cells w.toArray 99)) b 0 (Tgt.obj b 99 4) u hok hav) rfl ?_
  rintro u0 _ _ ht0 ⟨ux0, ⟨rfl, rfl⟩, hx0⟩
  refine ln_cd ?_
  refine cd_sr ?_
  refine ln_pv (pv_move rfl) rfl ?_
  refine ln_pv (pv_struct [(0, 1), (1, 1)] (l := [_, _]) rfl Tryd.underlying142 tipub_kmsg_inner_kbin_Reader (by kernel_rfl) rfl rfl) rfl ?_
  refine ln_alloc (l := [.slice none 0 0, .bool false]) tipub_kmsg_inner_kbin_Reader rfl rfl (fun br => ?_)
  refine ln_storeW (i := 0) (vs := [_, .bool false]) rfl rfl rfl rfl tipub_kmsg_inner_kbin_Reader.size rfl (by simp) ?_
  refine ln_cd ?_
  refine cd_sr ?_
  refine ln_pv (pv_move rfl) rfl ?_
  refine ln_pv (pv_nilCheck rfl) rfl ?_
  refine ln_pv (pv_fieldAddr (off := 0) (r := 0) Tryd.underlying99 rfl tiint16.size rfl rfl rfl) rfl ?_
  refine ln_pv (pv_ldo (i := 1) (v := .int .i16 v) rfl Tryd.underlying45 rfl rfl rfl) rfl ?_
  refine ln_pv (pv_assign rfl) rfl ?_
  refine ln_cd ?_
  refine cd_sq ?_
  refine rg_blank rfl rfl ?_
  refine at_cd ?_
  refine cd_sr ?_
  refine ln_pv (pv_move rfl) rfl ?_
  refine ln_pv (pv_geq rfl rfl) rfl ?_
  refine ln_pv (pv_assign rfl) rfl ?_
  rw [hq0]
  refine ln_cd ?_
  refine cd_sq ?_
  refine rg_blank rfl rfl ?_
  refine at_cd ?_
  refine cd_sr ?_
  refine ln_pv (pv_move rfl) rfl ?_
  refine ln_pv (pv_assign rfl) rfl ?_
  refine ln_cd ?_
  refine cd_sub_ (L' := [(10, .pointer (some ⟨b, 0, none⟩)), (9, .bool q), (8, .int .i16 v), (7, .pointer (some ⟨br, 0, none⟩)), (2, .bool ub)]) (.put rfl (.put rfl (.put rfl (.put rfl (.put rfl .nil))))) ?_
  obtain ⟨mk, hmk⟩ : ∃ mk : List Value → Ent, mk = fun w => MsgBox b 99 (.int .i16 v :: w) := ⟨_, rfl⟩
  have hT : Tgt mk b 1 3 := by rw [hmk]; exact Tgt.behind b 99 _ 3
  refine cd_eqH (H' := [RdX br _ st0.2, mk ([] ++ ([.int .i32 60000, .slice none 0 0, .map none] : List Value))]) (by rw [hmk, hst0]; rfl) ?_
  have hR := RsU.start (F := F_ListPartitionReassignmentsRequest) (v0 := v) (q := q) (st := st0) (z := false) (U := (dcU q (dcL F_ListPartitionReassignmentsRequest v q st0).2).1) (s := u0) (v := _) (RSv.mv hsv ht0) hD
  obtain ⟨E0, hE0⟩ : ∃ E, E = (dcL F_ListPartitionReassignmentsRequest v q st0).2 := ⟨_, rfl⟩
  rw [← hE0] at hR
  obtain ⟨Y0, hY0⟩ : ∃ Y : Tre, Y = .mk 0 [] false (dcL F_ListPartitionReassignmentsRequest v q st0).1 (dcU q E0).1 := ⟨_, rfl⟩
  have hYu0 : Y0.u = (dcU q E0).1 := by rw [hY0]; rfl
  rw [← hY0] at hR
  have hR : RsU u0 [.mk 3 0 (-1) (-1) (-1) 60000 0 [], .mk 11 0 (-1) 0 (-1) 0 10 F_sListPartitionReassignmentsRequestTopic] [] v q Y0 st0 E0 _ [] := hR
  have hbad0 : E0.2 = true → (dcP F_ListPartitionReassignmentsRequest v q st0).2.2 = true := fun h => (dcU_sane q (dcL F_ListPartitionReassignmentsRequest v q st0).2).1 (by rw [← hE0]; exact h)
  refine cd_sq ?_
  refine st_numU (z := .int .i32 60000) hR (hasB_all hv0) rfl en_122 fx_i32 rfl hT rfl Tryd.underlying99 rfl tiint32.size rfl (po_eq (show 1 = 1 + fszs _ by kernel_rfl)) tiint32.size rfl rfl (fun u1 v1 st1 done1 ht1 hR => ?_)
  refine at_cd ?_
  refine cd_sq ?_
  refine st_listNU (zc := ([.string .empty, .slice none 0 0, .map none] : List Value)) hR (hasB_all hv0) (by decide) (by omega) rfl rfl rfl rfl hT rfl Tryd.underlying99 rfl tiSl_kmsg_ListPartitionReassignmentsRequestTopic.size rfl (po_eq (show 2 = 1 + fszs _ by kernel_rfl)) tiSl_kmsg_ListPartitionReassignmentsRequestTopic.size Tryd.underlying97 Tryd.underlying21 tipub_kmsg_ListPartitionReassignmentsRequestTopic rfl rfl (by kernel_rfl) (by decide) (by decide) (fun q hq => .inl (by simpa [Ent.blk] using hq)) rfl rfl rfl rfl rfl rfl rfl rfl rfl rfl rfl rfl rfl rfl rfl (fun hb2 uA2 vA2 LA2 NA2 htA2 hsA2 => ret_early (i := 0) (EG.mv hG ((ht0.trans ht1).trans htA2)) (hsA2 _ _ rfl) rfl rfl rfl rfl (fun u r hr => ⟨_, by rw [hmk], .inl ⟨hbad0 hb2, hr⟩⟩)) (fun gb2 cap2 m2 i2 st2 u2 v2 xs2 N2 X2 hi2 hm2 hK2 ht2 hxl2 hv2 hbd2 kb2 => ?_) (fun uu2 vv2 st2 done2 hh2 hR => ?_)
  · skip
    refine cd_sq ?_
    refine rg_ix rfl rfl hi2 Tryd.underlying97 tipub_kmsg_ListPartitionReassignmentsRequestTopic.size rfl ?_
    refine at_cd ?_
    obtain ⟨mk2, hmk2⟩ : ∃ mk : List Value → Ent, mk = fun w => .row (.slice (some ⟨gb2, 0, none⟩) m2 cap2) 104 3 m2 (xs2 ++ (w ++ (List.replicate (m2 - (i2 + 1)) ([.string .empty, .slice none 0 0, .map none] : List Value)).flatten)) := ⟨_, rfl⟩
    have hT2 : Tgt mk2 gb2 (0 + i2 * 3) 3 := by rw [hmk2]; exact (Tgt.row gb2 cap2 m2 3 104).mid _ _ _ _ (list_fits hi2 hxl2 rfl) (by rw [hxl2])
    refine cd_eqH (H' := RdX _ v2 st2.2 :: mk2 ([.string .empty, .slice none 0 0, .map none] : List Value) :: _) (by rw [hmk2]) ?_
    refine cd_sq ?_
    refine rg_dflt (z2 := ([.string .empty, .slice none 0 0, .map none] : List Value)) rfl en_123 (df_ListPartitionReassignmentsRequestTopic _ _ _) hT2 rfl (fun u3 ht3 => ?_)
    refine at_cd ?_
    refine cd_sq ?_
    refine rg_move rfl rfl ?_
    refine at_cd ?_
    have hR := RsU.start (F := F_sListPartitionReassignmentsRequestTopic) (v0 := v) (q := q) (st := st2) (z := false) (U := (dcU q (dcL F_sListPartitionReassignmentsRequestTopic v q st2).2).1) (s := u3) (v := v2) (RSv.mv hv2 ht3) hK2
    obtain ⟨E2, hE2⟩ : ∃ E, E = (dcL F_sListPartitionReassignmentsRequestTopic v q st2).2 := ⟨_, rfl⟩
    rw [← hE2] at hR
    obtain ⟨Y2, hY2⟩ : ∃ Y : Tre, Y = .mk 0 [] false (dcL F_sListPartitionReassignmentsRequestTopic v q st2).1 (dcU q E2).1 := ⟨_, rfl⟩
    have hYu2 : Y2.u = (dcU q E2).1 := by rw [hY2]; rfl
    rw [← hY2] at hR
    have hR : RsU u3 [.mk 8 0 (-1) (-1) (-1) 0 0 [], .mk 11 0 (-1) (-1) (-1) 0 3 []] [] v q Y2 st2 E2 v2 [] := hR
    have hbad2 : E2.2 = true → _ := fun h => hbad0 (hbd2 (dcE_bad (by rw [← hE2]; exact h)))
    refine cd_eqH (H' := RdX _ v2 st2.2 :: mk2 ([] ++ ([.string .empty, .slice none 0 0, .map none] : List Value)) :: _) rfl ?_
    refine cd_sq ?_
    refine cd_sq ?_
    refine rg_const rfl ?_
    refine at_cd ?_
    refine st_strU (z := .string .empty) en_114 en_115 (fun h => fx_ucstr (by decide) h) (fun h => fx_ustr (by decide) h) rfl rfl rfl hR (hasB_all hv0) rfl rfl rfl en_116 en_117 (fun h => fx_cstr (by decide) h) (fun h => fx_str (by decide) h) rfl hT2 rfl Tryd.underlying104 rfl tistring.size rfl (po_eq (show 0 = 0 + fszs _ by kernel_rfl)) tistring.size rfl rfl rfl rfl rfl (fun u4 v4 st4 done4 ht4 hR => ?_)
    refine at_cd ?_
    refine cd_sq ?_
    refine st_listU (zc := ([.int .i32 0] : List Value)) hR (hasB_all hv0) (by decide) rfl rfl rfl hT2 rfl Tryd.underlying104 rfl tiSl_int32.size rfl (po_eq (show 1 = 0 + fszs _ by kernel_rfl)) tiSl_int32.size Tryd.underlying102 Tryd.underlying21 tiint32 rfl rfl (by kernel_rfl) (by decide) (by decide) (fun q hq => .inr (hO_push hT (fun q hq => .inl (by simpa [Ent.blk] using hq)) _ q hq)) rfl rfl rfl rfl rfl rfl rfl rfl rfl rfl rfl rfl rfl (fun hb5 uA5 vA5 LA5 NA5 htA5 hsA5 => ret_early (i := 1) (EG.mv hG (((((ht0.trans ht1).trans ht2).trans ht3).trans ht4).trans htA5)) (hsA5 _ _ rfl) rfl rfl rfl rfl (fun u r hr => ⟨_, by rw [hmk], .inl ⟨hbad2 hb5, hr⟩⟩)) (fun gb5 cap5 m5 i5 st5 u5 v5 xs5 N5 X5 hi5 hm5 hK5 ht5 hxl5 hv5 hbd5 kb5 => ?_) (fun uu5 vv5 st5 done5 hh5 hR => ?_)
    · skip
      refine st_elemU (q := q) (ez := 1) (sb := []) (v0 := v) rfl en_122 ex_i32 hv5 rfl rfl hi5 (by rw [hxl5]) (by simp) Tryd.underlying102 tiint32.size rfl rfl (fun u v c ht hE hv => ?_)
      exact kb5 _ _ _ ht hE hv
    refine at_cd ?_
    refine st_tagsU (F := F_sListPartitionReassignmentsRequestTopic) hR hYu2 rfl rfl rfl hT2 rfl Tryd.underlying104 rfl tipub_kmsg_Tags.size rfl (po_eq (show 2 = 0 + fszs _ by kernel_rfl)) tipub_kmsg_Tags.size rfl rfl (fun u6 v6 cs6 ht6 hv hM => ?_)
    refine at_eqH (H' := RdX _ _ _ :: .row (.slice (some ⟨gb2, 0, none⟩) m2 cap2) 104 3 m2 (xs2 ++ (_ ++ (List.replicate (m2 - (i2 + 1)) ([.string .empty, .slice none 0 0, .map none] : List Value)).flatten)) :: _) (by rw [hmk2]) ?_
    rw [hY2, hE2] at hM
    rw [hE2, ← dcE_part] at hv ⊢
    exact at_sub (.skip rfl (.skip rfl .rfl')) (kb2 _ _ _ (((ht3.trans ht4).trans hh5).trans ht6) (REl_partU hM) hv)
  refine at_cd ?_
  refine cd_sq ?_
  refine st_tagsU (F := F_ListPartitionReassignmentsRequest) hR hYu0 rfl rfl rfl hT rfl Tryd.underlying99 rfl tipub_kmsg_Tags.size rfl (po_eq (show 3 = 1 + fszs _ by kernel_rfl)) tipub_kmsg_Tags.size rfl rfl (fun u7 v7 cs7 ht7 hv hM => ?_)
  refine at_cd ?_
  have hfin : (dcP F_ListPartitionReassignmentsRequest v q st0).2.2 = (dcU q E0).2.2 := by rw [hE0]; rfl
  have hYP : Y0 = (dcP F_ListPartitionReassignmentsRequest v q st0).1 := by rw [hY0, hE0]; rfl
  refine cd_sr ?_
  refine ln_callT (i := 0) (vals := [.pointer (some ⟨br, 0, none⟩)]) en_113 rfl rfl (fun u hu hok hav => gx_Complete u br _ _ (EG.mv hG ((((ht0.trans ht1).trans hh2).trans ht7).trans hu)) hok hav) rfl ?_
  rintro u9 r9 _ ht9 ⟨ux9, ⟨hr9, rfl⟩, hx9⟩
  refine ln_pv (pv_assign rfl) rfl ?_
  refine ln_cd ?_
  refine cd_ret ?_
  refine at_retT (i := 1) rfl rfl rfl (fun w hS => ⟨_, by rw [hmk], ?_⟩)
  rcases hr9 with ⟨h9, rfl⟩ | ⟨h9, h8⟩
  · exact .inr ⟨by rw [hfin]; exact h9, rfl, by rw [← hYP]; exact (hM.mv ht9).mv (hS.trFinT _ _)⟩
  · exact .inl ⟨by rw [hfin]; exact h9, h8⟩
end K
end Go.Proofs.YtjjfpdofkdolnaaDoor
