import Derived.Test.YtjjfpdofkdolnaaDoorUe
import Derived.Test.YtjjfpdofkdolnaaDoorMds
import Derived.Test.YtjjfpdofkdolnaaDoorP4
import Derived.Test.YtjjfpdofkdolnaaDoorS10
set_option linter.unusedVariables false
set_option linter.unusedSimpArgs false
namespace Go.Proofs.YtjjfpdofkdolnaaDoor
namespace K
open Go Go.Lib
theorem df_CreatePartitionsRequest (z0 z1 z2 z3 z4 : Value) : DfC 97 [z0, z1, z2, z3, z4] [z0, z1, .int .i32 15000, z3, z4] := by
  intro mk b o hT t hok hav
  refine ct_enter Tryd.func97 rfl Tryd.ntmps97 rfl hok hav (by rw [hT.blk]; simp) ?_
  refine cd_region ?_
  refine ln_pv (pv_move rfl) rfl ?_
  refine ln_pv (pv_nilCheck rfl) rfl ?_
  refine ln_pv (pv_fieldAddr (off := 2) Tryd.underlying123 rfl tiint32.size rfl rfl rfl) rfl ?_
  refine ln_storeG1 (i := 0) (off := 2) (v := .int .i32 15000) hT rfl rfl rfl rfl rfl tiint32.size (Nat.le_of_ble_eq_true rfl) ?_
  refine ln_nil ?_
  exact at_retT0 (i := 0) rfl rfl (fun w hS => ⟨rfl, rfl⟩)
theorem df_CreatePartitionsRequestTopic (z0 z1 z2 z3 : Value) : DfC 135 [z0, z1, z2, z3] [z0, z1, z2, z3] := by
  intro mk b o hT t hok hav
  refine ct_enter Tryd.func135 rfl Tryd.ntmps135 rfl hok hav (by rw [hT.blk]; simp) ?_
  refine cd_skip ?_
  exact at_retT0 (i := 0) rfl rfl (fun w hS => ⟨rfl, rfl⟩)
theorem df_CreatePartitionsRequestTopicAssignment (z0 z1 : Value) : DfC 136 [z0, z1] [z0, z1] := by
  intro mk b o hT t hok hav
  refine ct_enter Tryd.func136 rfl Tryd.ntmps136 rfl hok hav (by rw [hT.blk]; simp) ?_
  refine cd_skip ?_
  exact at_retT0 (i := 0) rfl rfl (fun w hS => ⟨rfl, rfl⟩)
theorem readu_CreatePartitionsRequest (t : Vw) (b : Nat) (v : Int) (ub : Bool) (D : List UInt8) (sv : Value) (hsv : RSv t sv D) (hD : D.length ≤ 32767) (hG : EG t) (h0 : 0 ≤ v) (h1 : v ≤ 3) (hok : (MsgBox b 123 (.int .i16 v :: ([.slice none 0 0, .int .i32 15000, .bool false, .map none] : List Value))).ok t.w) (hav : ∀ q ∈ (MsgBox b 123 (.int .i16 v :: ([.slice none 0 0, .int .i32 15000, .bool false, .map none] : List Value))).blk, t.av q) : CT Tryd.prog 98 [.pointer (some ⟨b, 0, none⟩), sv, .bool ub] t (MsgBox b 123 (.int .i16 v :: ([.slice none 0 0, .int .i32 15000, .bool false, .map none] : List Value))) fun u r e' => ∃ cells, e' = MsgBox b 123 (.int .i16 v :: cells) ∧ (((dcP F_CreatePartitionsRequest v (flexB 2 v) (D, false)).2.2 = true ∧ ∃ ty x, r = .iface ty x) ∨ ((dcP F_CreatePartitionsRequest v (flexB 2 v) (D, false)).2.2 = false ∧ r = .nilIface ∧ RMp u F_CreatePartitionsRequest (dcP F_CreatePartitionsRequest v (flexB 2 v) (D, false)).1 cells)) := by
  have hv0 := h0
  generalize hqd : flexB 2 v = q at *
  have hq0 : decide (v ≥ 2) = q := by rw [← hqd]; simp [flexB]
  obtain ⟨adS, cS, hsve, hcS⟩ := RSv.shape hsv
  obtain ⟨st0, hst0⟩ : ∃ z : Rst, z = (D, false) := ⟨_, rfl⟩
  rw [← hst0]
  have hsv : RSv t sv st0.1 := by rw [hst0]; exact hsv
  have hD : st0.1.length ≤ 32767 := by rw [hst0]; exact hD
  subst hsve
  refine ct_enter Tryd.func98 rfl Tryd.ntmps98 rfl hok hav (by simp [Ent.blk]) ?_
  refine cd_sq ?_
  refine rg_const rfl ?_
  refine at_cd ?_
  refine cd_sr ?_
  refine ln_pv (pv_move rfl) rfl ?_
  refine ln_callT (i := 0) (vals := [.pointer (some ⟨b, 0, none⟩)]) en_97 rfl rfl (fun u hu hok hav => df_CreatePartitionsRequest _ _ _ _ _ (fun w => .obj b (.cells w.toArray 123)) b 0 (Tgt.obj b 123 5) u hok hav) rfl ?_
  rintro u0 _ _ ht0 ⟨ux0, ⟨rfl, rfl⟩, hx0⟩
  refine ln_cd ?_
  refine cd_sr ?_
  refine ln_pv (pv_move rfl) rfl ?_
  refine ln_pv (pv_struct [(0, 1), (1, 1)] (l := [_, _]) rfl Tryd.underlying142 tipub_kmsg_inner_kbin_Reader (by kernel_rfl) rfl rfl) rfl ?_
  refine ln_alloc (l := [.slice none 0 0, .bool false]) tipub_kmsg_inner_kbin_Reader rfl rfl (fun br => ?_)
  refine ln_storeW (i := 0) (vs := [_, .bool false]) rfl rfl rfl rfl tipub_kmsg_inner_kbin_Reader.size rfl (by simp) ?_
  refine ln_cd ?_
  refine cd_sr ?_
  refine ln_pv (pv_move rfl) rfl ?_
  refine ln_pv (pv_nilCheck rfl) rfl ?_
  refine ln_pv (pv_fieldAddr (off := 0) (r := 0) Tryd.underlying123 rfl tiint16.size rfl rfl rfl) rfl ?_
  refine ln_pv (pv_ldo (i := 1) (v := .int .i16 v) rfl Tryd.underlying45 rfl rfl rfl) rfl ?_
  refine ln_pv (pv_assign rfl) rfl ?_
  refine ln_cd ?_
  refine cd_sq ?_
  refine rg_blank rfl rfl ?_
  refine at_cd ?_
  refine cd_sr ?_
  refine ln_pv (pv_move rfl) rfl ?_
  refine ln_pv (pv_geq rfl rfl) rfl ?_
  refine ln_pv (pv_assign rfl) rfl ?_
  rw [hq0]
  refine ln_cd ?_
  refine cd_sq ?_
  refine rg_blank rfl rfl ?_
  refine at_cd ?_
  refine cd_sr ?_
  refine ln_pv (pv_move rfl) rfl ?_
  refine ln_pv (pv_assign rfl) rfl ?_
  refine ln_cd ?_
  refine cd_sub_ (L' := [(10, .pointer (some ⟨b, 0, none⟩)), (9, .bool q), (8, .int .i16 v), (7, .pointer (some ⟨br, 0, none⟩)), (2, .bool ub)]) (.put rfl (.put rfl (.put rfl (.put rfl (.put rfl .nil))))) ?_
  obtain ⟨mk, hmk⟩ : ∃ mk : List Value → Ent, mk = fun w => MsgBox b 123 (.int .i16 v :: w) := ⟨_, rfl⟩
  have hT : Tgt mk b 1 4 := by rw [hmk]; exact Tgt.behind b 123 _ 4
  refine cd_eqH (H' := [RdX br _ st0.2, mk ([] ++ ([.slice none 0 0, .int .i32 15000, .bool false, .map none] : List Value))]) (by rw [hmk, hst0]; rfl) ?_
  have hR := RsU.start (F := F_CreatePartitionsRequest) (v0 := v) (q := q) (st := st0) (z := false) (U := (dcU q (dcL F_CreatePartitionsRequest v q st0).2).1) (s := u0) (v := _) (RSv.mv hsv ht0) hD
  obtain ⟨E0, hE0⟩ : ∃ E, E = (dcL F_CreatePartitionsRequest v q st0).2 := ⟨_, rfl⟩
  rw [← hE0] at hR
  obtain ⟨Y0, hY0⟩ : ∃ Y : Tre, Y = .mk 0 [] false (dcL F_CreatePartitionsRequest v q st0).1 (dcU q E0).1 := ⟨_, rfl⟩
  have hYu0 : Y0.u = (dcU q E0).1 := by rw [hY0]; rfl
  rw [← hY0] at hR
  have hR : RsU u0 [.mk 11 0 (-1) (-1) (-1) 0 10 F_sCreatePartitionsRequestTopic, .mk 3 0 (-1) (-1) (-1) 15000 0 [], .mk 0 0 (-1) (-1) (-1) 0 0 []] [] v q Y0 st0 E0 _ [] := hR
  have hbad0 : E0.2 = true → (dcP F_CreatePartitionsRequest v q st0).2.2 = true := fun h => (dcU_sane q (dcL F_CreatePartitionsRequest v q st0).2).1 (by rw [← hE0]; exact h)
  refine cd_sq ?_
  refine st_listU (zc := ([.string .empty, .int .i32 0, .slice none 0 0, .map none] : List Value)) hR (hasB_all hv0) (by decide) rfl rfl rfl hT rfl Tryd.underlying123 rfl tiSl_kmsg_CreatePartitionsRequestTopic.size rfl (po_eq (show 1 = 1 + fszs _ by kernel_rfl)) tiSl_kmsg_CreatePartitionsRequestTopic.size Tryd.underlying121 Tryd.underlying21 tipub_kmsg_CreatePartitionsRequestTopic rfl rfl (by kernel_rfl) (by decide) (by decide) (fun q hq => .inl (by simpa [Ent.blk] using hq)) rfl rfl rfl rfl rfl rfl rfl rfl rfl rfl rfl rfl rfl (fun hb1 uA1 vA1 LA1 NA1 htA1 hsA1 => ret_early (i := 0) (EG.mv hG (ht0.trans htA1)) (hsA1 _ _ rfl) rfl rfl rfl rfl (fun u r hr => ⟨_, by rw [hmk], .inl ⟨hbad0 hb1, hr⟩⟩)) (fun gb1 cap1 m1 i1 st1 u1 v1 xs1 N1 X1 hi1 hm1 hK1 ht1 hxl1 hv1 hbd1 kb1 => ?_) (fun uu1 vv1 st1 done1 hh1 hR => ?_)
  · skip
    refine cd_sq ?_
    refine rg_ix rfl rfl hi1 Tryd.underlying121 tipub_kmsg_CreatePartitionsRequestTopic.size rfl ?_
    refine at_cd ?_
    obtain ⟨mk1, hmk1⟩ : ∃ mk : List Value → Ent, mk = fun w => .row (.slice (some ⟨gb1, 0, none⟩) m1 cap1) 128 4 m1 (xs1 ++ (w ++ (List.replicate (m1 - (i1 + 1)) ([.string .empty, .int .i32 0, .slice none 0 0, .map none] : List Value)).flatten)) := ⟨_, rfl⟩
    have hT1 : Tgt mk1 gb1 (0 + i1 * 4) 4 := by rw [hmk1]; exact (Tgt.row gb1 cap1 m1 4 128).mid _ _ _ _ (list_fits hi1 hxl1 rfl) (by rw [hxl1])
    refine cd_eqH (H' := RdX _ v1 st1.2 :: mk1 ([.string .empty, .int .i32 0, .slice none 0 0, .map none] : List Value) :: _) (by rw [hmk1]) ?_
    refine cd_sq ?_
    refine rg_dflt (z2 := ([.string .empty, .int .i32 0, .slice none 0 0, .map none] : List Value)) rfl en_135 (df_CreatePartitionsRequestTopic _ _ _ _) hT1 rfl (fun u2 ht2 => ?_)
    refine at_cd ?_
    refine cd_sq ?_
    refine rg_move rfl rfl ?_
    refine at_cd ?_
    have hR := RsU.start (F := F_sCreatePartitionsRequestTopic) (v0 := v) (q := q) (st := st1) (z := false) (U := (dcU q (dcL F_sCreatePartitionsRequestTopic v q st1).2).1) (s := u2) (v := v1) (RSv.mv hv1 ht2) hK1
    obtain ⟨E1, hE1⟩ : ∃ E, E = (dcL F_sCreatePartitionsRequestTopic v q st1).2 := ⟨_, rfl⟩
    rw [← hE1] at hR
    obtain ⟨Y1, hY1⟩ : ∃ Y : Tre, Y = .mk 0 [] false (dcL F_sCreatePartitionsRequestTopic v q st1).1 (dcU q E1).1 := ⟨_, rfl⟩
    have hYu1 : Y1.u = (dcU q E1).1 := by rw [hY1]; rfl
    rw [← hY1] at hR
    have hR : RsU u2 [.mk 8 0 (-1) (-1) (-1) 0 0 [], .mk 3 0 (-1) (-1) (-1) 0 0 [], .mk 11 0 (-1) 0 (-1) 0 10 F_sCreatePartitionsRequestTopicAssignment] [] v q Y1 st1 E1 v1 [] := hR
    have hbad1 : E1.2 = true → _ := fun h => hbad0 (hbd1 (dcE_bad (by rw [← hE1]; exact h)))
    refine cd_eqH (H' := RdX _ v1 st1.2 :: mk1 ([] ++ ([.string .empty, .int .i32 0, .slice none 0 0, .map none] : List Value)) :: _) rfl ?_
    refine cd_sq ?_
    refine cd_sq ?_
    refine rg_const rfl ?_
    refine at_cd ?_
    refine st_strU (z := .string .empty) en_114 en_115 (fun h => fx_ucstr (by decide) h) (fun h => fx_ustr (by decide) h) rfl rfl rfl hR (hasB_all hv0) rfl rfl rfl en_116 en_117 (fun h => fx_cstr (by decide) h) (fun h => fx_str (by decide) h) rfl hT1 rfl Tryd.underlying128 rfl tistring.size rfl (po_eq (show 0 = 0 + fszs _ by kernel_rfl)) tistring.size rfl rfl rfl rfl rfl (fun u3 v3 st3 done3 ht3 hR => ?_)
    refine at_cd ?_
    refine cd_sq ?_
    refine st_numU (z := .int .i32 0) hR (hasB_all hv0) rfl en_122 fx_i32 rfl hT1 rfl Tryd.underlying128 rfl tiint32.size rfl (po_eq (show 1 = 0 + fszs _ by kernel_rfl)) tiint32.size rfl rfl (fun u4 v4 st4 done4 ht4 hR => ?_)
    refine at_cd ?_
    refine cd_sq ?_
    refine st_listNU (zc := ([.slice none 0 0, .map none] : List Value)) hR (hasB_all hv0) (by decide) (by omega) rfl rfl rfl rfl hT1 rfl Tryd.underlying128 rfl tiSl_kmsg_CreatePartitionsRequestTopicAssignment.size rfl (po_eq (show 2 = 0 + fszs _ by kernel_rfl)) tiSl_kmsg_CreatePartitionsRequestTopicAssignment.size Tryd.underlying126 Tryd.underlying21 tipub_kmsg_CreatePartitionsRequestTopicAssignment rfl rfl (by kernel_rfl) (by decide) (by decide) (fun q hq => .inr (hO_push hT (fun q hq => .inl (by simpa [Ent.blk] using hq)) _ q hq)) rfl rfl rfl rfl rfl rfl rfl rfl rfl rfl rfl rfl rfl rfl rfl (fun hb5 uA5 vA5 LA5 NA5 htA5 hsA5 => ret_early (i := 1) (EG.mv hG (((((ht0.trans ht1).trans ht2).trans ht3).trans ht4).trans htA5)) (hsA5 _ _ rfl) rfl rfl rfl rfl (fun u r hr => ⟨_, by rw [hmk], .inl ⟨hbad1 hb5, hr⟩⟩)) (fun gb5 cap5 m5 i5 st5 u5 v5 xs5 N5 X5 hi5 hm5 hK5 ht5 hxl5 hv5 hbd5 kb5 => ?_) (fun uu5 vv5 st5 done5 hh5 hR => ?_)
    · skip
      refine cd_sq ?_
      refine rg_ix rfl rfl hi5 Tryd.underlying126 tipub_kmsg_CreatePartitionsRequestTopicAssignment.size rfl ?_
      refine at_cd ?_
      obtain ⟨mk5, hmk5⟩ : ∃ mk : List Value → Ent, mk = fun w => .row (.slice (some ⟨gb5, 0, none⟩) m5 cap5) 165 2 m5 (xs5 ++ (w ++ (List.replicate (m5 - (i5 + 1)) ([.slice none 0 0, .map none] : List Value)).flatten)) := ⟨_, rfl⟩
      have hT5 : Tgt mk5 gb5 (0 + i5 * 2) 2 := by rw [hmk5]; exact (Tgt.row gb5 cap5 m5 2 165).mid _ _ _ _ (list_fits hi5 hxl5 rfl) (by rw [hxl5])
      refine cd_eqH (H' := RdX _ v5 st5.2 :: mk5 ([.slice none 0 0, .map none] : List Value) :: _) (by rw [hmk5]) ?_
      refine cd_sq ?_
      refine rg_dflt (z2 := ([.slice none 0 0, .map none] : List Value)) rfl en_136 (df_CreatePartitionsRequestTopicAssignment _ _) hT5 rfl (fun u6 ht6 => ?_)
      refine at_cd ?_
      refine cd_sq ?_
      refine rg_move rfl rfl ?_
      refine at_cd ?_
      have hR := RsU.start (F := F_sCreatePartitionsRequestTopicAssignment) (v0 := v) (q := q) (st := st5) (z := false) (U := (dcU q (dcL F_sCreatePartitionsRequestTopicAssignment v q st5).2).1) (s := u6) (v := v5) (RSv.mv hv5 ht6) hK5
      obtain ⟨E5, hE5⟩ : ∃ E, E = (dcL F_sCreatePartitionsRequestTopicAssignment v q st5).2 := ⟨_, rfl⟩
      rw [← hE5] at hR
      obtain ⟨Y5, hY5⟩ : ∃ Y : Tre, Y = .mk 0 [] false (dcL F_sCreatePartitionsRequestTopicAssignment v q st5).1 (dcU q E5).1 := ⟨_, rfl⟩
      have hYu5 : Y5.u = (dcU q E5).1 := by rw [hY5]; rfl
      rw [← hY5] at hR
      have hR : RsU u6 [.mk 11 0 (-1) (-1) (-1) 0 3 []] [] v q Y5 st5 E5 v5 [] := hR
      have hbad5 : E5.2 = true → _ := fun h => hbad1 (hbd5 (dcE_bad (by rw [← hE5]; exact h)))
      refine cd_eqH (H' := RdX _ v5 st5.2 :: mk5 ([] ++ ([.slice none 0 0, .map none] : List Value)) :: _) rfl ?_
      refine cd_sq ?_
      refine st_listU (zc := ([.int .i32 0] : List Value)) hR (hasB_all hv0) (by decide) rfl rfl rfl hT5 rfl Tryd.underlying165 rfl tiSl_int32.size rfl (po_eq (show 0 = 0 + fszs _ by kernel_rfl)) tiSl_int32.size Tryd.underlying102 Tryd.underlying21 tiint32 rfl rfl (by kernel_rfl) (by decide) (by decide) (fun q hq => .inr (hO_push hT1 (fun q hq => .inr (hO_push hT (fun q hq => .inl (by simpa [Ent.blk] using hq)) _ q hq)) _ q hq)) rfl rfl rfl rfl rfl rfl rfl rfl rfl rfl rfl rfl rfl (fun hb7 uA7 vA7 LA7 NA7 htA7 hsA7 => ret_early (i := 2) (EG.mv hG (((((((ht0.trans ht1).trans ht2).trans ht3).trans ht4).trans ht5).trans ht6).trans htA7)) (hsA7 _ _ rfl) rfl rfl rfl rfl (fun u r hr => ⟨_, by rw [hmk], .inl ⟨hbad5 hb7, hr⟩⟩)) (fun gb7 cap7 m7 i7 st7 u7 v7 xs7 N7 X7 hi7 hm7 hK7 ht7 hxl7 hv7 hbd7 kb7 => ?_) (fun uu7 vv7 st7 done7 hh7 hR => ?_)
      · skip
        refine st_elemU (q := q) (ez := 1) (sb := []) (v0 := v) rfl en_122 ex_i32 hv7 rfl rfl hi7 (by rw [hxl7]) (by simp) Tryd.underlying102 tiint32.size rfl rfl (fun u v c ht hE hv => ?_)
        exact kb7 _ _ _ ht hE hv
      refine at_cd ?_
      refine st_tagsU (F := F_sCreatePartitionsRequestTopicAssignment) hR hYu5 rfl rfl rfl hT5 rfl Tryd.underlying165 rfl tipub_kmsg_Tags.size rfl (po_eq (show 1 = 0 + fszs _ by kernel_rfl)) tipub_kmsg_Tags.size rfl rfl (fun u8 v8 cs8 ht8 hv hM => ?_)
      refine at_eqH (H' := RdX _ _ _ :: .row (.slice (some ⟨gb5, 0, none⟩) m5 cap5) 165 2 m5 (xs5 ++ (_ ++ (List.replicate (m5 - (i5 + 1)) ([.slice none 0 0, .map none] : List Value)).flatten)) :: _) (by rw [hmk5]) ?_
      rw [hY5, hE5] at hM
      rw [hE5, ← dcE_part] at hv ⊢
      exact at_sub (.skip rfl (.skip rfl .rfl')) (kb5 _ _ _ ((ht6.trans hh7).trans ht8) (REl_partU hM) hv)
    refine at_cd ?_
    refine st_tagsU (F := F_sCreatePartitionsRequestTopic) hR hYu1 rfl rfl rfl hT1 rfl Tryd.underlying128 rfl tipub_kmsg_Tags.size rfl (po_eq (show 3 = 0 + fszs _ by kernel_rfl)) tipub_kmsg_Tags.size rfl rfl (fun u9 v9 cs9 ht9 hv hM => ?_)
    refine at_eqH (H' := RdX _ _ _ :: .row (.slice (some ⟨gb1, 0, none⟩) m1 cap1) 128 4 m1 (xs1 ++ (_ ++ (List.replicate (m1 - (i1 + 1)) ([.string .empty, .int .i32 0, .slice none 0 0, .map none] : List Value)).flatten)) :: _) (by rw [hmk1]) ?_
    rw [hY1, hE1] at hM
    rw [hE1, ← dcE_part] at hv ⊢
    exact at_sub (.skip rfl (.skip rfl .rfl')) (kb1 _ _ _ ((((ht2.trans ht3).trans ht4).trans hh5).trans ht9) (REl_partU hM) hv)
  refine at_cd ?_
  refine cd_sq ?_
  refine st_numU (z := .int .i32 15000) hR (hasB_all hv0) rfl en_122 fx_i32 rfl hT rfl Tryd.underlying123 rfl tiint32.size rfl (po_eq (show 2 = 1 + fszs _ by kernel_rfl)) tiint32.size rfl rfl (fun u10 v10 st10 done10 ht10 hR => ?_)
  refine at_cd ?_
  refine cd_sq ?_
  refine st_numU (z := .bool false) hR (hasB_all hv0) rfl en_118 fx_b rfl hT rfl Tryd.underlying123 rfl tibool.size rfl (po_eq (show 3 = 1 + fszs _ by kernel_rfl)) tibool.size rfl rfl (fun u11 v11 st11 done11 ht11 hR => ?_)
  refine at_cd ?_
  refine cd_sq ?_
  refine st_tagsU (F := F_CreatePartitionsRequest) hR hYu0 rfl rfl rfl hT rfl Tryd.underlying123 rfl tipub_kmsg_Tags.size rfl (po_eq (show 4 = 1 + fszs _ by kernel_rfl)) tipub_kmsg_Tags.size rfl rfl (fun u12 v12 cs12 ht12 hv hM => ?_)
  refine at_cd ?_
  have hfin : (dcP F_CreatePartitionsRequest v q st0).2.2 = (dcU q E0).2.2 := by rw [hE0]; rfl
  have hYP : Y0 = (dcP F_CreatePartitionsRequest v q st0).1 := by rw [hY0, hE0]; rfl
  refine cd_sr ?_
  refine ln_callT (i := 0) (vals := [.pointer (some ⟨br, 0, none⟩)]) en_113 rfl rfl (fun u hu hok hav => gx_Complete u br _ _ (EG.mv hG (((((ht0.trans hh1).trans ht10).trans ht11).trans ht12).trans hu)) hok hav) rfl ?_
  rintro u9 r9 _ ht9 ⟨ux9, ⟨hr9, rfl⟩, hx9⟩
  refine ln_pv (pv_assign rfl) rfl ?_
  refine ln_cd ?_
  refine cd_ret ?_
  refine at_retT (i := 1) rfl rfl rfl (fun w hS => ⟨_, by rw [hmk], ?_⟩)
  rcases hr9 with ⟨h9, rfl⟩ | ⟨h9, h8⟩
  · exact .inr ⟨by rw [hfin]; exact h9, rfl, by rw [← hYP]; exact (hM.mv ht9).mv (hS.trFinT _ _)⟩
  · exact .inl ⟨by rw [hfin]; exact h9, h8⟩
end K
end Go.Proofs.YtjjfpdofkdolnaaDoor
