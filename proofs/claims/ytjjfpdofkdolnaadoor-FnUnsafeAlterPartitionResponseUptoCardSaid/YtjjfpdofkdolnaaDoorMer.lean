import Derived.Test.YtjjfpdofkdolnaaDoorUe
import Derived.Test.YtjjfpdofkdolnaaDoorMes
import Derived.Test.YtjjfpdofkdolnaaDoorP4
import Derived.Test.YtjjfpdofkdolnaaDoorS10
set_option linter.unusedVariables false
set_option linter.unusedSimpArgs false
namespace Go.Proofs.YtjjfpdofkdolnaaDoor
namespace K
open Go Go.Lib
theorem df_AlterPartitionResponse (z0 z1 z2 z3 z4 : Value) : DfC 101 [z0, z1, z2, z3, z4] [z0, z1, z2, z3, z4] := by
  intro mk b o hT t hok hav
  refine ct_enter Tryd.func101 rfl Tryd.ntmps101 rfl hok hav (by rw [hT.blk]; simp) ?_
  refine cd_skip ?_
  exact at_retT0 (i := 0) rfl rfl (fun w hS => ⟨rfl, rfl⟩)
theorem df_AlterPartitionResponseTopic (z0 z1 z2 z3 z4 z5 z6 z7 z8 z9 z10 z11 z12 z13 z14 z15 z16 z17 z18 : Value) : DfC 139 [z0, z1, z2, z3, z4, z5, z6, z7, z8, z9, z10, z11, z12, z13, z14, z15, z16, z17, z18] [z0, z1, z2, z3, z4, z5, z6, z7, z8, z9, z10, z11, z12, z13, z14, z15, z16, z17, z18] := by
  intro mk b o hT t hok hav
  refine ct_enter Tryd.func139 rfl Tryd.ntmps139 rfl hok hav (by rw [hT.blk]; simp) ?_
  refine cd_skip ?_
  exact at_retT0 (i := 0) rfl rfl (fun w hS => ⟨rfl, rfl⟩)
theorem df_AlterPartitionResponseTopicPartition (z0 z1 z2 z3 z4 z5 z6 z7 : Value) : DfC 140 [z0, z1, z2, z3, z4, z5, z6, z7] [z0, z1, z2, z3, z4, z5, z6, z7] := by
  intro mk b o hT t hok hav
  refine ct_enter Tryd.func140 rfl Tryd.ntmps140 rfl hok hav (by rw [hT.blk]; simp) ?_
  refine cd_skip ?_
  exact at_retT0 (i := 0) rfl rfl (fun w hS => ⟨rfl, rfl⟩)
theorem readu_AlterPartitionResponse (t : Vw) (b : Nat) (v : Int) (ub : Bool) (D : List UInt8) (sv : Value) (hsv : RSv t sv D) (hD : D.length ≤ 32767) (hG : EG t) (h0 : 0 ≤ v) (h1 : v ≤ 3) (hok : (MsgBox b 131 (.int .i16 v :: ([.int .i32 0, .int .i16 0, .slice none 0 0, .map none] : List Value))).ok t.w) (hav : ∀ q ∈ (MsgBox b 131 (.int .i16 v :: ([.int .i32 0, .int .i16 0, .slice none 0 0, .map none] : List Value))).blk, t.av q) : CT Tryd.prog 102 [.pointer (some ⟨b, 0, none⟩), sv, .bool ub] t (MsgBox b 131 (.int .i16 v :: ([.int .i32 0, .int .i16 0, .slice none 0 0, .map none] : List Value))) fun u r e' => ∃ cells, e' = MsgBox b 131 (.int .i16 v :: cells) ∧ (((dcP F_AlterPartitionResponse v (flexB 0 v) (D, false)).2.2 = true ∧ ∃ ty x, r = .iface ty x) ∨ ((dcP F_AlterPartitionResponse v (flexB 0 v) (D, false)).2.2 = false ∧ r = .nilIface ∧ RMp u F_AlterPartitionResponse (dcP F_AlterPartitionResponse v (flexB 0 v) (D, false)).1 cells)) := by
  have hv0 := h0
  generalize hqd : flexB 0 v = q at *
  have hq0 : decide (v ≥ 0) = q := by rw [← hqd]; simp [flexB]
  obtain ⟨adS, cS, hsve, hcS⟩ := RSv.shape hsv
  obtain ⟨st0, hst0⟩ : ∃ z : Rst, z = (D, false) := ⟨_, rfl⟩
  rw [← hst0]
  have hsv : RSv t sv st0.1 := by rw [hst0]; exact hsv
  have hD : st0.1.length ≤ 32767 := by rw [hst0]; exact hD
  subst hsve
  refine ct_enter Tryd.func102 rfl Tryd.ntmps102 rfl hok hav (by simp [Ent.blk]) ?_
  refine cd_sq ?_
  refine rg_const rfl ?_
  refine at_cd ?_
  refine cd_sr ?_
  refine ln_pv (pv_move rfl) rfl ?_
  refine ln_callT (i := 0) (vals := [.pointer (some ⟨b, 0, none⟩)]) en_101 rfl rfl (fun u hu hok hav => df_AlterPartitionResponse _ _ _ _ _ (fun w => .obj b (.cells w.toArray 131)) b 0 (Tgt.obj b 131 5) u hok hav) rfl ?_
  rintro u0 _ _ ht0 ⟨ux0, ⟨rfl, rfl⟩, hx0⟩
  refine ln_cd ?_
  refine cd_sr ?_
  refine ln_pv (pv_move rfl) rfl ?_
  refine ln_pv (pv_struct [(0, 1), (1, 1)] (l := [_, _]) rfl Tryd.underlying142 tipub_kmsg_inner_kbin_Reader (by kernel_rfl) rfl rfl) rfl ?_
  refine ln_alloc (l := [.slice none 0 0, .bool false]) tipub_kmsg_inner_kbin_Reader rfl rfl (fun br => ?_)
  refine ln_storeW (i := 0) (vs := [_, .bool false]) rfl rfl rfl rfl tipub_kmsg_inner_kbin_Reader.size rfl (by simp) ?_
  refine ln_cd ?_
  refine cd_sr ?_
  refine ln_pv (pv_move rfl) rfl ?_
  refine ln_pv (pv_nilCheck rfl) rfl ?_
  refine ln_pv (pv_fieldAddr (off := 0) (r := 0) Tryd.underlying131 rfl tiint16.size rfl rfl rfl) rfl ?_
  refine ln_pv (pv_ldo (i := 1) (v := .int .i16 v) rfl Tryd.underlying45 rfl rfl rfl) rfl ?_
  refine ln_pv (pv_assign rfl) rfl ?_
  refine ln_cd ?_
  refine cd_sq ?_
  refine rg_blank rfl rfl ?_
  refine at_cd ?_
  refine cd_sr ?_
  refine ln_pv (pv_move rfl) rfl ?_
  refine ln_pv (pv_geq rfl rfl) rfl ?_
  refine ln_pv (pv_assign rfl) rfl ?_
  rw [hq0]
  refine ln_cd ?_
  refine cd_sq ?_
  refine rg_blank rfl rfl ?_
  refine at_cd ?_
  refine cd_sr ?_
  refine ln_pv (pv_move rfl) rfl ?_
  refine ln_pv (pv_assign rfl) rfl ?_
  refine ln_cd ?_
  refine cd_sub_ (L' := [(10, .pointer (some ⟨b, 0, none⟩)), (9, .bool q), (8, .int .i16 v), (7, .pointer (some ⟨br, 0, none⟩)), (2, .bool ub)]) (.put rfl (.put rfl (.put rfl (.put rfl (.put rfl .nil))))) ?_
  obtain ⟨mk, hmk⟩ : ∃ mk : List Value → Ent, mk = fun w => MsgBox b 131 (.int .i16 v :: w) := ⟨_, rfl⟩
  have hT : Tgt mk b 1 4 := by rw [hmk]; exact Tgt.behind b 131 _ 4
  refine cd_eqH (H' := [RdX br _ st0.2, mk ([] ++ ([.int .i32 0, .int .i16 0, .slice none 0 0, .map none] : List Value))]) (by rw [hmk, hst0]; rfl) ?_
  have hR := RsU.start (F := F_AlterPartitionResponse) (v0 := v) (q := q) (st := st0) (z := false) (U := (dcU q (dcL F_AlterPartitionResponse v q st0).2).1) (s := u0) (v := _) (RSv.mv hsv ht0) hD
  obtain ⟨E0, hE0⟩ : ∃ E, E = (dcL F_AlterPartitionResponse v q st0).2 := ⟨_, rfl⟩
  rw [← hE0] at hR
  obtain ⟨Y0, hY0⟩ : ∃ Y : Tre, Y = .mk 0 [] false (dcL F_AlterPartitionResponse v q st0).1 (dcU q E0).1 := ⟨_, rfl⟩
  have hYu0 : Y0.u = (dcU q E0).1 := by rw [hY0]; rfl
  rw [← hY0] at hR
  have hR : RsU u0 [.mk 3 0 (-1) (-1) (-1) 0 0 [], .mk 2 0 (-1) (-1) (-1) 0 0 [], .mk 11 0 (-1) (-1) (-1) 0 10 F_sAlterPartitionResponseTopic] [] v q Y0 st0 E0 _ [] := hR
  have hbad0 : E0.2 = true → (dcP F_AlterPartitionResponse v q st0).2.2 = true := fun h => (dcU_sane q (dcL F_AlterPartitionResponse v q st0).2).1 (by rw [← hE0]; exact h)
  refine cd_sq ?_
  refine st_numU (z := .int .i32 0) hR (hasB_all hv0) rfl en_122 fx_i32 rfl hT rfl Tryd.underlying131 rfl tiint32.size rfl (po_eq (show 1 = 1 + fszs _ by kernel_rfl)) tiint32.size rfl rfl (fun u1 v1 st1 done1 ht1 hR => ?_)
  refine at_cd ?_
  refine cd_sq ?_
  refine st_numU (z := .int .i16 0) hR (hasB_all hv0) rfl en_125 fx_i16 rfl hT rfl Tryd.underlying131 rfl tiint16.size rfl (po_eq (show 2 = 1 + fszs _ by kernel_rfl)) tiint16.size rfl rfl (fun u2 v2 st2 done2 ht2 hR => ?_)
  refine at_cd ?_
  refine cd_sq ?_
  refine st_listU (zc := ([.string .empty, .int .u8 0, .int .u8 0, .int .u8 0, .int .u8 0, .int .u8 0, .int .u8 0, .int .u8 0, .int .u8 0, .int .u8 0, .int .u8 0, .int .u8 0, .int .u8 0, .int .u8 0, .int .u8 0, .int .u8 0, .int .u8 0, .slice none 0 0, .map none] : List Value)) hR (hasB_all hv0) (by decide) rfl rfl rfl hT rfl Tryd.underlying131 rfl tiSl_kmsg_AlterPartitionResponseTopic.size rfl (po_eq (show 3 = 1 + fszs _ by kernel_rfl)) tiSl_kmsg_AlterPartitionResponseTopic.size Tryd.underlying129 Tryd.underlying21 tipub_kmsg_AlterPartitionResponseTopic rfl rfl (by kernel_rfl) (by decide) (by decide) (fun q hq => .inl (by simpa [Ent.blk] using hq)) rfl rfl rfl rfl rfl rfl rfl rfl rfl rfl rfl rfl rfl (fun hb3 uA3 vA3 LA3 NA3 htA3 hsA3 => ret_early (i := 0) (EG.mv hG (((ht0.trans ht1).trans ht2).trans htA3)) (hsA3 _ _ rfl) rfl rfl rfl rfl (fun u r hr => ⟨_, by rw [hmk], .inl ⟨hbad0 hb3, hr⟩⟩)) (fun gb3 cap3 m3 i3 st3 u3 v3 xs3 N3 X3 hi3 hm3 hK3 ht3 hxl3 hv3 hbd3 kb3 => ?_) (fun uu3 vv3 st3 done3 hh3 hR => ?_)
  · skip
    refine cd_sq ?_
    refine rg_ix rfl rfl hi3 Tryd.underlying129 tipub_kmsg_AlterPartitionResponseTopic.size rfl ?_
    refine at_cd ?_
    obtain ⟨mk3, hmk3⟩ : ∃ mk : List Value → Ent, mk = fun w => .row (.slice (some ⟨gb3, 0, none⟩) m3 cap3) 136 19 m3 (xs3 ++ (w ++ (List.replicate (m3 - (i3 + 1)) ([.string .empty, .int .u8 0, .int .u8 0, .int .u8 0, .int .u8 0, .int .u8 0, .int .u8 0, .int .u8 0, .int .u8 0, .int .u8 0, .int .u8 0, .int .u8 0, .int .u8 0, .int .u8 0, .int .u8 0, .int .u8 0, .int .u8 0, .slice none 0 0, .map none] : List Value)).flatten)) := ⟨_, rfl⟩
    have hT3 : Tgt mk3 gb3 (0 + i3 * 19) 19 := by rw [hmk3]; exact (Tgt.row gb3 cap3 m3 19 136).mid _ _ _ _ (list_fits hi3 hxl3 rfl) (by rw [hxl3])
    refine cd_eqH (H' := RdX _ v3 st3.2 :: mk3 ([.string .empty, .int .u8 0, .int .u8 0, .int .u8 0, .int .u8 0, .int .u8 0, .int .u8 0, .int .u8 0, .int .u8 0, .int .u8 0, .int .u8 0, .int .u8 0, .int .u8 0, .int .u8 0, .int .u8 0, .int .u8 0, .int .u8 0, .slice none 0 0, .map none] : List Value) :: _) (by rw [hmk3]) ?_
    refine cd_sq ?_
    refine rg_dflt (z2 := ([.string .empty, .int .u8 0, .int .u8 0, .int .u8 0, .int .u8 0, .int .u8 0, .int .u8 0, .int .u8 0, .int .u8 0, .int .u8 0, .int .u8 0, .int .u8 0, .int .u8 0, .int .u8 0, .int .u8 0, .int .u8 0, .int .u8 0, .slice none 0 0, .map none] : List Value)) rfl en_139 (df_AlterPartitionResponseTopic _ _ _ _ _ _ _ _ _ _ _ _ _ _ _ _ _ _ _) hT3 rfl (fun u4 ht4 => ?_)
    refine at_cd ?_
    refine cd_sq ?_
    refine rg_move rfl rfl ?_
    refine at_cd ?_
    have hR := RsU.start (F := F_sAlterPartitionResponseTopic) (v0 := v) (q := q) (st := st3) (z := false) (U := (dcU q (dcL F_sAlterPartitionResponseTopic v q st3).2).1) (s := u4) (v := v3) (RSv.mv hv3 ht4) hK3
    obtain ⟨E3, hE3⟩ : ∃ E, E = (dcL F_sAlterPartitionResponseTopic v q st3).2 := ⟨_, rfl⟩
    rw [← hE3] at hR
    obtain ⟨Y3, hY3⟩ : ∃ Y : Tre, Y = .mk 0 [] false (dcL F_sAlterPartitionResponseTopic v q st3).1 (dcU q E3).1 := ⟨_, rfl⟩
    have hYu3 : Y3.u = (dcU q E3).1 := by rw [hY3]; rfl
    rw [← hY3] at hR
    have hR : RsU u4 [.mk 8 0 1 (-1) (-1) 0 0 [], .mk 7 2 (-1) (-1) (-1) 0 0 [], .mk 11 0 (-1) (-1) (-1) 0 10 F_sAlterPartitionResponseTopicPartition] [] v q Y3 st3 E3 v3 [] := hR
    have hbad3 : E3.2 = true → _ := fun h => hbad0 (hbd3 (dcE_bad (by rw [← hE3]; exact h)))
    refine cd_eqH (H' := RdX _ v3 st3.2 :: mk3 ([] ++ ([.string .empty, .int .u8 0, .int .u8 0, .int .u8 0, .int .u8 0, .int .u8 0, .int .u8 0, .int .u8 0, .int .u8 0, .int .u8 0, .int .u8 0, .int .u8 0, .int .u8 0, .int .u8 0, .int .u8 0, .int .u8 0, .int .u8 0, .slice none 0 0, .map none] : List Value)) :: _) rfl ?_
    refine cd_sq ?_
    refine st_if2U (zc := ([.string .empty] : List Value)) (zs := ([.int .u8 0, .int .u8 0, .int .u8 0, .int .u8 0, .int .u8 0, .int .u8 0, .int .u8 0, .int .u8 0, .int .u8 0, .int .u8 0, .int .u8 0, .int .u8 0, .int .u8 0, .int .u8 0, .int .u8 0, .int .u8 0, .slice none 0 0, .map none] : List Value)) rfl rfl hR (hasB_to (by decide)) (fun u => df_str u (by decide)) rfl (fun u5 v5 st5 done5 ht5 hR => ?_) (fun hh kk => ?_)
    rotate_left
    · skip
      refine cd_sq ?_
      refine rg_const rfl ?_
      refine at_cd ?_
      exact st_strU (z := .string .empty) en_114 en_115 (fun h => fx_ucstr (by decide) h) (fun h => fx_ustr (by decide) h) rfl rfl rfl hR hh rfl rfl rfl en_116 en_117 (fun h => fx_cstr (by decide) h) (fun h => fx_str (by decide) h) rfl hT3 rfl Tryd.underlying136 rfl tistring.size rfl (po_eq (show 0 = 0 + fszs _ by kernel_rfl)) tistring.size rfl rfl rfl rfl rfl kk
    refine at_cd ?_
    refine cd_sq ?_
    refine st_ifU (zc := (List.replicate 16 (.int .u8 0) : List Value)) (zs := ([.slice none 0 0, .map none] : List Value)) rfl rfl hR (hasB_from) (fun u => df_uuid u) rfl (fun u6 v6 st6 done6 ht6 hR => ?_) (fun hh kk => ?_)
    rotate_left
    · skip
      exact st_uuidU (zc := List.replicate 16 (.int .u8 0)) (zs := [.slice none 0 0, .map none]) rfl hR hh rfl en_130 gx_Uuid (dcF_sc (by decide)) uu_MU rfl hT3 rfl rfl Tryd.underlying136 rfl ti_16_uint8.size rfl (po_eq (show 1 = 0 + fszs _ by kernel_rfl)) ti_16_uint8 rfl Tryd.underlying117 rfl kk
    refine at_cd ?_
    refine cd_sq ?_
    refine st_listU (zc := ([.int .i32 0, .int .i16 0, .int .i32 0, .int .i32 0, .slice none 0 0, .int .i8 0, .int .i32 0, .map none] : List Value)) hR (hasB_all hv0) (by decide) rfl rfl rfl hT3 rfl Tryd.underlying136 rfl tiSl_kmsg_AlterPartitionResponseTopicPartition.size rfl (po_eq (show 17 = 0 + fszs _ by kernel_rfl)) tiSl_kmsg_AlterPartitionResponseTopicPartition.size Tryd.underlying134 Tryd.underlying21 tipub_kmsg_AlterPartitionResponseTopicPartition rfl rfl (by kernel_rfl) (by decide) (by decide) (fun q hq => .inr (hO_push hT (fun q hq => .inl (by simpa [Ent.blk] using hq)) _ q hq)) rfl rfl rfl rfl rfl rfl rfl rfl rfl rfl rfl rfl rfl (fun hb7 uA7 vA7 LA7 NA7 htA7 hsA7 => ret_early (i := 1) (EG.mv hG (((((((ht0.trans ht1).trans ht2).trans ht3).trans ht4).trans ht5).trans ht6).trans htA7)) (hsA7 _ _ rfl) rfl rfl rfl rfl (fun u r hr => ⟨_, by rw [hmk], .inl ⟨hbad3 hb7, hr⟩⟩)) (fun gb7 cap7 m7 i7 st7 u7 v7 xs7 N7 X7 hi7 hm7 hK7 ht7 hxl7 hv7 hbd7 kb7 => ?_) (fun uu7 vv7 st7 done7 hh7 hR => ?_)
    · skip
      refine cd_sq ?_
      refine rg_ix rfl rfl hi7 Tryd.underlying134 tipub_kmsg_AlterPartitionResponseTopicPartition.size rfl ?_
      refine at_cd ?_
      obtain ⟨mk7, hmk7⟩ : ∃ mk : List Value → Ent, mk = fun w => .row (.slice (some ⟨gb7, 0, none⟩) m7 cap7) 169 8 m7 (xs7 ++ (w ++ (List.replicate (m7 - (i7 + 1)) ([.int .i32 0, .int .i16 0, .int .i32 0, .int .i32 0, .slice none 0 0, .int .i8 0, .int .i32 0, .map none] : List Value)).flatten)) := ⟨_, rfl⟩
      have hT7 : Tgt mk7 gb7 (0 + i7 * 8) 8 := by rw [hmk7]; exact (Tgt.row gb7 cap7 m7 8 169).mid _ _ _ _ (list_fits hi7 hxl7 rfl) (by rw [hxl7])
      refine cd_eqH (H' := RdX _ v7 st7.2 :: mk7 ([.int .i32 0, .int .i16 0, .int .i32 0, .int .i32 0, .slice none 0 0, .int .i8 0, .int .i32 0, .map none] : List Value) :: _) (by rw [hmk7]) ?_
      refine cd_sq ?_
      refine rg_dflt (z2 := ([.int .i32 0, .int .i16 0, .int .i32 0, .int .i32 0, .slice none 0 0, .int .i8 0, .int .i32 0, .map none] : List Value)) rfl en_140 (df_AlterPartitionResponseTopicPartition _ _ _ _ _ _ _ _) hT7 rfl (fun u8 ht8 => ?_)
      refine at_cd ?_
      refine cd_sq ?_
      refine rg_move rfl rfl ?_
      refine at_cd ?_
      have hR := RsU.start (F := F_sAlterPartitionResponseTopicPartition) (v0 := v) (q := q) (st := st7) (z := false) (U := (dcU q (dcL F_sAlterPartitionResponseTopicPartition v q st7).2).1) (s := u8) (v := v7) (RSv.mv hv7 ht8) hK7
      obtain ⟨E7, hE7⟩ : ∃ E, E = (dcL F_sAlterPartitionResponseTopicPartition v q st7).2 := ⟨_, rfl⟩
      rw [← hE7] at hR
      obtain ⟨Y7, hY7⟩ : ∃ Y : Tre, Y = .mk 0 [] false (dcL F_sAlterPartitionResponseTopicPartition v q st7).1 (dcU q E7).1 := ⟨_, rfl⟩
      have hYu7 : Y7.u = (dcU q E7).1 := by rw [hY7]; rfl
      rw [← hY7] at hR
      have hR : RsU u8 [.mk 3 0 (-1) (-1) (-1) 0 0 [], .mk 2 0 (-1) (-1) (-1) 0 0 [], .mk 3 0 (-1) (-1) (-1) 0 0 [], .mk 3 0 (-1) (-1) (-1) 0 0 [], .mk 11 0 (-1) (-1) (-1) 0 3 [], .mk 1 1 (-1) (-1) (-1) 0 0 [], .mk 3 0 (-1) (-1) (-1) 0 0 []] [] v q Y7 st7 E7 v7 [] := hR
      have hbad7 : E7.2 = true → _ := fun h => hbad3 (hbd7 (dcE_bad (by rw [← hE7]; exact h)))
      refine cd_eqH (H' := RdX _ v7 st7.2 :: mk7 ([] ++ ([.int .i32 0, .int .i16 0, .int .i32 0, .int .i32 0, .slice none 0 0, .int .i8 0, .int .i32 0, .map none] : List Value)) :: _) rfl ?_
      refine cd_sq ?_
      refine st_numU (z := .int .i32 0) hR (hasB_all hv0) rfl en_122 fx_i32 rfl hT7 rfl Tryd.underlying169 rfl tiint32.size rfl (po_eq (show 0 = 0 + fszs _ by kernel_rfl)) tiint32.size rfl rfl (fun u9 v9 st9 done9 ht9 hR => ?_)
      refine at_cd ?_
      refine cd_sq ?_
      refine st_numU (z := .int .i16 0) hR (hasB_all hv0) rfl en_125 fx_i16 rfl hT7 rfl Tryd.underlying169 rfl tiint16.size rfl (po_eq (show 1 = 0 + fszs _ by kernel_rfl)) tiint16.size rfl rfl (fun u10 v10 st10 done10 ht10 hR => ?_)
      refine at_cd ?_
      refine cd_sq ?_
      refine st_numU (z := .int .i32 0) hR (hasB_all hv0) rfl en_122 fx_i32 rfl hT7 rfl Tryd.underlying169 rfl tiint32.size rfl (po_eq (show 2 = 0 + fszs _ by kernel_rfl)) tiint32.size rfl rfl (fun u11 v11 st11 done11 ht11 hR => ?_)
      refine at_cd ?_
      refine cd_sq ?_
      refine st_numU (z := .int .i32 0) hR (hasB_all hv0) rfl en_122 fx_i32 rfl hT7 rfl Tryd.underlying169 rfl tiint32.size rfl (po_eq (show 3 = 0 + fszs _ by kernel_rfl)) tiint32.size rfl rfl (fun u12 v12 st12 done12 ht12 hR => ?_)
      refine at_cd ?_
      refine cd_sq ?_
      refine st_listU (zc := ([.int .i32 0] : List Value)) hR (hasB_all hv0) (by decide) rfl rfl rfl hT7 rfl Tryd.underlying169 rfl tiSl_int32.size rfl (po_eq (show 4 = 0 + fszs _ by kernel_rfl)) tiSl_int32.size Tryd.underlying102 Tryd.underlying21 tiint32 rfl rfl (by kernel_rfl) (by decide) (by decide) (fun q hq => .inr (hO_push hT3 (fun q hq => .inr (hO_push hT (fun q hq => .inl (by simpa [Ent.blk] using hq)) _ q hq)) _ q hq)) rfl rfl rfl rfl rfl rfl rfl rfl rfl rfl rfl rfl rfl (fun hb13 uA13 vA13 LA13 NA13 htA13 hsA13 => ret_early (i := 2) (EG.mv hG (((((((((((((ht0.trans ht1).trans ht2).trans ht3).trans ht4).trans ht5).trans ht6).trans ht7).trans ht8).trans ht9).trans ht10).trans ht11).trans ht12).trans htA13)) (hsA13 _ _ rfl) rfl rfl rfl rfl (fun u r hr => ⟨_, by rw [hmk], .inl ⟨hbad7 hb13, hr⟩⟩)) (fun gb13 cap13 m13 i13 st13 u13 v13 xs13 N13 X13 hi13 hm13 hK13 ht13 hxl13 hv13 hbd13 kb13 => ?_) (fun uu13 vv13 st13 done13 hh13 hR => ?_)
      · skip
        refine st_elemU (q := q) (ez := 1) (sb := []) (v0 := v) rfl en_122 ex_i32 hv13 rfl rfl hi13 (by rw [hxl13]) (by simp) Tryd.underlying102 tiint32.size rfl rfl (fun u v c ht hE hv => ?_)
        exact kb13 _ _ _ ht hE hv
      refine at_cd ?_
      refine cd_sq ?_
      refine st_ifU (zc := ([.int .i8 0] : List Value)) (zs := ([.int .i32 0, .map none] : List Value)) rfl rfl hR (hasB_from) (fun u => df_i8 u (by decide)) rfl (fun u14 v14 st14 done14 ht14 hR => ?_) (fun hh kk => ?_)
      rotate_left
      · skip
        exact st_numU (z := .int .i8 0) hR hh rfl en_141 fx_i8 rfl hT7 rfl Tryd.underlying169 rfl tiint8.size rfl (po_eq (show 5 = 0 + fszs _ by kernel_rfl)) tiint8.size rfl rfl kk
      refine at_cd ?_
      refine cd_sq ?_
      refine st_numU (z := .int .i32 0) hR (hasB_all hv0) rfl en_122 fx_i32 rfl hT7 rfl Tryd.underlying169 rfl tiint32.size rfl (po_eq (show 6 = 0 + fszs _ by kernel_rfl)) tiint32.size rfl rfl (fun u15 v15 st15 done15 ht15 hR => ?_)
      refine at_cd ?_
      refine st_tagsU (F := F_sAlterPartitionResponseTopicPartition) hR hYu7 rfl rfl rfl hT7 rfl Tryd.underlying169 rfl tipub_kmsg_Tags.size rfl (po_eq (show 7 = 0 + fszs _ by kernel_rfl)) tipub_kmsg_Tags.size rfl rfl (fun u16 v16 cs16 ht16 hv hM => ?_)
      refine at_eqH (H' := RdX _ _ _ :: .row (.slice (some ⟨gb7, 0, none⟩) m7 cap7) 169 8 m7 (xs7 ++ (_ ++ (List.replicate (m7 - (i7 + 1)) ([.int .i32 0, .int .i16 0, .int .i32 0, .int .i32 0, .slice none 0 0, .int .i8 0, .int .i32 0, .map none] : List Value)).flatten)) :: _) (by rw [hmk7]) ?_
      rw [hY7, hE7] at hM
      rw [hE7, ← dcE_part] at hv ⊢
      exact at_sub (.skip rfl (.skip rfl .rfl')) (kb7 _ _ _ ((((((((ht8.trans ht9).trans ht10).trans ht11).trans ht12).trans hh13).trans ht14).trans ht15).trans ht16) (REl_partU hM) hv)
    refine at_cd ?_
    refine st_tagsU (F := F_sAlterPartitionResponseTopic) hR hYu3 rfl rfl rfl hT3 rfl Tryd.underlying136 rfl tipub_kmsg_Tags.size rfl (po_eq (show 18 = 0 + fszs _ by kernel_rfl)) tipub_kmsg_Tags.size rfl rfl (fun u17 v17 cs17 ht17 hv hM => ?_)
    refine at_eqH (H' := RdX _ _ _ :: .row (.slice (some ⟨gb3, 0, none⟩) m3 cap3) 136 19 m3 (xs3 ++ (_ ++ (List.replicate (m3 - (i3 + 1)) ([.string .empty, .int .u8 0, .int .u8 0, .int .u8 0, .int .u8 0, .int .u8 0, .int .u8 0, .int .u8 0, .int .u8 0, .int .u8 0, .int .u8 0, .int .u8 0, .int .u8 0, .int .u8 0, .int .u8 0, .int .u8 0, .int .u8 0, .slice none 0 0, .map none] : List Value)).flatten)) :: _) (by rw [hmk3]) ?_
    rw [hY3, hE3] at hM
    rw [hE3, ← dcE_part] at hv ⊢
    exact at_sub (.skip rfl (.skip rfl .rfl')) (kb3 _ _ _ ((((ht4.trans ht5).trans ht6).trans hh7).trans ht17) (REl_partU hM) hv)
  refine at_cd ?_
  refine cd_sq ?_
  refine st_tagsU (F := F_AlterPartitionResponse) hR hYu0 rfl rfl rfl hT rfl Tryd.underlying131 rfl tipub_kmsg_Tags.size rfl (po_eq (show 4 = 1 + fszs _ by kernel_rfl)) tipub_kmsg_Tags.size rfl rfl (fun u18 v18 cs18 ht18 hv hM => ?_)
  refine at_cd ?_
  have hfin : (dcP F_AlterPartitionResponse v q st0).2.2 = (dcU q E0).2.2 := by rw [hE0]; rfl
  have hYP : Y0 = (dcP F_AlterPartitionResponse v q st0).1 := by rw [hY0, hE0]; rfl
  refine cd_sr ?_
  refine ln_callT (i := 0) (vals := [.pointer (some ⟨br, 0, none⟩)]) en_113 rfl rfl (fun u hu hok hav => gx_Complete u br _ _ (EG.mv hG (((((ht0.trans ht1).trans ht2).trans hh3).trans ht18).trans hu)) hok hav) rfl ?_
  rintro u9 r9 _ ht9 ⟨ux9, ⟨hr9, rfl⟩, hx9⟩
  refine ln_pv (pv_assign rfl) rfl ?_
  refine ln_cd ?_
  refine cd_ret ?_
  refine at_retT (i := 1) rfl rfl rfl (fun w hS => ⟨_, by rw [hmk], ?_⟩)
  rcases hr9 with ⟨h9, rfl⟩ | ⟨h9, h8⟩
  · exact .inr ⟨by rw [hfin]; exact h9, rfl, by rw [← hYP]; exact (hM.mv ht9).mv (hS.trFinT _ _)⟩
  · exact .inl ⟨by rw [hfin]; exact h9, h8⟩
end K
end Go.Proofs.YtjjfpdofkdolnaaDoor
