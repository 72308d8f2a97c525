import Derived.Test.YtjjfpdofkdolnaaDoorUe
import Derived.Test.YtjjfpdofkdolnaaDoorMcs
import Derived.Test.YtjjfpdofkdolnaaDoorP4
import Derived.Test.YtjjfpdofkdolnaaDoorS10
set_option linter.unusedVariables false
set_option linter.unusedSimpArgs false
namespace Go.Proofs.YtjjfpdofkdolnaaDoor
namespace K
open Go Go.Lib
theorem df_AssignReplicasToDirsRequest (z0 z1 z2 z3 z4 : Value) : DfC 93 [z0, z1, z2, z3, z4] [z0, z1, .int .i64 (-1), z3, z4] := by
  intro mk b o hT t hok hav
  refine ct_enter Tryd.func93 rfl Tryd.ntmps93 rfl hok hav (by rw [hT.blk]; simp) ?_
  refine cd_region ?_
  refine ln_pv (pv_move rfl) rfl ?_
  refine ln_pv (pv_nilCheck rfl) rfl ?_
  refine ln_pv (pv_fieldAddr (off := 2) Tryd.underlying114 rfl tiint64.size rfl rfl rfl) rfl ?_
  refine ln_storeG1 (i := 0) (off := 2) (v := .int .i64 (-1)) hT rfl rfl rfl rfl rfl tiint64.size (Nat.le_of_ble_eq_true rfl) ?_
  refine ln_nil ?_
  exact at_retT0 (i := 0) rfl rfl (fun w hS => ⟨rfl, rfl⟩)
theorem df_AssignReplicasToDirsRequestDirectory (z0 z1 z2 z3 z4 z5 z6 z7 z8 z9 z10 z11 z12 z13 z14 z15 z16 z17 : Value) : DfC 129 [z0, z1, z2, z3, z4, z5, z6, z7, z8, z9, z10, z11, z12, z13, z14, z15, z16, z17] [z0, z1, z2, z3, z4, z5, z6, z7, z8, z9, z10, z11, z12, z13, z14, z15, z16, z17] := by
  intro mk b o hT t hok hav
  refine ct_enter Tryd.func129 rfl Tryd.ntmps129 rfl hok hav (by rw [hT.blk]; simp) ?_
  refine cd_skip ?_
  exact at_retT0 (i := 0) rfl rfl (fun w hS => ⟨rfl, rfl⟩)
theorem df_AssignReplicasToDirsRequestDirectoryTopic (z0 z1 z2 z3 z4 z5 z6 z7 z8 z9 z10 z11 z12 z13 z14 z15 z16 z17 : Value) : DfC 131 [z0, z1, z2, z3, z4, z5, z6, z7, z8, z9, z10, z11, z12, z13, z14, z15, z16, z17] [z0, z1, z2, z3, z4, z5, z6, z7, z8, z9, z10, z11, z12, z13, z14, z15, z16, z17] := by
  intro mk b o hT t hok hav
  refine ct_enter Tryd.func131 rfl Tryd.ntmps131 rfl hok hav (by rw [hT.blk]; simp) ?_
  refine cd_skip ?_
  exact at_retT0 (i := 0) rfl rfl (fun w hS => ⟨rfl, rfl⟩)
theorem df_AssignReplicasToDirsRequestDirectoryTopicPartition (z0 z1 : Value) : DfC 132 [z0, z1] [z0, z1] := by
  intro mk b o hT t hok hav
  refine ct_enter Tryd.func132 rfl Tryd.ntmps132 rfl hok hav (by rw [hT.blk]; simp) ?_
  refine cd_skip ?_
  exact at_retT0 (i := 0) rfl rfl (fun w hS => ⟨rfl, rfl⟩)
theorem readu_AssignReplicasToDirsRequest (t : Vw) (b : Nat) (v : Int) (ub : Bool) (D : List UInt8) (sv : Value) (hsv : RSv t sv D) (hD : D.length ≤ 32767) (hG : EG t) (h0 : 0 ≤ v) (h1 : v ≤ 0) (hok : (MsgBox b 114 (.int .i16 v :: ([.int .i32 0, .int .i64 (-1), .slice none 0 0, .map none] : List Value))).ok t.w) (hav : ∀ q ∈ (MsgBox b 114 (.int .i16 v :: ([.int .i32 0, .int .i64 (-1), .slice none 0 0, .map none] : List Value))).blk, t.av q) : CT Tryd.prog 94 [.pointer (some ⟨b, 0, none⟩), sv, .bool ub] t (MsgBox b 114 (.int .i16 v :: ([.int .i32 0, .int .i64 (-1), .slice none 0 0, .map none] : List Value))) fun u r e' => ∃ cells, e' = MsgBox b 114 (.int .i16 v :: cells) ∧ (((dcP F_AssignReplicasToDirsRequest v (flexB 0 v) (D, false)).2.2 = true ∧ ∃ ty x, r = .iface ty x) ∨ ((dcP F_AssignReplicasToDirsRequest v (flexB 0 v) (D, false)).2.2 = false ∧ r = .nilIface ∧ RMp u F_AssignReplicasToDirsRequest (dcP F_AssignReplicasToDirsRequest v (flexB 0 v) (D, false)).1 cells)) := by
  have hv0 := h0
  generalize hqd : flexB 0 v = q at *
  have hq0 : decide (v ≥ 0) = q := by rw [← hqd]; simp [flexB]
  obtain ⟨adS, cS, hsve, hcS⟩ := RSv.shape hsv
  obtain ⟨st0, hst0⟩ : ∃ z : Rst, z = (D, false) := ⟨_, rfl⟩
  rw [← hst0]
  have hsv : RSv t sv st0.1 := by rw [hst0]; exact hsv
  have hD : st0.1.length ≤ 32767 := by rw [hst0]; exact hD
  subst hsve
  refine ct_enter Tryd.func94 rfl Tryd.ntmps94 rfl hok hav (by simp [Ent.blk]) ?_
  refine cd_sq ?_
  refine rg_const rfl ?_
  refine at_cd ?_
  refine cd_sr ?_
  refine ln_pv (pv_move rfl) rfl ?_
  refine ln_callT (i := 0) (vals := [.pointer (some ⟨b, 0, none⟩)]) en_93 rfl rfl (fun u hu hok hav => df_AssignReplicasToDirsRequest _ _ _ _ _ (fun w => .obj b (.cells w.toArray 114)) b 0 (Tgt.obj b 114 5) u hok hav) rfl ?_
  rintro u0 _ _ ht0 ⟨ux0, ⟨rfl, rfl⟩, hx0⟩
  refine ln_cd ?_
  refine cd_sr ?_
  refine ln_pv (pv_move rfl) rfl ?_
  refine ln_pv (pv_struct [(0, 1), (1, 1)] (l := [_, _]) rfl Tryd.underlying142 tipub_kmsg_inner_kbin_Reader (by kernel_rfl) rfl rfl) rfl ?_
  refine ln_alloc (l := [.slice none 0 0, .bool false]) tipub_kmsg_inner_kbin_Reader rfl rfl (fun br => ?_)
  refine ln_storeW (i := 0) (vs := [_, .bool false]) rfl rfl rfl rfl tipub_kmsg_inner_kbin_Reader.size rfl (by simp) ?_
  refine ln_cd ?_
  refine cd_sr ?_
  refine ln_pv (pv_move rfl) rfl ?_
  refine ln_pv (pv_nilCheck rfl) rfl ?_
  refine ln_pv (pv_fieldAddr (off := 0) (r := 0) Tryd.underlying114 rfl tiint16.size rfl rfl rfl) rfl ?_
  refine ln_pv (pv_ldo (i := 1) (v := .int .i16 v) rfl Tryd.underlying45 rfl rfl rfl) rfl ?_
  refine ln_pv (pv_assign rfl) rfl ?_
  refine ln_cd ?_
  refine cd_sq ?_
  refine rg_blank rfl rfl ?_
  refine at_cd ?_
  refine cd_sr ?_
  refine ln_pv (pv_move rfl) rfl ?_
  refine ln_pv (pv_geq rfl rfl) rfl ?_
  refine ln_pv (pv_assign rfl) rfl ?_
  rw [hq0]
  refine ln_cd ?_
  refine cd_sq ?_
  refine rg_blank rfl rfl ?_
  refine at_cd ?_
  refine cd_sr ?_
  refine ln_pv (pv_move rfl) rfl ?_
  refine ln_pv (pv_assign rfl) rfl ?_
  refine ln_cd ?_
  refine cd_sub_ (L' := [(10, .pointer (some ⟨b, 0, none⟩)), (9, .bool q), (8, .int .i16 v), (7, .pointer (some ⟨br, 0, none⟩)), (2, .bool ub)]) (.put rfl (.put rfl (.put rfl (.put rfl (.put rfl .nil))))) ?_
  obtain ⟨mk, hmk⟩ : ∃ mk : List Value → Ent, mk = fun w => MsgBox b 114 (.int .i16 v :: w) := ⟨_, rfl⟩
  have hT : Tgt mk b 1 4 := by rw [hmk]; exact Tgt.behind b 114 _ 4
  refine cd_eqH (H' := [RdX br _ st0.2, mk ([] ++ ([.int .i32 0, .int .i64 (-1), .slice none 0 0, .map none] : List Value))]) (by rw [hmk, hst0]; rfl) ?_
  have hR := RsU.start (F := F_AssignReplicasToDirsRequest) (v0 := v) (q := q) (st := st0) (z := false) (U := (dcU q (dcL F_AssignReplicasToDirsRequest v q st0).2).1) (s := u0) (v := _) (RSv.mv hsv ht0) hD
  obtain ⟨E0, hE0⟩ : ∃ E, E = (dcL F_AssignReplicasToDirsRequest v q st0).2 := ⟨_, rfl⟩
  rw [← hE0] at hR
  obtain ⟨Y0, hY0⟩ : ∃ Y : Tre, Y = .mk 0 [] false (dcL F_AssignReplicasToDirsRequest v q st0).1 (dcU q E0).1 := ⟨_, rfl⟩
  have hYu0 : Y0.u = (dcU q E0).1 := by rw [hY0]; rfl
  rw [← hY0] at hR
  have hR : RsU u0 [.mk 3 0 (-1) (-1) (-1) 0 0 [], .mk 4 0 (-1) (-1) (-1) (-1) 0 [], .mk 11 0 (-1) (-1) (-1) 0 10 F_sAssignReplicasToDirsRequestDirectory] [] v q Y0 st0 E0 _ [] := hR
  have hbad0 : E0.2 = true → (dcP F_AssignReplicasToDirsRequest v q st0).2.2 = true := fun h => (dcU_sane q (dcL F_AssignReplicasToDirsRequest v q st0).2).1 (by rw [← hE0]; exact h)
  refine cd_sq ?_
  refine st_numU (z := .int .i32 0) hR (hasB_all hv0) rfl en_122 fx_i32 rfl hT rfl Tryd.underlying114 rfl tiint32.size rfl (po_eq (show 1 = 1 + fszs _ by kernel_rfl)) tiint32.size rfl rfl (fun u1 v1 st1 done1 ht1 hR => ?_)
  refine at_cd ?_
  refine cd_sq ?_
  refine st_numU (z := .int .i64 (-1)) hR (hasB_all hv0) rfl en_128 fx_i64 rfl hT rfl Tryd.underlying114 rfl tiint64.size rfl (po_eq (show 2 = 1 + fszs _ by kernel_rfl)) tiint64.size rfl rfl (fun u2 v2 st2 done2 ht2 hR => ?_)
  refine at_cd ?_
  refine cd_sq ?_
  refine st_listU (zc := ([.int .u8 0, .int .u8 0, .int .u8 0, .int .u8 0, .int .u8 0, .int .u8 0, .int .u8 0, .int .u8 0, .int .u8 0, .int .u8 0, .int .u8 0, .int .u8 0, .int .u8 0, .int .u8 0, .int .u8 0, .int .u8 0, .slice none 0 0, .map none] : List Value)) hR (hasB_all hv0) (by decide) rfl rfl rfl hT rfl Tryd.underlying114 rfl tiSl_kmsg_AssignReplicasToDirsRequestDirectory.size rfl (po_eq (show 3 = 1 + fszs _ by kernel_rfl)) tiSl_kmsg_AssignReplicasToDirsRequestDirectory.size Tryd.underlying112 Tryd.underlying21 tipub_kmsg_AssignReplicasToDirsRequestDirectory rfl rfl (by kernel_rfl) (by decide) (by decide) (fun q hq => .inl (by simpa [Ent.blk] using hq)) rfl rfl rfl rfl rfl rfl rfl rfl rfl rfl rfl rfl rfl (fun hb3 uA3 vA3 LA3 NA3 htA3 hsA3 => ret_early (i := 0) (EG.mv hG (((ht0.trans ht1).trans ht2).trans htA3)) (hsA3 _ _ rfl) rfl rfl rfl rfl (fun u r hr => ⟨_, by rw [hmk], .inl ⟨hbad0 hb3, hr⟩⟩)) (fun gb3 cap3 m3 i3 st3 u3 v3 xs3 N3 X3 hi3 hm3 hK3 ht3 hxl3 hv3 hbd3 kb3 => ?_) (fun uu3 vv3 st3 done3 hh3 hR => ?_)
  · skip
    refine cd_sq ?_
    refine rg_ix rfl rfl hi3 Tryd.underlying112 tipub_kmsg_AssignReplicasToDirsRequestDirectory.size rfl ?_
    refine at_cd ?_
    obtain ⟨mk3, hmk3⟩ : ∃ mk : List Value → Ent, mk = fun w => .row (.slice (some ⟨gb3, 0, none⟩) m3 cap3) 120 18 m3 (xs3 ++ (w ++ (List.replicate (m3 - (i3 + 1)) ([.int .u8 0, .int .u8 0, .int .u8 0, .int .u8 0, .int .u8 0, .int .u8 0, .int .u8 0, .int .u8 0, .int .u8 0, .int .u8 0, .int .u8 0, .int .u8 0, .int .u8 0, .int .u8 0, .int .u8 0, .int .u8 0, .slice none 0 0, .map none] : List Value)).flatten)) := ⟨_, rfl⟩
    have hT3 : Tgt mk3 gb3 (0 + i3 * 18) 18 := by rw [hmk3]; exact (Tgt.row gb3 cap3 m3 18 120).mid _ _ _ _ (list_fits hi3 hxl3 rfl) (by rw [hxl3])
    refine cd_eqH (H' := RdX _ v3 st3.2 :: mk3 ([.int .u8 0, .int .u8 0, .int .u8 0, .int .u8 0, .int .u8 0, .int .u8 0, .int .u8 0, .int .u8 0, .int .u8 0, .int .u8 0, .int .u8 0, .int .u8 0, .int .u8 0, .int .u8 0, .int .u8 0, .int .u8 0, .slice none 0 0, .map none] : List Value) :: _) (by rw [hmk3]) ?_
    refine cd_sq ?_
    refine rg_dflt (z2 := ([.int .u8 0, .int .u8 0, .int .u8 0, .int .u8 0, .int .u8 0, .int .u8 0, .int .u8 0, .int .u8 0, .int .u8 0, .int .u8 0, .int .u8 0, .int .u8 0, .int .u8 0, .int .u8 0, .int .u8 0, .int .u8 0, .slice none 0 0, .map none] : List Value)) rfl en_129 (df_AssignReplicasToDirsRequestDirectory _ _ _ _ _ _ _ _ _ _ _ _ _ _ _ _ _ _) hT3 rfl (fun u4 ht4 => ?_)
    refine at_cd ?_
    refine cd_sq ?_
    refine rg_move rfl rfl ?_
    refine at_cd ?_
    have hR := RsU.start (F := F_sAssignReplicasToDirsRequestDirectory) (v0 := v) (q := q) (st := st3) (z := false) (U := (dcU q (dcL F_sAssignReplicasToDirsRequestDirectory v q st3).2).1) (s := u4) (v := v3) (RSv.mv hv3 ht4) hK3
    obtain ⟨E3, hE3⟩ : ∃ E, E = (dcL F_sAssignReplicasToDirsRequestDirectory v q st3).2 := ⟨_, rfl⟩
    rw [← hE3] at hR
    obtain ⟨Y3, hY3⟩ : ∃ Y : Tre, Y = .mk 0 [] false (dcL F_sAssignReplicasToDirsRequestDirectory v q st3).1 (dcU q E3).1 := ⟨_, rfl⟩
    have hYu3 : Y3.u = (dcU q E3).1 := by rw [hY3]; rfl
    rw [← hY3] at hR
    have hR : RsU u4 [.mk 7 0 (-1) (-1) (-1) 0 0 [], .mk 11 0 (-1) (-1) (-1) 0 10 F_sAssignReplicasToDirsRequestDirectoryTopic] [] v q Y3 st3 E3 v3 [] := hR
    have hbad3 : E3.2 = true → _ := fun h => hbad0 (hbd3 (dcE_bad (by rw [← hE3]; exact h)))
    refine cd_eqH (H' := RdX _ v3 st3.2 :: mk3 ([] ++ ([.int .u8 0, .int .u8 0, .int .u8 0, .int .u8 0, .int .u8 0, .int .u8 0, .int .u8 0, .int .u8 0, .int .u8 0, .int .u8 0, .int .u8 0, .int .u8 0, .int .u8 0, .int .u8 0, .int .u8 0, .int .u8 0, .slice none 0 0, .map none] : List Value)) :: _) rfl ?_
    refine cd_sq ?_
    refine st_uuidU (zc := List.replicate 16 (.int .u8 0)) (zs := [.slice none 0 0, .map none]) rfl hR (hasB_all hv0) rfl en_130 gx_Uuid (dcF_sc (by decide)) uu_MU rfl hT3 rfl rfl Tryd.underlying120 rfl ti_16_uint8.size rfl (po_eq (show 0 = 0 + fszs _ by kernel_rfl)) ti_16_uint8 rfl Tryd.underlying117 rfl (fun u5 v5 st5 done5 ht5 hR => ?_)
    refine at_cd ?_
    refine cd_sq ?_
    refine st_listU (zc := ([.int .u8 0, .int .u8 0, .int .u8 0, .int .u8 0, .int .u8 0, .int .u8 0, .int .u8 0, .int .u8 0, .int .u8 0, .int .u8 0, .int .u8 0, .int .u8 0, .int .u8 0, .int .u8 0, .int .u8 0, .int .u8 0, .slice none 0 0, .map none] : List Value)) hR (hasB_all hv0) (by decide) rfl rfl rfl hT3 rfl Tryd.underlying120 rfl tiSl_kmsg_AssignReplicasToDirsRequestDirectoryTopic.size rfl (po_eq (show 16 = 0 + fszs _ by kernel_rfl)) tiSl_kmsg_AssignReplicasToDirsRequestDirectoryTopic.size Tryd.underlying118 Tryd.underlying21 tipub_kmsg_AssignReplicasToDirsRequestDirectoryTopic rfl rfl (by kernel_rfl) (by decide) (by decide) (fun q hq => .inr (hO_push hT (fun q hq => .inl (by simpa [Ent.blk] using hq)) _ q hq)) rfl rfl rfl rfl rfl rfl rfl rfl rfl rfl rfl rfl rfl (fun hb6 uA6 vA6 LA6 NA6 htA6 hsA6 => ret_early (i := 1) (EG.mv hG ((((((ht0.trans ht1).trans ht2).trans ht3).trans ht4).trans ht5).trans htA6)) (hsA6 _ _ rfl) rfl rfl rfl rfl (fun u r hr => ⟨_, by rw [hmk], .inl ⟨hbad3 hb6, hr⟩⟩)) (fun gb6 cap6 m6 i6 st6 u6 v6 xs6 N6 X6 hi6 hm6 hK6 ht6 hxl6 hv6 hbd6 kb6 => ?_) (fun uu6 vv6 st6 done6 hh6 hR => ?_)
    · skip
      refine cd_sq ?_
      refine rg_ix rfl rfl hi6 Tryd.underlying118 tipub_kmsg_AssignReplicasToDirsRequestDirectoryTopic.size rfl ?_
      refine at_cd ?_
      obtain ⟨mk6, hmk6⟩ : ∃ mk : List Value → Ent, mk = fun w => .row (.slice (some ⟨gb6, 0, none⟩) m6 cap6) 158 18 m6 (xs6 ++ (w ++ (List.replicate (m6 - (i6 + 1)) ([.int .u8 0, .int .u8 0, .int .u8 0, .int .u8 0, .int .u8 0, .int .u8 0, .int .u8 0, .int .u8 0, .int .u8 0, .int .u8 0, .int .u8 0, .int .u8 0, .int .u8 0, .int .u8 0, .int .u8 0, .int .u8 0, .slice none 0 0, .map none] : List Value)).flatten)) := ⟨_, rfl⟩
      have hT6 : Tgt mk6 gb6 (0 + i6 * 18) 18 := by rw [hmk6]; exact (Tgt.row gb6 cap6 m6 18 158).mid _ _ _ _ (list_fits hi6 hxl6 rfl) (by rw [hxl6])
      refine cd_eqH (H' := RdX _ v6 st6.2 :: mk6 ([.int .u8 0, .int .u8 0, .int .u8 0, .int .u8 0, .int .u8 0, .int .u8 0, .int .u8 0, .int .u8 0, .int .u8 0, .int .u8 0, .int .u8 0, .int .u8 0, .int .u8 0, .int .u8 0, .int .u8 0, .int .u8 0, .slice none 0 0, .map none] : List Value) :: _) (by rw [hmk6]) ?_
      refine cd_sq ?_
      refine rg_dflt (z2 := ([.int .u8 0, .int .u8 0, .int .u8 0, .int .u8 0, .int .u8 0, .int .u8 0, .int .u8 0, .int .u8 0, .int .u8 0, .int .u8 0, .int .u8 0, .int .u8 0, .int .u8 0, .int .u8 0, .int .u8 0, .int .u8 0, .slice none 0 0, .map none] : List Value)) rfl en_131 (df_AssignReplicasToDirsRequestDirectoryTopic _ _ _ _ _ _ _ _ _ _ _ _ _ _ _ _ _ _) hT6 rfl (fun u7 ht7 => ?_)
      refine at_cd ?_
      refine cd_sq ?_
      refine rg_move rfl rfl ?_
      refine at_cd ?_
      have hR := RsU.start (F := F_sAssignReplicasToDirsRequestDirectoryTopic) (v0 := v) (q := q) (st := st6) (z := false) (U := (dcU q (dcL F_sAssignReplicasToDirsRequestDirectoryTopic v q st6).2).1) (s := u7) (v := v6) (RSv.mv hv6 ht7) hK6
      obtain ⟨E6, hE6⟩ : ∃ E, E = (dcL F_sAssignReplicasToDirsRequestDirectoryTopic v q st6).2 := ⟨_, rfl⟩
      rw [← hE6] at hR
      obtain ⟨Y6, hY6⟩ : ∃ Y : Tre, Y = .mk 0 [] false (dcL F_sAssignReplicasToDirsRequestDirectoryTopic v q st6).1 (dcU q E6).1 := ⟨_, rfl⟩
      have hYu6 : Y6.u = (dcU q E6).1 := by rw [hY6]; rfl
      rw [← hY6] at hR
      have hR : RsU u7 [.mk 7 0 (-1) (-1) (-1) 0 0 [], .mk 11 0 (-1) (-1) (-1) 0 10 F_sAssignReplicasToDirsRequestDirectoryTopicPartition] [] v q Y6 st6 E6 v6 [] := hR
      have hbad6 : E6.2 = true → _ := fun h => hbad3 (hbd6 (dcE_bad (by rw [← hE6]; exact h)))
      refine cd_eqH (H' := RdX _ v6 st6.2 :: mk6 ([] ++ ([.int .u8 0, .int .u8 0, .int .u8 0, .int .u8 0, .int .u8 0, .int .u8 0, .int .u8 0, .int .u8 0, .int .u8 0, .int .u8 0, .int .u8 0, .int .u8 0, .int .u8 0, .int .u8 0, .int .u8 0, .int .u8 0, .slice none 0 0, .map none] : List Value)) :: _) rfl ?_
      refine cd_sq ?_
      refine st_uuidU (zc := List.replicate 16 (.int .u8 0)) (zs := [.slice none 0 0, .map none]) rfl hR (hasB_all hv0) rfl en_130 gx_Uuid (dcF_sc (by decide)) uu_MU rfl hT6 rfl rfl Tryd.underlying158 rfl ti_16_uint8.size rfl (po_eq (show 0 = 0 + fszs _ by kernel_rfl)) ti_16_uint8 rfl Tryd.underlying117 rfl (fun u8 v8 st8 done8 ht8 hR => ?_)
      refine at_cd ?_
      refine cd_sq ?_
      refine st_listU (zc := ([.int .i32 0, .map none] : List Value)) hR (hasB_all hv0) (by decide) rfl rfl rfl hT6 rfl Tryd.underlying158 rfl tiSl_kmsg_AssignReplicasToDirsRequestDirectoryTopicPartition.size rfl (po_eq (show 16 = 0 + fszs _ by kernel_rfl)) tiSl_kmsg_AssignReplicasToDirsRequestDirectoryTopicPartition.size Tryd.underlying156 Tryd.underlying21 tipub_kmsg_AssignReplicasToDirsRequestDirectoryTopicPartition rfl rfl (by kernel_rfl) (by decide) (by decide) (fun q hq => .inr (hO_push hT3 (fun q hq => .inr (hO_push hT (fun q hq => .inl (by simpa [Ent.blk] using hq)) _ q hq)) _ q hq)) rfl rfl rfl rfl rfl rfl rfl rfl rfl rfl rfl rfl rfl (fun hb9 uA9 vA9 LA9 NA9 htA9 hsA9 => ret_early (i := 2) (EG.mv hG (((((((((ht0.trans ht1).trans ht2).trans ht3).trans ht4).trans ht5).trans ht6).trans ht7).trans ht8).trans htA9)) (hsA9 _ _ rfl) rfl rfl rfl rfl (fun u r hr => ⟨_, by rw [hmk], .inl ⟨hbad6 hb9, hr⟩⟩)) (fun gb9 cap9 m9 i9 st9 u9 v9 xs9 N9 X9 hi9 hm9 hK9 ht9 hxl9 hv9 hbd9 kb9 => ?_) (fun uu9 vv9 st9 done9 hh9 hR => ?_)
      · skip
        refine cd_sq ?_
        refine rg_ix rfl rfl hi9 Tryd.underlying156 tipub_kmsg_AssignReplicasToDirsRequestDirectoryTopicPartition.size rfl ?_
        refine at_cd ?_
        obtain ⟨mk9, hmk9⟩ : ∃ mk : List Value → Ent, mk = fun w => .row (.slice (some ⟨gb9, 0, none⟩) m9 cap9) 161 2 m9 (xs9 ++ (w ++ (List.replicate (m9 - (i9 + 1)) ([.int .i32 0, .map none] : List Value)).flatten)) := ⟨_, rfl⟩
        have hT9 : Tgt mk9 gb9 (0 + i9 * 2) 2 := by rw [hmk9]; exact (Tgt.row gb9 cap9 m9 2 161).mid _ _ _ _ (list_fits hi9 hxl9 rfl) (by rw [hxl9])
        refine cd_eqH (H' := RdX _ v9 st9.2 :: mk9 ([.int .i32 0, .map none] : List Value) :: _) (by rw [hmk9]) ?_
        refine cd_sq ?_
        refine rg_dflt (z2 := ([.int .i32 0, .map none] : List Value)) rfl en_132 (df_AssignReplicasToDirsRequestDirectoryTopicPartition _ _) hT9 rfl (fun u10 ht10 => ?_)
        refine at_cd ?_
        refine cd_sq ?_
        refine rg_move rfl rfl ?_
        refine at_cd ?_
        have hR := RsU.start (F := F_sAssignReplicasToDirsRequestDirectoryTopicPartition) (v0 := v) (q := q) (st := st9) (z := false) (U := (dcU q (dcL F_sAssignReplicasToDirsRequestDirectoryTopicPartition v q st9).2).1) (s := u10) (v := v9) (RSv.mv hv9 ht10) hK9
        obtain ⟨E9, hE9⟩ : ∃ E, E = (dcL F_sAssignReplicasToDirsRequestDirectoryTopicPartition v q st9).2 := ⟨_, rfl⟩
        rw [← hE9] at hR
        obtain ⟨Y9, hY9⟩ : ∃ Y : Tre, Y = .mk 0 [] false (dcL F_sAssignReplicasToDirsRequestDirectoryTopicPartition v q st9).1 (dcU q E9).1 := ⟨_, rfl⟩
        have hYu9 : Y9.u = (dcU q E9).1 := by rw [hY9]; rfl
        rw [← hY9] at hR
        have hR : RsU u10 [.mk 3 0 (-1) (-1) (-1) 0 0 []] [] v q Y9 st9 E9 v9 [] := hR
        have hbad9 : E9.2 = true → _ := fun h => hbad6 (hbd9 (dcE_bad (by rw [← hE9]; exact h)))
        refine cd_eqH (H' := RdX _ v9 st9.2 :: mk9 ([] ++ ([.int .i32 0, .map none] : List Value)) :: _) rfl ?_
        refine cd_sq ?_
        refine st_numU (z := .int .i32 0) hR (hasB_all hv0) rfl en_122 fx_i32 rfl hT9 rfl Tryd.underlying161 rfl tiint32.size rfl (po_eq (show 0 = 0 + fszs _ by kernel_rfl)) tiint32.size rfl rfl (fun u11 v11 st11 done11 ht11 hR => ?_)
        refine at_cd ?_
        refine st_tagsU (F := F_sAssignReplicasToDirsRequestDirectoryTopicPartition) hR hYu9 rfl rfl rfl hT9 rfl Tryd.underlying161 rfl tipub_kmsg_Tags.size rfl (po_eq (show 1 = 0 + fszs _ by kernel_rfl)) tipub_kmsg_Tags.size rfl rfl (fun u12 v12 cs12 ht12 hv hM => ?_)
        refine at_eqH (H' := RdX _ _ _ :: .row (.slice (some ⟨gb9, 0, none⟩) m9 cap9) 161 2 m9 (xs9 ++ (_ ++ (List.replicate (m9 - (i9 + 1)) ([.int .i32 0, .map none] : List Value)).flatten)) :: _) (by rw [hmk9]) ?_
        rw [hY9, hE9] at hM
        rw [hE9, ← dcE_part] at hv ⊢
        exact at_sub (.skip rfl (.skip rfl .rfl')) (kb9 _ _ _ ((ht10.trans ht11).trans ht12) (REl_partU hM) hv)
      refine at_cd ?_
      refine st_tagsU (F := F_sAssignReplicasToDirsRequestDirectoryTopic) hR hYu6 rfl rfl rfl hT6 rfl Tryd.underlying158 rfl tipub_kmsg_Tags.size rfl (po_eq (show 17 = 0 + fszs _ by kernel_rfl)) tipub_kmsg_Tags.size rfl rfl (fun u13 v13 cs13 ht13 hv hM => ?_)
      refine at_eqH (H' := RdX _ _ _ :: .row (.slice (some ⟨gb6, 0, none⟩) m6 cap6) 158 18 m6 (xs6 ++ (_ ++ (List.replicate (m6 - (i6 + 1)) ([.int .u8 0, .int .u8 0, .int .u8 0, .int .u8 0, .int .u8 0, .int .u8 0, .int .u8 0, .int .u8 0, .int .u8 0, .int .u8 0, .int .u8 0, .int .u8 0, .int .u8 0, .int .u8 0, .int .u8 0, .int .u8 0, .slice none 0 0, .map none] : List Value)).flatten)) :: _) (by rw [hmk6]) ?_
      rw [hY6, hE6] at hM
      rw [hE6, ← dcE_part] at hv ⊢
      exact at_sub (.skip rfl (.skip rfl .rfl')) (kb6 _ _ _ (((ht7.trans ht8).trans hh9).trans ht13) (REl_partU hM) hv)
    refine at_cd ?_
    refine st_tagsU (F := F_sAssignReplicasToDirsRequestDirectory) hR hYu3 rfl rfl rfl hT3 rfl Tryd.underlying120 rfl tipub_kmsg_Tags.size rfl (po_eq (show 17 = 0 + fszs _ by kernel_rfl)) tipub_kmsg_Tags.size rfl rfl (fun u14 v14 cs14 ht14 hv hM => ?_)
    refine at_eqH (H' := RdX _ _ _ :: .row (.slice (some ⟨gb3, 0, none⟩) m3 cap3) 120 18 m3 (xs3 ++ (_ ++ (List.replicate (m3 - (i3 + 1)) ([.int .u8 0, .int .u8 0, .int .u8 0, .int .u8 0, .int .u8 0, .int .u8 0, .int .u8 0, .int .u8 0, .int .u8 0, .int .u8 0, .int .u8 0, .int .u8 0, .int .u8 0, .int .u8 0, .int .u8 0, .int .u8 0, .slice none 0 0, .map none] : List Value)).flatten)) :: _) (by rw [hmk3]) ?_
    rw [hY3, hE3] at hM
    rw [hE3, ← dcE_part] at hv ⊢
    exact at_sub (.skip rfl (.skip rfl .rfl')) (kb3 _ _ _ (((ht4.trans ht5).trans hh6).trans ht14) (REl_partU hM) hv)
  refine at_cd ?_
  refine cd_sq ?_
  refine st_tagsU (F := F_AssignReplicasToDirsRequest) hR hYu0 rfl rfl rfl hT rfl Tryd.underlying114 rfl tipub_kmsg_Tags.size rfl (po_eq (show 4 = 1 + fszs _ by kernel_rfl)) tipub_kmsg_Tags.size rfl rfl (fun u15 v15 cs15 ht15 hv hM => ?_)
  refine at_cd ?_
  have hfin : (dcP F_AssignReplicasToDirsRequest v q st0).2.2 = (dcU q E0).2.2 := by rw [hE0]; rfl
  have hYP : Y0 = (dcP F_AssignReplicasToDirsRequest v q st0).1 := by rw [hY0, hE0]; rfl
  refine cd_sr ?_
  refine ln_callT (i := 0) (vals := [.pointer (some ⟨br, 0, none⟩)]) en_113 rfl rfl (fun u hu hok hav => gx_Complete u br _ _ (EG.mv hG (((((ht0.trans ht1).trans ht2).trans hh3).trans ht15).trans hu)) hok hav) rfl ?_
  rintro u9 r9 _ ht9 ⟨ux9, ⟨hr9, rfl⟩, hx9⟩
  refine ln_pv (pv_assign rfl) rfl ?_
  refine ln_cd ?_
  refine cd_ret ?_
  refine at_retT (i := 1) rfl rfl rfl (fun w hS => ⟨_, by rw [hmk], ?_⟩)
  rcases hr9 with ⟨h9, rfl⟩ | ⟨h9, h8⟩
  · exact .inr ⟨by rw [hfin]; exact h9, rfl, by rw [← hYP]; exact (hM.mv ht9).mv (hS.trFinT _ _)⟩
  · exact .inl ⟨by rw [hfin]; exact h9, h8⟩
end K
end Go.Proofs.YtjjfpdofkdolnaaDoor
