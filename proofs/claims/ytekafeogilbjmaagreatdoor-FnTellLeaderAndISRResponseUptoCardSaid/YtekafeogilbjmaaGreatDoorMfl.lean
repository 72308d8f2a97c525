import Derived.Test.YtekafeogilbjmaaGreatDoorTn
import Derived.Test.YtekafeogilbjmaaGreatDoorTk
import Derived.Test.YtekafeogilbjmaaGreatDoorW4
import Derived.Test.YtekafeogilbjmaaGreatDoorMft
import Derived.Test.YtekafeogilbjmaaGreatDoorP4
import Derived.Test.YtekafeogilbjmaaGreatDoorS10
set_option linter.unusedVariables false
set_option linter.unusedSimpArgs false
namespace Go.Proofs.YtekafeogilbjmaaGreatDoor
namespace K
open Go Go.Lib
theorem df_LeaderAndISRResponse (z0 z1 z2 z3 z4 : Value) : DfC 154 [z0, z1, z2, z3, z4] [z0, z1, z2, z3, z4] := by
  intro mk b o hT t hok hav
  refine ct_enter Tryz.func154 rfl Tryz.ntmps154 rfl hok hav (by rw [hT.blk]; simp) ?_
  refine cd_skip ?_
  exact at_retT0 (i := 0) rfl rfl (fun w hS => ⟨rfl, rfl⟩)
theorem df_LeaderAndISRResponseTopicPartition (z0 z1 z2 z3 : Value) : DfC 212 [z0, z1, z2, z3] [z0, z1, z2, z3] := by
  intro mk b o hT t hok hav
  refine ct_enter Tryz.func212 rfl Tryz.ntmps212 rfl hok hav (by rw [hT.blk]; simp) ?_
  refine cd_skip ?_
  exact at_retT0 (i := 0) rfl rfl (fun w hS => ⟨rfl, rfl⟩)
theorem df_LeaderAndISRResponseTopic (z0 z1 z2 z3 z4 z5 z6 z7 z8 z9 z10 z11 z12 z13 z14 z15 z16 z17 : Value) : DfC 213 [z0, z1, z2, z3, z4, z5, z6, z7, z8, z9, z10, z11, z12, z13, z14, z15, z16, z17] [z0, z1, z2, z3, z4, z5, z6, z7, z8, z9, z10, z11, z12, z13, z14, z15, z16, z17] := by
  intro mk b o hT t hok hav
  refine ct_enter Tryz.func213 rfl Tryz.ntmps213 rfl hok hav (by rw [hT.blk]; simp) ?_
  refine cd_skip ?_
  exact at_retT0 (i := 0) rfl rfl (fun w hS => ⟨rfl, rfl⟩)
theorem read_LeaderAndISRResponse (t : Vw) (b : Nat) (v : Int) (x : Tre) (sv : Value) (hsv : RSv t sv (partB F_LeaderAndISRResponse v (flexB 4 v) x)) (hk : keysT x) (h0 : 0 ≤ v) (h1 : v ≤ 7) (hok : (MsgBox b 156 (.int .i16 v :: ([.int .i16 0, .slice none 0 0, .slice none 0 0, .map none] : List Value))).ok t.w) (hav : ∀ q ∈ (MsgBox b 156 (.int .i16 v :: ([.int .i16 0, .slice none 0 0, .slice none 0 0, .map none] : List Value))).blk, t.av q) : CT Tryz.prog 155 [.pointer (some ⟨b, 0, none⟩), sv, .bool false] t (MsgBox b 156 (.int .i16 v :: ([.int .i16 0, .slice none 0 0, .slice none 0 0, .map none] : List Value))) fun u r e' => r = .nilIface ∧ ∃ cells, e' = MsgBox b 156 (.int .i16 v :: cells) ∧ RMp u F_LeaderAndISRResponse (imT F_LeaderAndISRResponse v (flexB 4 v) x) cells := by
  have hv0 := h0
  have hnt : ntFs F_LeaderAndISRResponse = true := by kernel_rfl
  generalize hqd : flexB 4 v = q at *
  have hq0 : decide (v ≥ 4) = q := by rw [← hqd]; simp [flexB]
  obtain ⟨adS, cS, rfl, hcS⟩ := RSv.shape hsv
  refine ct_enter Tryz.func155 rfl Tryz.ntmps155 rfl hok hav (by simp [Ent.blk]) ?_
  refine cd_sq ?_
  refine rg_const rfl ?_
  refine at_cd ?_
  refine cd_sr ?_
  refine ln_pv (pv_move rfl) rfl ?_
  refine ln_callT (i := 0) (vals := [.pointer (some ⟨b, 0, none⟩)]) en_154 rfl rfl (fun u hu hok hav => df_LeaderAndISRResponse _ _ _ _ _ (fun w => .obj b (.cells w.toArray 156)) b 0 (Tgt.obj b 156 5) u hok hav) rfl ?_
  rintro u1 _ _ ht1 ⟨ux1, ⟨rfl, rfl⟩, hx1⟩
  refine ln_cd ?_
  refine cd_sr ?_
  refine ln_pv (pv_move rfl) rfl ?_
  refine ln_pv (pv_struct [(0, 1), (1, 1)] (l := [_, _]) rfl Tryz.underlying199 tipub_kmsg_inner_kbin_Reader (by kernel_rfl) rfl rfl) rfl ?_
  refine ln_alloc (l := [.slice none 0 0, .bool false]) tipub_kmsg_inner_kbin_Reader rfl rfl (fun br => ?_)
  refine ln_storeW (i := 0) (vs := [_, .bool false]) rfl rfl rfl rfl tipub_kmsg_inner_kbin_Reader.size rfl (by simp) ?_
  refine ln_cd ?_
  refine cd_sr ?_
  refine ln_pv (pv_move rfl) rfl ?_
  refine ln_pv (pv_nilCheck rfl) rfl ?_
  refine ln_pv (pv_fieldAddr (off := 0) (r := 0) Tryz.underlying156 rfl tiint16.size rfl rfl rfl) rfl ?_
  refine ln_pv (pv_ldo (i := 1) (v := .int .i16 v) rfl Tryz.underlying46 rfl rfl rfl) rfl ?_
  refine ln_pv (pv_assign rfl) rfl ?_
  refine ln_cd ?_
  refine cd_sq ?_
  refine rg_blank rfl rfl ?_
  refine at_cd ?_
  refine cd_sr ?_
  refine ln_pv (pv_move rfl) rfl ?_
  refine ln_pv (pv_geq rfl rfl) rfl ?_
  refine ln_pv (pv_assign rfl) rfl ?_
  rw [hq0]
  refine ln_cd ?_
  refine cd_sq ?_
  refine rg_blank rfl rfl ?_
  refine at_cd ?_
  refine cd_sr ?_
  refine ln_pv (pv_move rfl) rfl ?_
  refine ln_pv (pv_assign rfl) rfl ?_
  refine ln_cd ?_
  refine cd_sub_ (L' := [(10, .pointer (some ⟨b, 0, none⟩)), (9, .bool q), (8, .int .i16 v), (7, .pointer (some ⟨br, 0, none⟩)), (2, .bool false)]) (.put rfl (.put rfl (.put rfl (.put rfl (.put rfl .nil))))) ?_
  obtain ⟨mk, hmk⟩ : ∃ mk : List Value → Ent, mk = fun w => MsgBox b 156 (.int .i16 v :: w) := ⟨_, rfl⟩
  have hT : Tgt mk b 1 4 := by rw [hmk]; exact Tgt.behind b 156 _ 4
  refine cd_eqH (H' := [RdE br _, mk ([] ++ ([.int .i16 0, .slice none 0 0, .slice none 0 0, .map none] : List Value))]) (by rw [hmk]; rfl) ?_
  have hR : Rs u1 [.mk 2 0 (-1) (-1) (-1) 0 0 [], .mk 11 0 4 (-1) (-1) 0 10 F_sLeaderAndISRResponseTopicPartition, .mk 11 5 (-1) (-1) (-1) 0 10 F_sLeaderAndISRResponseTopic] [] v q x (imT F_LeaderAndISRResponse v q x) (tgsB q x ++ []) _ [] := Rs.start (F := F_LeaderAndISRResponse) (RSv.part hnt (by rw [List.append_nil]; exact RSv.mv hsv ht1)) hnt
  refine cd_sq ?_
  refine st_num (z := .int .i16 0) hR (hasB_all hv0) rfl en_185 (Fc.num (by decide) (by decide) (by decide) (fun null => sc_i16 null _ _)) rfl hT rfl Tryz.underlying156 rfl tiint16.size rfl (po_eq (show 1 = 1 + fszs _ by kernel_rfl)) tiint16.size rfl rfl (fun u1 v1 done1 ht1 hR => ?_)
  refine at_cd ?_
  refine cd_sq ?_
  refine st_if2 (zc := ([.slice none 0 0] : List Value)) (zs := ([.slice none 0 0, .map none] : List Value)) rfl rfl hR (hasB_to (by decide)) (fun u => df_list u) rfl (fun u2 v2 done2 ht2 hR => ?_) (fun hh kk => ?_)
  rotate_left
  · skip
    refine st_list (zc := ([.string .empty, .int .i32 0, .int .i16 0, .map none] : List Value)) hR hh (by decide) rfl rfl rfl hT rfl Tryz.underlying156 rfl tiSl_kmsg_LeaderAndISRResponseTopicPartition.size rfl (po_eq (show 2 = 1 + fszs _ by kernel_rfl)) tiSl_kmsg_LeaderAndISRResponseTopicPartition.size Tryz.underlying153 Tryz.underlying21 tipub_kmsg_LeaderAndISRResponseTopicPartition rfl rfl (by kernel_rfl) (by decide) (by decide) (fun q hq => .inl (by simpa [Ent.blk] using hq)) (fun z => part_pos (plain_skip (plain_posi (by decide) (by decide) (by decide) (hasB_all hv0)))) rfl rfl rfl rfl rfl rfl rfl rfl rfl rfl rfl rfl rfl (keysT.at_ hk _) (fun gb3 cap3 m3 i3 x3 u3 v3 xs3 rest3 N3 X3 hi3 hm3 hk3 ht3 hxl3 hv3 kb3 => ?_) kk
    have hnt3 : ntFs F_sLeaderAndISRResponseTopicPartition = true := by kernel_rfl
    have hvp3 := RSv.el hnt3 hv3
    refine cd_sq ?_
    refine rg_ix rfl rfl hi3 Tryz.underlying153 tipub_kmsg_LeaderAndISRResponseTopicPartition.size rfl ?_
    refine at_cd ?_
    obtain ⟨mk3, hmk3⟩ : ∃ mk : List Value → Ent, mk = fun w => .row (.slice (some ⟨gb3, 0, none⟩) m3 cap3) 160 4 m3 (xs3 ++ (w ++ (List.replicate (m3 - (i3 + 1)) ([.string .empty, .int .i32 0, .int .i16 0, .map none] : List Value)).flatten)) := ⟨_, rfl⟩
    have hT3 : Tgt mk3 gb3 (0 + i3 * 4) 4 := by rw [hmk3]; exact (Tgt.row gb3 cap3 m3 4 160).mid _ _ _ _ (list_fits hi3 hxl3 rfl) (by rw [hxl3])
    refine cd_eqH (H' := RdE _ v3 :: mk3 ([.string .empty, .int .i32 0, .int .i16 0, .map none] : List Value) :: _) (by rw [hmk3]) ?_
    refine cd_sq ?_
    refine rg_dflt (z2 := ([.string .empty, .int .i32 0, .int .i16 0, .map none] : List Value)) rfl en_212 (df_LeaderAndISRResponseTopicPartition _ _ _ _) hT3 rfl (fun u4 ht4 => ?_)
    refine at_cd ?_
    refine cd_sq ?_
    refine rg_move rfl rfl ?_
    refine at_cd ?_
    have hR : Rs u4 [.mk 8 0 4 (-1) (-1) 0 0 [], .mk 3 0 (-1) (-1) (-1) 0 0 [], .mk 2 0 (-1) (-1) (-1) 0 0 []] [] _ q x3 (.mk 0 [] false (imL F_sLeaderAndISRResponseTopicPartition _ q x3 0) (imU F_sLeaderAndISRResponseTopicPartition q x3.u)) (tgsB q x3 ++ rest3) v3 [] := Rs.start (F := F_sLeaderAndISRResponseTopicPartition) (RSv.mv hvp3 ht4) hnt3
    refine cd_eqH (H' := RdE _ v3 :: mk3 ([] ++ ([.string .empty, .int .i32 0, .int .i16 0, .map none] : List Value)) :: _) rfl ?_
    refine cd_sq ?_
    refine st_if2 (zc := ([.string .empty] : List Value)) (zs := ([.int .i32 0, .int .i16 0, .map none] : List Value)) rfl rfl hR (hasB_to (by decide)) (fun u => df_str u (by decide)) rfl (fun u5 v5 done5 ht5 hR => ?_) (fun hh kk => ?_)
    rotate_left
    · skip
      refine cd_sq ?_
      refine rg_const rfl ?_
      refine at_cd ?_
      exact st_str (z := .string .empty) hR hh rfl rfl rfl en_200 en_201 (fun h => Fc.of (by decide) (by decide) (by decide) (sc_cstr _ h _)) (fun h => Fc.of (by decide) (by decide) (by decide) (sc_str _ h _)) rfl hT3 rfl Tryz.underlying160 rfl tistring.size rfl (po_eq (show 0 = 0 + fszs _ by kernel_rfl)) tistring.size rfl rfl rfl rfl rfl kk
    refine at_cd ?_
    refine cd_sq ?_
    refine st_num (z := .int .i32 0) hR (hasB_all hv0) rfl en_179 (Fc.num (by decide) (by decide) (by decide) (fun null => sc_i32 null _ _)) rfl hT3 rfl Tryz.underlying160 rfl tiint32.size rfl (po_eq (show 1 = 0 + fszs _ by kernel_rfl)) tiint32.size rfl rfl (fun u6 v6 done6 ht6 hR => ?_)
    refine at_cd ?_
    refine cd_sq ?_
    refine st_num (z := .int .i16 0) hR (hasB_all hv0) rfl en_185 (Fc.num (by decide) (by decide) (by decide) (fun null => sc_i16 null _ _)) rfl hT3 rfl Tryz.underlying160 rfl tiint16.size rfl (po_eq (show 2 = 0 + fszs _ by kernel_rfl)) tiint16.size rfl rfl (fun u7 v7 done7 ht7 hR => ?_)
    refine at_cd ?_
    refine st_tags (F := F_sLeaderAndISRResponseTopicPartition) hnt3 hR (keysT.open hk3).1 rfl rfl rfl hT3 rfl Tryz.underlying160 rfl tipub_kmsg_Tags.size rfl (po_eq (show 3 = 0 + fszs _ by kernel_rfl)) tipub_kmsg_Tags.size rfl rfl (fun u8 v8 cs8 ht8 hv hM => ?_)
    refine at_eqH (H' := RdE _ _ :: .row (.slice (some ⟨gb3, 0, none⟩) m3 cap3) 160 4 m3 (xs3 ++ (_ ++ (List.replicate (m3 - (i3 + 1)) ([.string .empty, .int .i32 0, .int .i16 0, .map none] : List Value)).flatten)) :: _) (by rw [hmk3]) ?_
    exact at_sub (.skip rfl (.skip rfl .rfl')) (kb3 _ _ _ ((((ht4.trans ht5).trans ht6).trans ht7).trans ht8) (REl_part hM) hv)
  refine at_cd ?_
  refine cd_sq ?_
  refine st_if (zc := ([.slice none 0 0] : List Value)) (zs := ([.map none] : List Value)) rfl rfl hR (hasB_from) (fun u => df_list u) rfl (fun u9 v9 done9 ht9 hR => ?_) (fun hh kk => ?_)
  rotate_left
  · skip
    refine st_list (zc := ([.int .u8 0, .int .u8 0, .int .u8 0, .int .u8 0, .int .u8 0, .int .u8 0, .int .u8 0, .int .u8 0, .int .u8 0, .int .u8 0, .int .u8 0, .int .u8 0, .int .u8 0, .int .u8 0, .int .u8 0, .int .u8 0, .slice none 0 0, .map none] : List Value)) hR hh (by decide) rfl rfl rfl hT rfl Tryz.underlying156 rfl tiSl_kmsg_LeaderAndISRResponseTopic.size rfl (po_eq (show 3 = 1 + fszs _ by kernel_rfl)) tiSl_kmsg_LeaderAndISRResponseTopic.size Tryz.underlying154 Tryz.underlying21 tipub_kmsg_LeaderAndISRResponseTopic rfl rfl (by kernel_rfl) (by decide) (by decide) (fun q hq => .inl (by simpa [Ent.blk] using hq)) (fun z => part_pos (plain_pos (by decide) (by decide) (by decide) (hasB_all hv0))) rfl rfl rfl rfl rfl rfl rfl rfl rfl rfl rfl rfl rfl (keysT.at_ hk _) (fun gb10 cap10 m10 i10 x10 u10 v10 xs10 rest10 N10 X10 hi10 hm10 hk10 ht10 hxl10 hv10 kb10 => ?_) kk
    have hnt10 : ntFs F_sLeaderAndISRResponseTopic = true := by kernel_rfl
    have hvp10 := RSv.el hnt10 hv10
    refine cd_sq ?_
    refine rg_ix rfl rfl hi10 Tryz.underlying154 tipub_kmsg_LeaderAndISRResponseTopic.size rfl ?_
    refine at_cd ?_
    obtain ⟨mk10, hmk10⟩ : ∃ mk : List Value → Ent, mk = fun w => .row (.slice (some ⟨gb10, 0, none⟩) m10 cap10) 164 18 m10 (xs10 ++ (w ++ (List.replicate (m10 - (i10 + 1)) ([.int .u8 0, .int .u8 0, .int .u8 0, .int .u8 0, .int .u8 0, .int .u8 0, .int .u8 0, .int .u8 0, .int .u8 0, .int .u8 0, .int .u8 0, .int .u8 0, .int .u8 0, .int .u8 0, .int .u8 0, .int .u8 0, .slice none 0 0, .map none] : List Value)).flatten)) := ⟨_, rfl⟩
    have hT10 : Tgt mk10 gb10 (0 + i10 * 18) 18 := by rw [hmk10]; exact (Tgt.row gb10 cap10 m10 18 164).mid _ _ _ _ (list_fits hi10 hxl10 rfl) (by rw [hxl10])
    refine cd_eqH (H' := RdE _ v10 :: mk10 ([.int .u8 0, .int .u8 0, .int .u8 0, .int .u8 0, .int .u8 0, .int .u8 0, .int .u8 0, .int .u8 0, .int .u8 0, .int .u8 0, .int .u8 0, .int .u8 0, .int .u8 0, .int .u8 0, .int .u8 0, .int .u8 0, .slice none 0 0, .map none] : List Value) :: _) (by rw [hmk10]) ?_
    refine cd_sq ?_
    refine rg_dflt (z2 := ([.int .u8 0, .int .u8 0, .int .u8 0, .int .u8 0, .int .u8 0, .int .u8 0, .int .u8 0, .int .u8 0, .int .u8 0, .int .u8 0, .int .u8 0, .int .u8 0, .int .u8 0, .int .u8 0, .int .u8 0, .int .u8 0, .slice none 0 0, .map none] : List Value)) rfl en_213 (df_LeaderAndISRResponseTopic _ _ _ _ _ _ _ _ _ _ _ _ _ _ _ _ _ _) hT10 rfl (fun u11 ht11 => ?_)
    refine at_cd ?_
    refine cd_sq ?_
    refine rg_move rfl rfl ?_
    refine at_cd ?_
    have hR : Rs u11 [.mk 7 0 (-1) (-1) (-1) 0 0 [], .mk 11 0 (-1) (-1) (-1) 0 10 F_sLeaderAndISRResponseTopicPartition] [] _ q x10 (.mk 0 [] false (imL F_sLeaderAndISRResponseTopic _ q x10 0) (imU F_sLeaderAndISRResponseTopic q x10.u)) (tgsB q x10 ++ rest10) v10 [] := Rs.start (F := F_sLeaderAndISRResponseTopic) (RSv.mv hvp10 ht11) hnt10
    refine cd_eqH (H' := RdE _ v10 :: mk10 ([] ++ ([.int .u8 0, .int .u8 0, .int .u8 0, .int .u8 0, .int .u8 0, .int .u8 0, .int .u8 0, .int .u8 0, .int .u8 0, .int .u8 0, .int .u8 0, .int .u8 0, .int .u8 0, .int .u8 0, .int .u8 0, .int .u8 0, .slice none 0 0, .map none] : List Value)) :: _) rfl ?_
    refine cd_sq ?_
    refine st_uuid (zc := List.replicate 16 (.int .u8 0)) (zs := [.slice none 0 0, .map none]) rfl hR (hasB_all hv0) rfl en_204 (uuid_length _) (fun u => by rw [uu_B]; exact rd_Uuid u _ (uuid_length _)) (fun u => uu_M u) rfl hT10 rfl rfl Tryz.underlying164 rfl ti_16_uint8.size rfl (po_eq (show 0 = 0 + fszs _ by kernel_rfl)) ti_16_uint8 rfl Tryz.underlying136 rfl (fun u12 v12 done12 ht12 hR => ?_)
    refine at_cd ?_
    refine cd_sq ?_
    refine st_list (zc := ([.string .empty, .int .i32 0, .int .i16 0, .map none] : List Value)) hR (hasB_all hv0) (by decide) rfl rfl rfl hT10 rfl Tryz.underlying164 rfl tiSl_kmsg_LeaderAndISRResponseTopicPartition.size rfl (po_eq (show 16 = 0 + fszs _ by kernel_rfl)) tiSl_kmsg_LeaderAndISRResponseTopicPartition.size Tryz.underlying153 Tryz.underlying21 tipub_kmsg_LeaderAndISRResponseTopicPartition rfl rfl (by kernel_rfl) (by decide) (by decide) (fun q hq => .inr (hO_push hT (fun q hq => .inl (by simpa [Ent.blk] using hq)) _ q hq)) (fun z => part_pos (plain_skip (plain_posi (by decide) (by decide) (by decide) (hasB_all hv0)))) rfl rfl rfl rfl rfl rfl rfl rfl rfl rfl rfl rfl rfl (keysT.at_ hk10 _) (fun gb13 cap13 m13 i13 x13 u13 v13 xs13 rest13 N13 X13 hi13 hm13 hk13 ht13 hxl13 hv13 kb13 => ?_) (fun uu13 vv13 done13 hh13 hR => ?_)
    · skip
      have hnt13 : ntFs F_sLeaderAndISRResponseTopicPartition = true := by kernel_rfl
      have hvp13 := RSv.el hnt13 hv13
      refine cd_sq ?_
      refine rg_ix rfl rfl hi13 Tryz.underlying153 tipub_kmsg_LeaderAndISRResponseTopicPartition.size rfl ?_
      refine at_cd ?_
      obtain ⟨mk13, hmk13⟩ : ∃ mk : List Value → Ent, mk = fun w => .row (.slice (some ⟨gb13, 0, none⟩) m13 cap13) 160 4 m13 (xs13 ++ (w ++ (List.replicate (m13 - (i13 + 1)) ([.string .empty, .int .i32 0, .int .i16 0, .map none] : List Value)).flatten)) := ⟨_, rfl⟩
      have hT13 : Tgt mk13 gb13 (0 + i13 * 4) 4 := by rw [hmk13]; exact (Tgt.row gb13 cap13 m13 4 160).mid _ _ _ _ (list_fits hi13 hxl13 rfl) (by rw [hxl13])
      refine cd_eqH (H' := RdE _ v13 :: mk13 ([.string .empty, .int .i32 0, .int .i16 0, .map none] : List Value) :: _) (by rw [hmk13]) ?_
      refine cd_sq ?_
      refine rg_dflt (z2 := ([.string .empty, .int .i32 0, .int .i16 0, .map none] : List Value)) rfl en_212 (df_LeaderAndISRResponseTopicPartition _ _ _ _) hT13 rfl (fun u14 ht14 => ?_)
      refine at_cd ?_
      refine cd_sq ?_
      refine rg_move rfl rfl ?_
      refine at_cd ?_
      have hR : Rs u14 [.mk 8 0 4 (-1) (-1) 0 0 [], .mk 3 0 (-1) (-1) (-1) 0 0 [], .mk 2 0 (-1) (-1) (-1) 0 0 []] [] _ q x13 (.mk 0 [] false (imL F_sLeaderAndISRResponseTopicPartition _ q x13 0) (imU F_sLeaderAndISRResponseTopicPartition q x13.u)) (tgsB q x13 ++ rest13) v13 [] := Rs.start (F := F_sLeaderAndISRResponseTopicPartition) (RSv.mv hvp13 ht14) hnt13
      refine cd_eqH (H' := RdE _ v13 :: mk13 ([] ++ ([.string .empty, .int .i32 0, .int .i16 0, .map none] : List Value)) :: _) rfl ?_
      refine cd_sq ?_
      refine st_if2 (zc := ([.string .empty] : List Value)) (zs := ([.int .i32 0, .int .i16 0, .map none] : List Value)) rfl rfl hR (hasB_to (by decide)) (fun u => df_str u (by decide)) rfl (fun u15 v15 done15 ht15 hR => ?_) (fun hh kk => ?_)
      rotate_left
      · skip
        refine cd_sq ?_
        refine rg_const rfl ?_
        refine at_cd ?_
        exact st_str (z := .string .empty) hR hh rfl rfl rfl en_200 en_201 (fun h => Fc.of (by decide) (by decide) (by decide) (sc_cstr _ h _)) (fun h => Fc.of (by decide) (by decide) (by decide) (sc_str _ h _)) rfl hT13 rfl Tryz.underlying160 rfl tistring.size rfl (po_eq (show 0 = 0 + fszs _ by kernel_rfl)) tistring.size rfl rfl rfl rfl rfl kk
      refine at_cd ?_
      refine cd_sq ?_
      refine st_num (z := .int .i32 0) hR (hasB_all hv0) rfl en_179 (Fc.num (by decide) (by decide) (by decide) (fun null => sc_i32 null _ _)) rfl hT13 rfl Tryz.underlying160 rfl tiint32.size rfl (po_eq (show 1 = 0 + fszs _ by kernel_rfl)) tiint32.size rfl rfl (fun u16 v16 done16 ht16 hR => ?_)
      refine at_cd ?_
      refine cd_sq ?_
      refine st_num (z := .int .i16 0) hR (hasB_all hv0) rfl en_185 (Fc.num (by decide) (by decide) (by decide) (fun null => sc_i16 null _ _)) rfl hT13 rfl Tryz.underlying160 rfl tiint16.size rfl (po_eq (show 2 = 0 + fszs _ by kernel_rfl)) tiint16.size rfl rfl (fun u17 v17 done17 ht17 hR => ?_)
      refine at_cd ?_
      refine st_tags (F := F_sLeaderAndISRResponseTopicPartition) hnt13 hR (keysT.open hk13).1 rfl rfl rfl hT13 rfl Tryz.underlying160 rfl tipub_kmsg_Tags.size rfl (po_eq (show 3 = 0 + fszs _ by kernel_rfl)) tipub_kmsg_Tags.size rfl rfl (fun u18 v18 cs18 ht18 hv hM => ?_)
      refine at_eqH (H' := RdE _ _ :: .row (.slice (some ⟨gb13, 0, none⟩) m13 cap13) 160 4 m13 (xs13 ++ (_ ++ (List.replicate (m13 - (i13 + 1)) ([.string .empty, .int .i32 0, .int .i16 0, .map none] : List Value)).flatten)) :: _) (by rw [hmk13]) ?_
      exact at_sub (.skip rfl (.skip rfl .rfl')) (kb13 _ _ _ ((((ht14.trans ht15).trans ht16).trans ht17).trans ht18) (REl_part hM) hv)
    refine at_cd ?_
    refine st_tags (F := F_sLeaderAndISRResponseTopic) hnt10 hR (keysT.open hk10).1 rfl rfl rfl hT10 rfl Tryz.underlying164 rfl tipub_kmsg_Tags.size rfl (po_eq (show 17 = 0 + fszs _ by kernel_rfl)) tipub_kmsg_Tags.size rfl rfl (fun u19 v19 cs19 ht19 hv hM => ?_)
    refine at_eqH (H' := RdE _ _ :: .row (.slice (some ⟨gb10, 0, none⟩) m10 cap10) 164 18 m10 (xs10 ++ (_ ++ (List.replicate (m10 - (i10 + 1)) ([.int .u8 0, .int .u8 0, .int .u8 0, .int .u8 0, .int .u8 0, .int .u8 0, .int .u8 0, .int .u8 0, .int .u8 0, .int .u8 0, .int .u8 0, .int .u8 0, .int .u8 0, .int .u8 0, .int .u8 0, .int .u8 0, .slice none 0 0, .map none] : List Value)).flatten)) :: _) (by rw [hmk10]) ?_
    exact at_sub (.skip rfl (.skip rfl .rfl')) (kb10 _ _ _ (((ht11.trans ht12).trans hh13).trans ht19) (REl_part hM) hv)
  refine at_cd ?_
  refine cd_sq ?_
  refine st_tags (F := F_LeaderAndISRResponse) hnt hR (keysT.open hk).1 rfl rfl rfl hT rfl Tryz.underlying156 rfl tipub_kmsg_Tags.size rfl (po_eq (show 4 = 1 + fszs _ by kernel_rfl)) tipub_kmsg_Tags.size rfl rfl (fun u20 v20 cs20 ht20 hv hM => ?_)
  refine at_cd ?_
  refine cd_sr ?_
  refine ln_callT (i := 0) (vals := [.pointer (some ⟨br, 0, none⟩)]) en_183 rfl rfl (fun u hu hok hav => rd_Complete u br _ hok hav) rfl ?_
  rintro u9 _ _ ht9 ⟨ux9, ⟨rfl, rfl⟩, hx9⟩
  refine ln_pv (pv_assign rfl) rfl ?_
  refine ln_cd ?_
  refine cd_ret ?_
  exact at_retT (i := 1) rfl rfl rfl (fun w hS => ⟨rfl, _, by rw [hmk], (hM.mv ht9).mv (hS.trFinT _ _)⟩)
theorem newp_LeaderAndISRResponse (t : Vw) (hok : HF [] t.w) (hav : ∀ q ∈ blks [], t.av q) (hnd : (blks []).Nodup) : CH Tryz.prog 89 [] t [] fun u r E' => ∃ b, r = .pointer (some ⟨b, 0, none⟩) ∧ E' = [MsgBox b 156 [.int .i16 0, .int .i16 0, .slice none 0 0, .slice none 0 0, .map none]] := by
  refine ch_enter Tryz.func89 rfl Tryz.ntmps89 rfl hok hav hnd ?_
  refine cd_sr ?_
  refine ln_pv (pv_assign rfl) rfl ?_
  refine ln_cd ?_
  refine cd_sr ?_
  refine ln_alloc tipub_kmsg_LeaderAndISRResponse rfl rfl (fun b => ?_)
  refine ln_cd ?_
  refine cd_sr ?_
  refine ln_callT (i := 0) en_154 rfl rfl (fun u hu hok hav => df_LeaderAndISRResponse _ _ _ _ _ (fun w => .obj b (.cells w.toArray 156)) b 0 (Tgt.obj b 156 5) u hok hav) rfl ?_
  rintro u1 _ _ ht1 ⟨_, ⟨rfl, rfl⟩, _⟩
  refine ln_cd ?_
  refine cd_sr ?_
  refine ln_pv (pv_assign rfl) rfl ?_
  refine ln_cd ?_
  refine cd_ret ?_
  exact at_retHq [MsgBox b 156 [.int .i16 0, .int .i16 0, .slice none 0 0, .slice none 0 0, .map none]] (List.Sublist.refl _) rfl rfl (fun w hS => ⟨b, rfl, rfl⟩)
theorem setd_LeaderAndISRResponse (t : Vw) (b : Nat) (v : Int) (hok : (MsgBox b 156 [.int .i16 0, .int .i16 0, .slice none 0 0, .slice none 0 0, .map none]).ok t.w) (hav : ∀ q ∈ (MsgBox b 156 [.int .i16 0, .int .i16 0, .slice none 0 0, .slice none 0 0, .map none]).blk, t.av q) : CT Tryz.prog 93 [.pointer (some ⟨b, 0, none⟩), .int .i16 v] t (MsgBox b 156 [.int .i16 0, .int .i16 0, .slice none 0 0, .slice none 0 0, .map none]) fun u r e' => e' = MsgBox b 156 [.int .i16 v, .int .i16 0, .slice none 0 0, .slice none 0 0, .map none] := by
  refine ct_enter Tryz.func93 rfl Tryz.ntmps93 rfl hok hav (by simp [Ent.blk]) ?_
  refine cd_region ?_
  refine ln_pv (pv_move rfl) rfl ?_
  refine ln_pv (pv_move rfl) rfl ?_
  refine ln_pv (pv_nilCheck rfl) rfl ?_
  refine ln_pv (pv_fieldAddr (off := 0) (r := 0) Tryz.underlying156 rfl (tiint16).size rfl rfl rfl) rfl ?_
  refine ln_store1 (i := 0) rfl rfl rfl rfl (tiint16).size rfl ?_
  refine ln_nil ?_
  exact at_retT0 (i := 0) rfl rfl (fun w hS => rfl)
theorem readf_LeaderAndISRResponse (t : Vw) (b : Nat) (v : Int) (x : Tre) (sv : Value) (hsv : RSv t sv (partB F_LeaderAndISRResponse v (flexB 4 v) x)) (hk : keysT x) (h0 : 0 ≤ v) (h1 : v ≤ 7) (hok : (MsgBox b 156 (.int .i16 v :: ([.int .i16 0, .slice none 0 0, .slice none 0 0, .map none] : List Value))).ok t.w) (hav : ∀ q ∈ (MsgBox b 156 (.int .i16 v :: ([.int .i16 0, .slice none 0 0, .slice none 0 0, .map none] : List Value))).blk, t.av q) : CT Tryz.prog 94 [.pointer (some ⟨b, 0, none⟩), sv] t (MsgBox b 156 (.int .i16 v :: ([.int .i16 0, .slice none 0 0, .slice none 0 0, .map none] : List Value))) fun u r e' => r = .nilIface ∧ ∃ cells, e' = MsgBox b 156 (.int .i16 v :: cells) ∧ RMp u F_LeaderAndISRResponse (imT F_LeaderAndISRResponse v (flexB 4 v) x) cells := by
  refine ct_enter Tryz.func94 rfl Tryz.ntmps94 rfl hok hav (by simp [Ent.blk]) ?_
  refine cd_sr ?_
  refine ln_pv (pv_assign rfl) rfl ?_
  refine ln_cd ?_
  refine cd_sr ?_
  refine ln_pv (pv_move rfl) rfl ?_
  refine ln_pv (pv_move rfl) rfl ?_
  refine ln_callT (i := 0) en_155 rfl rfl (fun u hu hok hav => read_LeaderAndISRResponse u b v x sv (RSv.mv hsv hu) hk h0 h1 hok hav) rfl ?_
  rintro u2 _ _ ht2 ⟨ux, ⟨rfl, cells, rfl, hM⟩, hx⟩
  refine ln_pv (pv_assign rfl) rfl ?_
  refine ln_cd ?_
  refine cd_ret ?_
  exact at_retT (i := 0) rfl rfl rfl (fun w hS => ⟨rfl, cells, rfl, (hM.mv hx).mv (hS.trFinT _ _)⟩)
theorem tellx_LeaderAndISRResponse (t : Vw) (v : Int) (x : Tre) (sv : Value) (hsv : RSv t sv (partB F_LeaderAndISRResponse v (flexB 4 v) x)) (hk : keysT x) (h0 : 0 ≤ v) (h1 : v ≤ 7) (hB : (partB F_LeaderAndISRResponse v (flexB 4 v) x).length ≤ 1099511627776) : CA Tryz.prog 36 [.int .i64 v, sv] t fun u r => ∃ (ds : List Value), r = .tuple #[.agg ds.toArray, .bool true] ∧ RT u (tlT F_LeaderAndISRResponse (imT F_LeaderAndISRResponse v (flexB 4 v) x)) ds := by
  refine ca_enter Tryz.func36 rfl Tryz.ntmps36 rfl ?_
  refine cd_sr ?_
  refine ln_alloc (l := [_, _, _, _, _]) tiimpl_Tree rfl rfl (fun br => ?_)
  refine ln_pv (pv_assign rfl) rfl ?_
  refine ln_cd ?_
  refine cd_sr ?_
  refine ln_callH (E := []) (H0 := [_]) (List.Perm.refl _) en_89 rfl (fun u hu hok hav hnd => newp_LeaderAndISRResponse u hok hav hnd) rfl ?_
  rintro u1 _ _ ht1 ⟨_, ⟨b, rfl, rfl⟩, _⟩
  refine ln_pv (pv_assign rfl) rfl ?_
  refine ln_cd ?_
  refine cd_sr ?_
  refine ln_pv (pv_move rfl) rfl ?_
  refine ln_pv (pv_move rfl) rfl ?_
  refine ln_pv (pv_conv' Tryz.underlying3 Tryz.underlying46 rfl (r := v) (wrap_i16_in (by omega) (by omega))) rfl ?_
  refine ln_callT (i := 0) en_93 rfl rfl (fun u hu hok hav => setd_LeaderAndISRResponse u b v hok hav) rfl ?_
  rintro u2 _ _ ht2 ⟨_, rfl, _⟩
  refine ln_cd ?_
  have hsv := hsv.mv (ht1.trans ht2)
  refine cd_seq ?_
  refine cd_sr ?_
  refine ln_pv (pv_move rfl) rfl ?_
  refine ln_pv (pv_move rfl) rfl ?_
  refine ln_nilrow 5 1 ?_
  refine ln_append (i := 0) rfl Tryz.underlying22 tiuint8 rfl (by decide) rfl rfl (RS.src hsv) (by simp only [maxLen]; omega) (by omega) rfl (k' := (partB F_LeaderAndISRResponse v (flexB 4 v) x).length) (xs' := u8s (partB F_LeaderAndISRResponse v (flexB 4 v) x)) (by omega) (by simp) (fun va hva => ?_)
  refine ln_free1 (fun q h => h.elim) (fun s3 ht3 hK => ?_)
  have hs3 : RSv s3 va (partB F_LeaderAndISRResponse v (flexB 4 v) x) := Known.rs hK (u8s_one _)
  clear hK
  refine ln_callT (i := 0) en_94 rfl rfl (fun u hu hok hav => readf_LeaderAndISRResponse u b v x _ (RSv.mv hs3 hu) hk h0 h1 hok hav) rfl ?_
  rintro u4 _ _ ht4 ⟨ux4, ⟨rfl, cells, rfl, hM⟩, hx4⟩
  have hM := hM.mv hx4
  refine ln_pv (pv_neqI Tryz.underlying55 rfl) rfl ?_
  refine ln_cd ?_
  refine cd_ff rfl ?_
  refine cd_skip ?_
  refine at_cd ?_
  refine cd_free1 (fun q h => h.elim) (fun s9 hs9 hK => ?_)
  have hob : OB s9 b (.cells (.int .i16 v :: cells).toArray 156) := hK
  clear hK
  have hM := hM.mv hs9
  refine cd_sr ?_
  refine ln_pv (pv_move rfl) rfl ?_
  refine ln_callA en_95 rfl (fun u hu => tell_LeaderAndISRResponse u b v (imT F_LeaderAndISRResponse v (flexB 4 v) x) cells (hob.mv hu).rc (hM.mv hu) (tgT_im _ _ _ hk)) rfl (fun u7 v7 ht7 hR7 => ?_)
  obtain ⟨ds, rfl, hds⟩ := hR7
  refine ln_storeW (i := 0) rfl rfl rfl rfl tiimpl_Tree.size hds.len hds.cells ?_
  refine ln_pv (pv_assign rfl) rfl ?_
  refine ln_cd ?_
  refine cd_ret ?_
  exact at_retCA2 (i := 0) rfl rfl rfl rfl Tryz.underlying37 rfl tiimpl_Tree.size hds.len (fun w hS => ⟨ds, rfl, hds.mv hS.trFin⟩)
theorem law_LeaderAndISRResponse (t : Vw) (n : Nat) (x : Tre) (cs : List Value) (hn8 : n < 256) (hx : RT t x cs) (hkx : keysT x) (hsm : smT x) (hB : (writeB F_LeaderAndISRResponse 4 ((versionN n 7 : Nat) : Int) x).length < 1099511627776) : CS Tryz.prog 8 [.int .u8 (n : Int), .agg cs.toArray] t (.bool true) := by
  obtain ⟨sS, sL, sU, rfl, hn, hS, ⟨lc, hL, hLs⟩, hU⟩ := hx.open
  obtain ⟨adS, cS, rfl, hleS⟩ := hS.shape
  obtain ⟨adL, cL, rfl, hleL⟩ := hL.shape
  have hU0 := hU
  obtain ⟨uc, hU1, hUs⟩ := hU0
  obtain ⟨hz1, hz2, hz3, hz4⟩ := hsm.open
  have hok := ok_F_LeaderAndISRResponse
  have hvn : versionN n 7 ≤ 7 := by have := Nat.mod_lt n (show 0 < 7 + 1 by omega); unfold versionN; omega
  refine CA.cs ?_
  refine ca_enter Tryz.func8 rfl Tryz.ntmps8 rfl ?_
  cases hft : fits1 x with
  | false =>
    refine cd_sr ?_
    refine ln_box rfl rfl rfl (fun b1 => ?_)
    refine ln_pv (pv_assign rfl) rfl ?_
    refine ln_cd ?_
    refine cd_seq ?_
    refine cd_sr ?_
    refine ln_pv (pv_ldO (i := 0) rfl Tryz.underlying26 rfl (tispec_Tree).size rfl rfl) rfl ?_
    refine ln_callS en_13 rfl (fun u hu => by have h := laws_zzFits1 u x _ (RT.mv hx hu) (by omega); rwa [hft] at h) rfl ?_
    refine ln_pv (pv_not rfl) rfl ?_
    refine ln_cd ?_
    refine cd_tt rfl ?_
    refine cd_sr ?_
    refine ln_pv (pv_assign rfl) rfl ?_
    refine ln_cd ?_
    refine cd_ret ?_
    refine at_retA rfl rfl (fun w hS => ?_)
    rfl
  | true =>
    refine cd_sr ?_
    refine ln_box rfl rfl rfl (fun b1 => ?_)
    refine ln_pv (pv_assign rfl) rfl ?_
    refine ln_cd ?_
    refine cd_seq ?_
    refine cd_sr ?_
    refine ln_pv (pv_ldO (i := 0) rfl Tryz.underlying26 rfl (tispec_Tree).size rfl rfl) rfl ?_
    refine ln_callS en_13 rfl (fun u hu => by have h := laws_zzFits1 u x _ (RT.mv hx hu) (by omega); rwa [hft] at h) rfl ?_
    refine ln_pv (pv_not rfl) rfl ?_
    refine ln_cd ?_
    refine cd_ff rfl ?_
    refine cd_skip ?_
    refine at_cd ?_
    refine cd_sr ?_
    refine ln_callS en_34 rfl (fun u hu => max_LeaderAndISRResponse u) rfl ?_
    refine ln_pv (pv_assign rfl) rfl ?_
    refine ln_cd ?_
    refine cd_seq ?_
    refine cd_sr ?_
    refine ln_pv (pv_move rfl) rfl ?_
    refine ln_pv (pv_ff (pv_lss rfl rfl) (by omega)) rfl ?_
    refine ln_cd ?_
    refine cd_ff rfl ?_
    refine cd_skip ?_
    refine at_cd ?_
    refine cd_sr ?_
    refine ln_callA en_35 rfl (fun u hu => sch_F_LeaderAndISRResponse u) rfl (fun u1 v1 ht1 hR1 => ?_)
    have hx := hx.mv ht1
    obtain ⟨sv, lcm, rfl, hVm, hFm⟩ := hR1
    refine ln_pv (pv_move rfl) rfl ?_
    refine ln_pv (pv_move rfl) rfl ?_
    refine ln_callS en_16 rfl (fun u hu => laws_version u n 7 hn8 (by omega)) rfl ?_
    refine ln_alloc tispec_Message rfl rfl (fun b2 => ?_)
    refine ln_storeW (i := 0) rfl rfl rfl rfl (tispec_Message).size rfl (by simp [(RS.one hVm)]) ?_
    refine ln_pv (pv_assign rfl) rfl ?_
    refine ln_cd ?_
    refine cd_sr ?_
    refine ln_pv (pv_move rfl) rfl ?_
    refine ln_pv (pv_ldO (i := 0) rfl Tryz.underlying31 rfl (tispec_Message).size rfl rfl) rfl ?_
    refine ln_pv (pv_move rfl) rfl ?_
    refine ln_pv (pv_ldO (i := 1) rfl Tryz.underlying26 rfl (tispec_Tree).size rfl rfl) rfl ?_
    refine ln_callA en_18 rfl (fun u hu => spec_Write F_LeaderAndISRResponse 4 hok.1 hok.2.2 u _ _ _ ((versionN n 7 : Nat) : Int) x (RS.mv hVm hu) (RFs.mv hFm hu) (RT.mv hx hu) hsm hB) rfl (fun u2 v2 ht2 hR2 => ?_)
    have hx := hx.mv ht2
    have hVm := hVm.mv ht2
    have hFm := hFm.mv ht2
    refine ln_callA en_36 rfl (fun u hu => tellx_LeaderAndISRResponse u ((versionN n 7 : Nat) : Int) x _ (RSv.mv hR2 hu) hkx (by omega) (by omega) (by rw [show partB F_LeaderAndISRResponse ((versionN n 7 : Nat) : Int) (flexB 4 ((versionN n 7 : Nat) : Int)) x = writeB F_LeaderAndISRResponse 4 ((versionN n 7 : Nat) : Int) x from rfl]; omega)) rfl (fun u3 v3 ht3 hR3 => ?_)
    have hx := hx.mv ht3
    have hVm := hVm.mv ht3
    have hFm := hFm.mv ht3
    have hR2 := hR2.mv ht3
    obtain ⟨ds, rfl, hT⟩ := hR3
    refine ln_pv (pv_move rfl) rfl ?_
    refine ln_pv (pv_extract rfl rfl) rfl ?_
    refine ln_pv (pv_extract rfl rfl) rfl ?_
    refine ln_alloc tiimpl_Tree rfl rfl (fun b3 => ?_)
    refine ln_storeW (i := 0) rfl rfl rfl rfl (tiimpl_Tree).size hT.len hT.cells ?_
    refine ln_pv (pv_assign rfl) rfl ?_
    refine ln_cd ?_
    refine cd_dr' [0, 1, 2] [1, 2, 3, 4, 5, 6, 8, 9, 12, 13] [0, 1, 2, 3, 4, 5, 6, 8, 9, 7, 10, 11, 12, 13] mixed (by kernel_rfl) ?_
    refine lo_eff rfl rfl ?_
    refine ln_pv (pv_move rfl) rfl ?_
    refine lo_back (sk_js (Tr.refl _) [0, 1, 2] rfl) ?_
    refine lo_pv rfl rfl (sk_js (Tr.refl _) [0, 1, 2] rfl) (pv_move rfl) rfl ?_
    refine lo_gt rfl rfl (sk_js (Tr.refl _) [0, 1, 2] rfl) rfl rfl rfl (pv_fieldAddr (off := 0) (r := 0) Tryz.underlying31 rfl (tiSl_spec_Field).size rfl rfl rfl) rfl ?_
    refine lo_gt rfl rfl (sk_js (Tr.refl _) [0, 1, 2] rfl) rfl rfl rfl (pv_ldo (i := 1) rfl Tryz.underlying29 rfl rfl rfl) rfl ?_
    refine lo_gt rfl rfl (sk_js (Tr.refl _) [0, 1, 2] rfl) rfl rfl rfl (pv_move rfl) rfl ?_
    refine lo_gt rfl rfl (sk_js (Tr.refl _) [0, 1, 2] rfl) rfl rfl rfl (pv_ldO (i := 1) rfl Tryz.underlying31 rfl (tispec_Message).size rfl rfl) rfl ?_
    refine lo_gt rfl rfl (sk_js (Tr.refl _) [0, 1, 2] rfl) rfl rfl rfl (pv_move rfl) rfl ?_
    refine lo_gt rfl rfl (sk_js (Tr.refl _) [0, 1, 2] rfl) rfl rfl rfl (pv_ldO (i := 2) rfl Tryz.underlying26 rfl (tispec_Tree).size rfl rfl) rfl ?_
    refine lo_gt rfl rfl (sk_js (Tr.refl _) [0, 1, 2] rfl) rfl rfl rfl (pv_ldO (i := 0) rfl Tryz.underlying37 rfl (tiimpl_Tree).size rfl hT.len) rfl ?_
    refine lo_eff rfl rfl ?_
    refine ln_gE rfl rfl rfl ?_
    refine ln_callS en_20 rfl (fun u hu => spec_Flexible u _ _ _ 4 ((versionN n 7 : Nat) : Int) (RS.mv hVm hu)) rfl ?_
    refine lo_back (sk_js (Tr.refl _) [0, 1, 2] rfl) ?_
    refine lo_eff rfl rfl ?_
    refine ln_gE rfl rfl rfl ?_
    refine ln_callA en_21 rfl (fun u hu => laws_got (tlT F_LeaderAndISRResponse (imT F_LeaderAndISRResponse ((versionN n 7 : Nat) : Int) (flexB 4 ((versionN n 7 : Nat) : Int)) x)) u _ (RT.mv hT hu) (smT_tlT hok.1 (by decide) (tgT_im _ _ _ hkx))) rfl (fun u4 v4 ht4 hR4 => ?_)
    have hx := hx.mv ht4
    have hVm := hVm.mv ht4
    have hFm := hFm.mv ht4
    have hR2 := hR2.mv ht4
    have hT := hT.mv ht4
    obtain ⟨dg, rfl, hG⟩ := hR4
    refine lo_back (sk_js ht4 [0, 1, 2] rfl) ?_
    refine lo_eff rfl rfl ?_
    refine ln_gE rfl rfl rfl ?_
    refine ln_callS en_19 rfl (fun u hu => spec_Told F_LeaderAndISRResponse hok.1 (by kernel_rfl) (by decide) u _ _ _ _ _ _ x _ (RS.mv hVm hu) (RFs.mv hFm hu) (RT.mv hx hu) hsm (RT.mv hG hu) (smT_tlT hok.1 (by decide) (tgT_im _ _ _ hkx)) (toT_im F_LeaderAndISRResponse _ _ (by kernel_rfl) hx.nT)) rfl ?_
    refine lo_back (sk_js ht4 [0, 1, 2] rfl) ?_
    refine lo_pv rfl rfl (sk_js ht4 [0, 1, 2] rfl) (pv_pick rfl (fun _ => rfl) (fun _ => rfl)) rfl ?_
    refine lo_pv rfl rfl (sk_js ht4 [0, 1, 2] rfl) (pv_assign rfl) rfl ?_
    refine lo_cd ?_
    refine cd_ret ?_
    refine at_retA rfl rfl (fun w hS => ?_)
    rfl
theorem fn_LeaderAndISRResponse (t : Vw) (n : Nat) (x : Tre) (cs : List Value) (hn : n < 256) (hx : RT t x cs) (hw : wt x ≤ 1048576) : CS Tryz.prog 8 [.int .u8 (n : Int), .agg cs.toArray] t (.bool true) := by
  have hok := ok_F_LeaderAndISRResponse
  exact law_LeaderAndISRResponse t n x cs hn hx hx.keys (smT_wt x (by omega)) (writeB_len _ _ _ x hok.1 hx.keys hw (of_decide_eq_true (by kernel_rfl)))
end K
end Go.Proofs.YtekafeogilbjmaaGreatDoor
