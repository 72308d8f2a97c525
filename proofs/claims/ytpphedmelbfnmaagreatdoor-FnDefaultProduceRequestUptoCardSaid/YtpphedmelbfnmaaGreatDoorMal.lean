import Derived.Test.YtpphedmelbfnmaaGreatDoorTn
import Derived.Test.YtpphedmelbfnmaaGreatDoorTm
import Derived.Test.YtpphedmelbfnmaaGreatDoorMas
import Derived.Test.YtpphedmelbfnmaaGreatDoorMat
import Derived.Test.YtpphedmelbfnmaaGreatDoorP4
import Derived.Test.YtpphedmelbfnmaaGreatDoorS10
set_option linter.unusedVariables false
set_option linter.unusedSimpArgs false
namespace Go.Proofs.YtpphedmelbfnmaaGreatDoor
namespace K
open Go Go.Lib
theorem df_ProduceRequest (z0 z1 z2 z3 z4 z5 : Value) : DfC 34 [z0, z1, z2, z3, z4, z5] [z0, z1, z2, .int .i32 15000, z4, z5] := by
  intro mk b o hT t hok hav
  refine ct_enter Tryz.func34 rfl Tryz.ntmps34 rfl hok hav (by rw [hT.blk]; simp) ?_
  refine cd_region ?_
  refine ln_pv (pv_move rfl) rfl ?_
  refine ln_pv (pv_nilCheck rfl) rfl ?_
  refine ln_pv (pv_fieldAddr (off := 3) Tryz.underlying100 rfl tiint32.size rfl rfl rfl) rfl ?_
  refine ln_storeG1 (i := 0) (off := 3) (v := .int .i32 15000) hT rfl rfl rfl rfl rfl tiint32.size (Nat.le_of_ble_eq_true rfl) ?_
  refine ln_nil ?_
  exact at_retT0 (i := 0) rfl rfl (fun w hS => ⟨rfl, rfl⟩)
theorem df_ProduceRequestTopic (z0 z1 z2 z3 z4 z5 z6 z7 z8 z9 z10 z11 z12 z13 z14 z15 z16 z17 z18 : Value) : DfC 104 [z0, z1, z2, z3, z4, z5, z6, z7, z8, z9, z10, z11, z12, z13, z14, z15, z16, z17, z18] [z0, z1, z2, z3, z4, z5, z6, z7, z8, z9, z10, z11, z12, z13, z14, z15, z16, z17, z18] := by
  intro mk b o hT t hok hav
  refine ct_enter Tryz.func104 rfl Tryz.ntmps104 rfl hok hav (by rw [hT.blk]; simp) ?_
  refine cd_skip ?_
  exact at_retT0 (i := 0) rfl rfl (fun w hS => ⟨rfl, rfl⟩)
theorem df_ProduceRequestTopicPartition (z0 z1 z2 : Value) : DfC 106 [z0, z1, z2] [z0, z1, z2] := by
  intro mk b o hT t hok hav
  refine ct_enter Tryz.func106 rfl Tryz.ntmps106 rfl hok hav (by rw [hT.blk]; simp) ?_
  refine cd_skip ?_
  exact at_retT0 (i := 0) rfl rfl (fun w hS => ⟨rfl, rfl⟩)
theorem read_ProduceRequest (t : Vw) (b : Nat) (v : Int) (x : Tre) (sv : Value) (hsv : RSv t sv (partB F_ProduceRequest v (flexB 9 v) x)) (hk : keysT x) (h0 : 0 ≤ v) (h1 : v ≤ 13) (hok : (MsgBox b 100 (.int .i16 v :: ([.pointer none, .int .i16 0, .int .i32 15000, .slice none 0 0, .map none] : List Value))).ok t.w) (hav : ∀ q ∈ (MsgBox b 100 (.int .i16 v :: ([.pointer none, .int .i16 0, .int .i32 15000, .slice none 0 0, .map none] : List Value))).blk, t.av q) : CT Tryz.prog 66 [.pointer (some ⟨b, 0, none⟩), sv, .bool false] t (MsgBox b 100 (.int .i16 v :: ([.pointer none, .int .i16 0, .int .i32 15000, .slice none 0 0, .map none] : List Value))) fun u r e' => r = .nilIface ∧ ∃ cells, e' = MsgBox b 100 (.int .i16 v :: cells) ∧ RMp u F_ProduceRequest (imT F_ProduceRequest v (flexB 9 v) x) cells := by
  have hv0 := h0
  have hnt : ntFs F_ProduceRequest = true := by kernel_rfl
  generalize hqd : flexB 9 v = q at *
  have hq0 : decide (v ≥ 9) = q := by rw [← hqd]; simp [flexB]
  obtain ⟨adS, cS, rfl, hcS⟩ := RSv.shape hsv
  refine ct_enter Tryz.func66 rfl Tryz.ntmps66 rfl hok hav (by simp [Ent.blk]) ?_
  refine cd_sq ?_
  refine rg_const rfl ?_
  refine at_cd ?_
  refine cd_sr ?_
  refine ln_pv (pv_move rfl) rfl ?_
  refine ln_callT (i := 0) (vals := [.pointer (some ⟨b, 0, none⟩)]) en_34 rfl rfl (fun u hu hok hav => df_ProduceRequest _ _ _ _ _ _ (fun w => .obj b (.cells w.toArray 100)) b 0 (Tgt.obj b 100 6) u hok hav) rfl ?_
  rintro u1 _ _ ht1 ⟨ux1, ⟨rfl, rfl⟩, hx1⟩
  refine ln_cd ?_
  refine cd_sr ?_
  refine ln_pv (pv_move rfl) rfl ?_
  refine ln_pv (pv_struct [(0, 1), (1, 1)] (l := [_, _]) rfl Tryz.underlying129 tipub_kmsg_inner_kbin_Reader (by kernel_rfl) rfl rfl) rfl ?_
  refine ln_alloc (l := [.slice none 0 0, .bool false]) tipub_kmsg_inner_kbin_Reader rfl rfl (fun br => ?_)
  refine ln_storeW (i := 0) (vs := [_, .bool false]) rfl rfl rfl rfl tipub_kmsg_inner_kbin_Reader.size rfl (by simp) ?_
  refine ln_cd ?_
  refine cd_sr ?_
  refine ln_pv (pv_move rfl) rfl ?_
  refine ln_pv (pv_nilCheck rfl) rfl ?_
  refine ln_pv (pv_fieldAddr (off := 0) (r := 0) Tryz.underlying100 rfl tiint16.size rfl rfl rfl) rfl ?_
  refine ln_pv (pv_ldo (i := 1) (v := .int .i16 v) rfl Tryz.underlying49 rfl rfl rfl) rfl ?_
  refine ln_pv (pv_assign rfl) rfl ?_
  refine ln_cd ?_
  refine cd_sq ?_
  refine rg_blank rfl rfl ?_
  refine at_cd ?_
  refine cd_sr ?_
  refine ln_pv (pv_move rfl) rfl ?_
  refine ln_pv (pv_geq rfl rfl) rfl ?_
  refine ln_pv (pv_assign rfl) rfl ?_
  rw [hq0]
  refine ln_cd ?_
  refine cd_sq ?_
  refine rg_blank rfl rfl ?_
  refine at_cd ?_
  refine cd_sr ?_
  refine ln_pv (pv_move rfl) rfl ?_
  refine ln_pv (pv_assign rfl) rfl ?_
  refine ln_cd ?_
  refine cd_sub_ (L' := [(10, .pointer (some ⟨b, 0, none⟩)), (9, .bool q), (8, .int .i16 v), (7, .pointer (some ⟨br, 0, none⟩)), (2, .bool false)]) (.put rfl (.put rfl (.put rfl (.put rfl (.put rfl .nil))))) ?_
  obtain ⟨mk, hmk⟩ : ∃ mk : List Value → Ent, mk = fun w => MsgBox b 100 (.int .i16 v :: w) := ⟨_, rfl⟩
  have hT : Tgt mk b 1 5 := by rw [hmk]; exact Tgt.behind b 100 _ 5
  refine cd_eqH (H' := [RdE br _, mk ([] ++ ([.pointer none, .int .i16 0, .int .i32 15000, .slice none 0 0, .map none] : List Value))]) (by rw [hmk]; rfl) ?_
  have hR : Rs u1 [.mk 8 3 (-1) 3 (-1) 0 0 [], .mk 2 0 (-1) (-1) (-1) 0 0 [], .mk 3 0 (-1) (-1) (-1) 15000 0 [], .mk 11 0 (-1) (-1) (-1) 0 10 F_sProduceRequestTopic] [] v q x (imT F_ProduceRequest v q x) (tgsB q x ++ []) _ [] := Rs.start (F := F_ProduceRequest) (RSv.part hnt (by rw [List.append_nil]; exact RSv.mv hsv ht1)) hnt
  refine cd_sq ?_
  refine st_if (zc := ([.pointer none] : List Value)) (zs := ([.int .i16 0, .int .i32 15000, .slice none 0 0, .map none] : List Value)) rfl rfl hR (hasB_from) (fun u => df_txt u (by decide)) rfl (fun u1 v1 done1 ht1 hR => ?_) (fun hh kk => ?_)
  rotate_left
  · skip
    refine cd_sq ?_
    refine rg_const rfl ?_
    refine at_cd ?_
    exact st_txt (z := .pointer none) hR hh rfl rfl rfl en_98 en_100 (fun h => fc_ctxt (by decide) h) (fun h => fc_txt (by decide) h) rfl hT rfl Tryz.underlying100 rfl tiPt_string.size rfl (po_eq (show 1 = 1 + fszs _ by kernel_rfl)) tiPt_string.size rfl rfl rfl rfl rfl rfl kk
  refine at_cd ?_
  refine cd_sq ?_
  refine st_num (z := .int .i16 0) hR (hasB_all hv0) rfl en_82 (Fc.num (by decide) (by decide) (by decide) (fun null => sc_i16 null _ _)) rfl hT rfl Tryz.underlying100 rfl tiint16.size rfl (po_eq (show 2 = 1 + fszs _ by kernel_rfl)) tiint16.size rfl rfl (fun u2 v2 done2 ht2 hR => ?_)
  refine at_cd ?_
  refine cd_sq ?_
  refine st_num (z := .int .i32 15000) hR (hasB_all hv0) rfl en_81 (Fc.num (by decide) (by decide) (by decide) (fun null => sc_i32 null _ _)) rfl hT rfl Tryz.underlying100 rfl tiint32.size rfl (po_eq (show 3 = 1 + fszs _ by kernel_rfl)) tiint32.size rfl rfl (fun u3 v3 done3 ht3 hR => ?_)
  refine at_cd ?_
  refine cd_sq ?_
  refine st_list (zc := ([.string .empty, .int .u8 0, .int .u8 0, .int .u8 0, .int .u8 0, .int .u8 0, .int .u8 0, .int .u8 0, .int .u8 0, .int .u8 0, .int .u8 0, .int .u8 0, .int .u8 0, .int .u8 0, .int .u8 0, .int .u8 0, .int .u8 0, .slice none 0 0, .map none] : List Value)) hR (hasB_all hv0) (by decide) rfl rfl rfl hT rfl Tryz.underlying100 rfl tiSl_kmsg_ProduceRequestTopic.size rfl (po_eq (show 4 = 1 + fszs _ by kernel_rfl)) tiSl_kmsg_ProduceRequestTopic.size Tryz.underlying98 Tryz.underlying21 tipub_kmsg_ProduceRequestTopic rfl rfl (by kernel_rfl) (by decide) (by decide) (fun q hq => .inl (by simpa [Ent.blk] using hq)) (fun z => part_pos (plain_skip (plain_skip (plain_posl (by decide) (hasB_all hv0))))) rfl rfl rfl rfl rfl rfl rfl rfl rfl rfl rfl rfl rfl (keysT.at_ hk _) (fun gb4 cap4 m4 i4 x4 u4 v4 xs4 rest4 N4 X4 hi4 hm4 hk4 ht4 hxl4 hv4 kb4 => ?_) (fun uu4 vv4 done4 hh4 hR => ?_)
  · skip
    have hnt4 : ntFs F_sProduceRequestTopic = true := by kernel_rfl
    have hvp4 := RSv.el hnt4 hv4
    refine cd_sq ?_
    refine rg_ix rfl rfl hi4 Tryz.underlying98 tipub_kmsg_ProduceRequestTopic.size rfl ?_
    refine at_cd ?_
    obtain ⟨mk4, hmk4⟩ : ∃ mk : List Value → Ent, mk = fun w => .row (.slice (some ⟨gb4, 0, none⟩) m4 cap4) 107 19 m4 (xs4 ++ (w ++ (List.replicate (m4 - (i4 + 1)) ([.string .empty, .int .u8 0, .int .u8 0, .int .u8 0, .int .u8 0, .int .u8 0, .int .u8 0, .int .u8 0, .int .u8 0, .int .u8 0, .int .u8 0, .int .u8 0, .int .u8 0, .int .u8 0, .int .u8 0, .int .u8 0, .int .u8 0, .slice none 0 0, .map none] : List Value)).flatten)) := ⟨_, rfl⟩
    have hT4 : Tgt mk4 gb4 (0 + i4 * 19) 19 := by rw [hmk4]; exact (Tgt.row gb4 cap4 m4 19 107).mid _ _ _ _ (list_fits hi4 hxl4 rfl) (by rw [hxl4])
    refine cd_eqH (H' := RdE _ v4 :: mk4 ([.string .empty, .int .u8 0, .int .u8 0, .int .u8 0, .int .u8 0, .int .u8 0, .int .u8 0, .int .u8 0, .int .u8 0, .int .u8 0, .int .u8 0, .int .u8 0, .int .u8 0, .int .u8 0, .int .u8 0, .int .u8 0, .int .u8 0, .slice none 0 0, .map none] : List Value) :: _) (by rw [hmk4]) ?_
    refine cd_sq ?_
    refine rg_dflt (z2 := ([.string .empty, .int .u8 0, .int .u8 0, .int .u8 0, .int .u8 0, .int .u8 0, .int .u8 0, .int .u8 0, .int .u8 0, .int .u8 0, .int .u8 0, .int .u8 0, .int .u8 0, .int .u8 0, .int .u8 0, .int .u8 0, .int .u8 0, .slice none 0 0, .map none] : List Value)) rfl en_104 (df_ProduceRequestTopic _ _ _ _ _ _ _ _ _ _ _ _ _ _ _ _ _ _ _) hT4 rfl (fun u5 ht5 => ?_)
    refine at_cd ?_
    refine cd_sq ?_
    refine rg_move rfl rfl ?_
    refine at_cd ?_
    have hR : Rs u5 [.mk 8 0 12 (-1) (-1) 0 0 [], .mk 7 13 (-1) (-1) (-1) 0 0 [], .mk 11 0 (-1) (-1) (-1) 0 10 F_sProduceRequestTopicPartition] [] _ q x4 (.mk 0 [] false (imL F_sProduceRequestTopic _ q x4 0) (imU F_sProduceRequestTopic q x4.u)) (tgsB q x4 ++ rest4) v4 [] := Rs.start (F := F_sProduceRequestTopic) (RSv.mv hvp4 ht5) hnt4
    refine cd_eqH (H' := RdE _ v4 :: mk4 ([] ++ ([.string .empty, .int .u8 0, .int .u8 0, .int .u8 0, .int .u8 0, .int .u8 0, .int .u8 0, .int .u8 0, .int .u8 0, .int .u8 0, .int .u8 0, .int .u8 0, .int .u8 0, .int .u8 0, .int .u8 0, .int .u8 0, .int .u8 0, .slice none 0 0, .map none] : List Value)) :: _) rfl ?_
    refine cd_sq ?_
    refine st_if2 (zc := ([.string .empty] : List Value)) (zs := ([.int .u8 0, .int .u8 0, .int .u8 0, .int .u8 0, .int .u8 0, .int .u8 0, .int .u8 0, .int .u8 0, .int .u8 0, .int .u8 0, .int .u8 0, .int .u8 0, .int .u8 0, .int .u8 0, .int .u8 0, .int .u8 0, .slice none 0 0, .map none] : List Value)) rfl rfl hR (hasB_to (by decide)) (fun u => df_str u (by decide)) rfl (fun u6 v6 done6 ht6 hR => ?_) (fun hh kk => ?_)
    rotate_left
    · skip
      refine cd_sq ?_
      refine rg_const rfl ?_
      refine at_cd ?_
      exact st_str (z := .string .empty) hR hh rfl rfl rfl en_88 en_89 (fun h => Fc.of (by decide) (by decide) (by decide) (sc_cstr _ h _)) (fun h => Fc.of (by decide) (by decide) (by decide) (sc_str _ h _)) rfl hT4 rfl Tryz.underlying107 rfl tistring.size rfl (po_eq (show 0 = 0 + fszs _ by kernel_rfl)) tistring.size rfl rfl rfl rfl rfl kk
    refine at_cd ?_
    refine cd_sq ?_
    refine st_if (zc := (List.replicate 16 (.int .u8 0) : List Value)) (zs := ([.slice none 0 0, .map none] : List Value)) rfl rfl hR (hasB_from) (fun u => df_uuid u) rfl (fun u7 v7 done7 ht7 hR => ?_) (fun hh kk => ?_)
    rotate_left
    · skip
      exact st_uuid (zc := List.replicate 16 (.int .u8 0)) (zs := [.slice none 0 0, .map none]) rfl hR hh rfl en_105 (uuid_length _) (fun u => by rw [uu_B]; exact rd_Uuid u _ (uuid_length _)) (fun u => uu_M u) rfl hT4 rfl rfl Tryz.underlying107 rfl ti_16_uint8.size rfl (po_eq (show 1 = 0 + fszs _ by kernel_rfl)) ti_16_uint8 rfl Tryz.underlying104 rfl kk
    refine at_cd ?_
    refine cd_sq ?_
    refine st_list (zc := ([.int .i32 0, .slice none 0 0, .map none] : List Value)) hR (hasB_all hv0) (by decide) rfl rfl rfl hT4 rfl Tryz.underlying107 rfl tiSl_kmsg_ProduceRequestTopicPartition.size rfl (po_eq (show 17 = 0 + fszs _ by kernel_rfl)) tiSl_kmsg_ProduceRequestTopicPartition.size Tryz.underlying105 Tryz.underlying21 tipub_kmsg_ProduceRequestTopicPartition rfl rfl (by kernel_rfl) (by decide) (by decide) (fun q hq => .inr (hO_push hT (fun q hq => .inl (by simpa [Ent.blk] using hq)) _ q hq)) (fun z => part_pos (plain_pos (by decide) (by decide) (by decide) (hasB_all hv0))) rfl rfl rfl rfl rfl rfl rfl rfl rfl rfl rfl rfl rfl (keysT.at_ hk4 _) (fun gb8 cap8 m8 i8 x8 u8 v8 xs8 rest8 N8 X8 hi8 hm8 hk8 ht8 hxl8 hv8 kb8 => ?_) (fun uu8 vv8 done8 hh8 hR => ?_)
    · skip
      have hnt8 : ntFs F_sProduceRequestTopicPartition = true := by kernel_rfl
      have hvp8 := RSv.el hnt8 hv8
      refine cd_sq ?_
      refine rg_ix rfl rfl hi8 Tryz.underlying105 tipub_kmsg_ProduceRequestTopicPartition.size rfl ?_
      refine at_cd ?_
      obtain ⟨mk8, hmk8⟩ : ∃ mk : List Value → Ent, mk = fun w => .row (.slice (some ⟨gb8, 0, none⟩) m8 cap8) 146 3 m8 (xs8 ++ (w ++ (List.replicate (m8 - (i8 + 1)) ([.int .i32 0, .slice none 0 0, .map none] : List Value)).flatten)) := ⟨_, rfl⟩
      have hT8 : Tgt mk8 gb8 (0 + i8 * 3) 3 := by rw [hmk8]; exact (Tgt.row gb8 cap8 m8 3 146).mid _ _ _ _ (list_fits hi8 hxl8 rfl) (by rw [hxl8])
      refine cd_eqH (H' := RdE _ v8 :: mk8 ([.int .i32 0, .slice none 0 0, .map none] : List Value) :: _) (by rw [hmk8]) ?_
      refine cd_sq ?_
      refine rg_dflt (z2 := ([.int .i32 0, .slice none 0 0, .map none] : List Value)) rfl en_106 (df_ProduceRequestTopicPartition _ _ _) hT8 rfl (fun u9 ht9 => ?_)
      refine at_cd ?_
      refine cd_sq ?_
      refine rg_move rfl rfl ?_
      refine at_cd ?_
      have hR : Rs u9 [.mk 3 0 (-1) (-1) (-1) 0 0 [], .mk 9 0 (-1) 0 (-1) 0 0 []] [] _ q x8 (.mk 0 [] false (imL F_sProduceRequestTopicPartition _ q x8 0) (imU F_sProduceRequestTopicPartition q x8.u)) (tgsB q x8 ++ rest8) v8 [] := Rs.start (F := F_sProduceRequestTopicPartition) (RSv.mv hvp8 ht9) hnt8
      refine cd_eqH (H' := RdE _ v8 :: mk8 ([] ++ ([.int .i32 0, .slice none 0 0, .map none] : List Value)) :: _) rfl ?_
      refine cd_sq ?_
      refine st_num (z := .int .i32 0) hR (hasB_all hv0) rfl en_81 (Fc.num (by decide) (by decide) (by decide) (fun null => sc_i32 null _ _)) rfl hT8 rfl Tryz.underlying146 rfl tiint32.size rfl (po_eq (show 0 = 0 + fszs _ by kernel_rfl)) tiint32.size rfl rfl (fun u10 v10 done10 ht10 hR => ?_)
      refine at_cd ?_
      refine cd_sq ?_
      refine cd_sq ?_
      refine rg_const rfl ?_
      refine at_cd ?_
      refine st_flex (z := .slice none 0 0) hR (hasB_all hv0) rfl rfl en_107 en_108 (fun h => fc_coctn (by decide) h) (fun h => fc_octn (by decide) h) rfl hT8 rfl Tryz.underlying146 rfl tiSl_uint8.size rfl (po_eq (show 1 = 0 + fszs _ by kernel_rfl)) tiSl_uint8.size rfl rfl rfl rfl (fun u11 v11 done11 ht11 hR => ?_)
      refine at_cd ?_
      refine st_tags (F := F_sProduceRequestTopicPartition) hnt8 hR (keysT.open hk8).1 rfl rfl rfl hT8 rfl Tryz.underlying146 rfl tipub_kmsg_Tags.size rfl (po_eq (show 2 = 0 + fszs _ by kernel_rfl)) tipub_kmsg_Tags.size rfl rfl (fun u12 v12 cs12 ht12 hv hM => ?_)
      refine at_eqH (H' := RdE _ _ :: .row (.slice (some ⟨gb8, 0, none⟩) m8 cap8) 146 3 m8 (xs8 ++ (_ ++ (List.replicate (m8 - (i8 + 1)) ([.int .i32 0, .slice none 0 0, .map none] : List Value)).flatten)) :: _) (by rw [hmk8]) ?_
      exact at_sub (.skip rfl (.skip rfl .rfl')) (kb8 _ _ _ (((ht9.trans ht10).trans ht11).trans ht12) (REl_part hM) hv)
    refine at_cd ?_
    refine st_tags (F := F_sProduceRequestTopic) hnt4 hR (keysT.open hk4).1 rfl rfl rfl hT4 rfl Tryz.underlying107 rfl tipub_kmsg_Tags.size rfl (po_eq (show 18 = 0 + fszs _ by kernel_rfl)) tipub_kmsg_Tags.size rfl rfl (fun u13 v13 cs13 ht13 hv hM => ?_)
    refine at_eqH (H' := RdE _ _ :: .row (.slice (some ⟨gb4, 0, none⟩) m4 cap4) 107 19 m4 (xs4 ++ (_ ++ (List.replicate (m4 - (i4 + 1)) ([.string .empty, .int .u8 0, .int .u8 0, .int .u8 0, .int .u8 0, .int .u8 0, .int .u8 0, .int .u8 0, .int .u8 0, .int .u8 0, .int .u8 0, .int .u8 0, .int .u8 0, .int .u8 0, .int .u8 0, .int .u8 0, .int .u8 0, .slice none 0 0, .map none] : List Value)).flatten)) :: _) (by rw [hmk4]) ?_
    exact at_sub (.skip rfl (.skip rfl .rfl')) (kb4 _ _ _ ((((ht5.trans ht6).trans ht7).trans hh8).trans ht13) (REl_part hM) hv)
  refine at_cd ?_
  refine cd_sq ?_
  refine st_tags (F := F_ProduceRequest) hnt hR (keysT.open hk).1 rfl rfl rfl hT rfl Tryz.underlying100 rfl tipub_kmsg_Tags.size rfl (po_eq (show 5 = 1 + fszs _ by kernel_rfl)) tipub_kmsg_Tags.size rfl rfl (fun u14 v14 cs14 ht14 hv hM => ?_)
  refine at_cd ?_
  refine cd_sr ?_
  refine ln_callT (i := 0) (vals := [.pointer (some ⟨br, 0, none⟩)]) en_91 rfl rfl (fun u hu hok hav => rd_Complete u br _ hok hav) rfl ?_
  rintro u9 _ _ ht9 ⟨ux9, ⟨rfl, rfl⟩, hx9⟩
  refine ln_pv (pv_assign rfl) rfl ?_
  refine ln_cd ?_
  refine cd_ret ?_
  exact at_retT (i := 1) rfl rfl rfl (fun w hS => ⟨rfl, _, by rw [hmk], (hM.mv ht9).mv (hS.trFinT _ _)⟩)
theorem newp_ProduceRequest (t : Vw) (hok : HF [] t.w) (hav : ∀ q ∈ blks [], t.av q) (hnd : (blks []).Nodup) : CH Tryz.prog 29 [] t [] fun u r E' => ∃ b, r = .pointer (some ⟨b, 0, none⟩) ∧ E' = [MsgBox b 100 [.int .i16 0, .pointer none, .int .i16 0, .int .i32 15000, .slice none 0 0, .map none]] := by
  refine ch_enter Tryz.func29 rfl Tryz.ntmps29 rfl hok hav hnd ?_
  refine cd_sr ?_
  refine ln_pv (pv_assign rfl) rfl ?_
  refine ln_cd ?_
  refine cd_sr ?_
  refine ln_alloc tipub_kmsg_ProduceRequest rfl rfl (fun b => ?_)
  refine ln_cd ?_
  refine cd_sr ?_
  refine ln_callT (i := 0) en_34 rfl rfl (fun u hu hok hav => df_ProduceRequest _ _ _ _ _ _ (fun w => .obj b (.cells w.toArray 100)) b 0 (Tgt.obj b 100 6) u hok hav) rfl ?_
  rintro u1 _ _ ht1 ⟨_, ⟨rfl, rfl⟩, _⟩
  refine ln_cd ?_
  refine cd_sr ?_
  refine ln_pv (pv_assign rfl) rfl ?_
  refine ln_cd ?_
  refine cd_ret ?_
  exact at_retHq [MsgBox b 100 [.int .i16 0, .pointer none, .int .i16 0, .int .i32 15000, .slice none 0 0, .map none]] (List.Sublist.refl _) rfl rfl (fun w hS => ⟨b, rfl, rfl⟩)
theorem setd_ProduceRequest (t : Vw) (b : Nat) (v : Int) (hok : (MsgBox b 100 [.int .i16 0, .pointer none, .int .i16 0, .int .i32 15000, .slice none 0 0, .map none]).ok t.w) (hav : ∀ q ∈ (MsgBox b 100 [.int .i16 0, .pointer none, .int .i16 0, .int .i32 15000, .slice none 0 0, .map none]).blk, t.av q) : CT Tryz.prog 32 [.pointer (some ⟨b, 0, none⟩), .int .i16 v] t (MsgBox b 100 [.int .i16 0, .pointer none, .int .i16 0, .int .i32 15000, .slice none 0 0, .map none]) fun u r e' => e' = MsgBox b 100 [.int .i16 v, .pointer none, .int .i16 0, .int .i32 15000, .slice none 0 0, .map none] := by
  refine ct_enter Tryz.func32 rfl Tryz.ntmps32 rfl hok hav (by simp [Ent.blk]) ?_
  refine cd_region ?_
  refine ln_pv (pv_move rfl) rfl ?_
  refine ln_pv (pv_move rfl) rfl ?_
  refine ln_pv (pv_nilCheck rfl) rfl ?_
  refine ln_pv (pv_fieldAddr (off := 0) (r := 0) Tryz.underlying100 rfl (tiint16).size rfl rfl rfl) rfl ?_
  refine ln_store1 (i := 0) rfl rfl rfl rfl (tiint16).size rfl ?_
  refine ln_nil ?_
  exact at_retT0 (i := 0) rfl rfl (fun w hS => rfl)
theorem readf_ProduceRequest (t : Vw) (b : Nat) (v : Int) (x : Tre) (sv : Value) (hsv : RSv t sv (partB F_ProduceRequest v (flexB 9 v) x)) (hk : keysT x) (h0 : 0 ≤ v) (h1 : v ≤ 13) (hok : (MsgBox b 100 (.int .i16 v :: ([.pointer none, .int .i16 0, .int .i32 15000, .slice none 0 0, .map none] : List Value))).ok t.w) (hav : ∀ q ∈ (MsgBox b 100 (.int .i16 v :: ([.pointer none, .int .i16 0, .int .i32 15000, .slice none 0 0, .map none] : List Value))).blk, t.av q) : CT Tryz.prog 33 [.pointer (some ⟨b, 0, none⟩), sv] t (MsgBox b 100 (.int .i16 v :: ([.pointer none, .int .i16 0, .int .i32 15000, .slice none 0 0, .map none] : List Value))) fun u r e' => r = .nilIface ∧ ∃ cells, e' = MsgBox b 100 (.int .i16 v :: cells) ∧ RMp u F_ProduceRequest (imT F_ProduceRequest v (flexB 9 v) x) cells := by
  refine ct_enter Tryz.func33 rfl Tryz.ntmps33 rfl hok hav (by simp [Ent.blk]) ?_
  refine cd_sr ?_
  refine ln_pv (pv_assign rfl) rfl ?_
  refine ln_cd ?_
  refine cd_sr ?_
  refine ln_pv (pv_move rfl) rfl ?_
  refine ln_pv (pv_move rfl) rfl ?_
  refine ln_callT (i := 0) en_66 rfl rfl (fun u hu hok hav => read_ProduceRequest u b v x sv (RSv.mv hsv hu) hk h0 h1 hok hav) rfl ?_
  rintro u2 _ _ ht2 ⟨ux, ⟨rfl, cells, rfl, hM⟩, hx⟩
  refine ln_pv (pv_assign rfl) rfl ?_
  refine ln_cd ?_
  refine cd_ret ?_
  exact at_retT (i := 0) rfl rfl rfl (fun w hS => ⟨rfl, cells, rfl, (hM.mv hx).mv (hS.trFinT _ _)⟩)
set_option maxHeartbeats 2000000 in
theorem default_ProduceRequest (t : Vw) (v : Int) (x : Tre) (sv : Value) (hsv : RSv t sv (partB F_ProduceRequest v (flexB 9 v) x)) (hk : keysT x) (h0 : 0 ≤ v) (h1 : v ≤ 13) (hB : (partB F_ProduceRequest v (flexB 9 v) x).length ≤ 1099511627776) : CA Tryz.prog 15 [.int .i64 v, sv] t fun u r => ∃ (ds : List Value) (told : Tre), r = .tuple #[.agg ds.toArray, .bool true] ∧ RT u told ds ∧ smT told ∧ ∀ i, (hi : i < List.length F_ProduceRequest) → ¬ (F_ProduceRequest[i]'hi).dflt = 0 → (told.at_ i).n = numK (F_ProduceRequest[i]'hi).kind (F_ProduceRequest[i]'hi).dflt := by
  refine ca_enter Tryz.func15 rfl Tryz.ntmps15 rfl ?_
  refine cd_sr ?_
  refine ln_alloc (l := [_, _, _, _, _]) tiimpl_Tree rfl rfl (fun br => ?_)
  refine ln_pv (pv_assign rfl) rfl ?_
  refine ln_cd ?_
  refine cd_sr ?_
  refine ln_callH (E := []) (H0 := [_]) (List.Perm.refl _) en_29 rfl (fun u hu hok hav hnd => newp_ProduceRequest u hok hav hnd) rfl ?_
  rintro u1 _ _ ht1 ⟨_, ⟨b, rfl, rfl⟩, _⟩
  refine ln_pv (pv_assign rfl) rfl ?_
  refine ln_cd ?_
  refine cd_sr ?_
  refine ln_pv (pv_move rfl) rfl ?_
  refine ln_pv (pv_move rfl) rfl ?_
  refine ln_pv (pv_conv' Tryz.underlying3 Tryz.underlying49 rfl (r := v) (wrap_i16_in (by omega) (by omega))) rfl ?_
  refine ln_callT (i := 0) en_32 rfl rfl (fun u hu hok hav => setd_ProduceRequest u b v hok hav) rfl ?_
  rintro u2 _ _ ht2 ⟨_, rfl, _⟩
  refine ln_cd ?_
  have hsv := hsv.mv (ht1.trans ht2)
  refine cd_seq ?_
  refine cd_sr ?_
  refine ln_pv (pv_move rfl) rfl ?_
  refine ln_pv (pv_move rfl) rfl ?_
  refine ln_nilrow 5 1 ?_
  refine ln_append (i := 0) rfl Tryz.underlying22 tiuint8 rfl (by decide) rfl rfl (RS.src hsv) (by simp only [maxLen]; omega) (by omega) rfl (k' := (partB F_ProduceRequest v (flexB 9 v) x).length) (xs' := u8s (partB F_ProduceRequest v (flexB 9 v) x)) (by omega) (by simp) (fun va hva => ?_)
  refine ln_free1 (fun q h => h.elim) (fun s3 ht3 hK => ?_)
  have hs3 : RSv s3 va (partB F_ProduceRequest v (flexB 9 v) x) := Known.rs hK (u8s_one _)
  clear hK
  refine ln_callT (i := 0) en_33 rfl rfl (fun u hu hok hav => readf_ProduceRequest u b v x _ (RSv.mv hs3 hu) hk h0 h1 hok hav) rfl ?_
  rintro u4 _ _ ht4 ⟨ux4, ⟨rfl, cells, rfl, hM⟩, hx4⟩
  have hM := hM.mv hx4
  refine ln_pv (pv_neqI Tryz.underlying59 rfl) rfl ?_
  refine ln_cd ?_
  refine cd_ff rfl ?_
  refine cd_skip ?_
  refine at_cd ?_
  obtain ⟨fc1, mv1, hce1, hfl1, hTg1⟩ := hM
  simp only [F_ProduceRequest, RMl] at hfl1
  obtain ⟨x1_0, z1_0, e1_0, g1_0, x1_1, z1_1, e1_1, g1_1, x1_2, z1_2, e1_2, g1_2, x1_3, z1_3, e1_3, g1_3, hend1⟩ := hfl1
  obtain ⟨d1_0, rfl, Gg1_0⟩ := (RMf_txt (by decide)).1 g1_0
  obtain rfl := RMf_i16.1 g1_1
  obtain rfl := RMf_i32.1 g1_2
  obtain ⟨_, rfl, Gg1_3⟩ := RMf_list.1 g1_3
  obtain ⟨ad1_3, cap1_3, rfl, hnil1_3, Hg1_3⟩ := Gg1_3.els
  subst hend1
  subst e1_3
  subst e1_2
  subst e1_1
  subst e1_0
  subst hce1
  refine cd_sr ?_
  refine ln_pv (pv_move rfl) rfl ?_
  refine ln_callT (i := 0) en_34 rfl rfl (fun u hu hok hav => df_ProduceRequest _ _ _ _ _ _ (fun w => .obj b (.cells w.toArray 100)) b 0 (Tgt.obj b 100 6) u hok hav) rfl ?_
  rintro u5 _ _ ht5 ⟨_, ⟨rfl, rfl⟩, _⟩
  refine ln_cd ?_
  have hM2 : RMp u4 F_ProduceRequest (.mk 0 [] false [(imT F_ProduceRequest v (flexB 9 v) x).at_ 0, (imT F_ProduceRequest v (flexB 9 v) x).at_ 1, dfF (.mk 3 0 (-1) (-1) (-1) 15000 0 []), (imT F_ProduceRequest v (flexB 9 v) x).at_ 3] (imT F_ProduceRequest v (flexB 9 v) x).u) [d1_0, .int .i16 (IntKind.i16.wrap ((imT F_ProduceRequest v (flexB 9 v) x).at_ 1).n), .int .i32 15000, .slice ad1_3 (els ((imT F_ProduceRequest v (flexB 9 v) x).at_ 3)).length cap1_3, mv1] := ⟨[d1_0, .int .i16 (IntKind.i16.wrap ((imT F_ProduceRequest v (flexB 9 v) x).at_ 1).n), .int .i32 15000, .slice ad1_3 (els ((imT F_ProduceRequest v (flexB 9 v) x).at_ 3)).length cap1_3], mv1, rfl, by simp only [F_ProduceRequest, RMl]; exact ⟨[d1_0], _, rfl, g1_0, ⟨[.int .i16 (IntKind.i16.wrap ((imT F_ProduceRequest v (flexB 9 v) x).at_ 1).n)], _, rfl, g1_1, ⟨[.int .i32 15000], _, rfl, df_i32 _ (by decide), ⟨[.slice ad1_3 (els ((imT F_ProduceRequest v (flexB 9 v) x).at_ 3)).length cap1_3], _, rfl, g1_3, rfl⟩⟩⟩⟩, hTg1⟩
  have hM2 := hM2.mv ht5
  refine cd_free1 (fun q h => h.elim) (fun s9 hs9 hK => ?_)
  have hob : OB s9 b (.cells (.int .i16 v :: [d1_0, .int .i16 (IntKind.i16.wrap ((imT F_ProduceRequest v (flexB 9 v) x).at_ 1).n), .int .i32 15000, .slice ad1_3 (els ((imT F_ProduceRequest v (flexB 9 v) x).at_ 3)).length cap1_3, mv1]).toArray 100) := hK
  clear hK
  have hM2 := hM2.mv hs9
  have htg := tgT_im F_ProduceRequest v (flexB 9 v) hk
  have htg2 : tgT F_ProduceRequest (.mk 0 [] false [(imT F_ProduceRequest v (flexB 9 v) x).at_ 0, (imT F_ProduceRequest v (flexB 9 v) x).at_ 1, dfF (.mk 3 0 (-1) (-1) (-1) 15000 0 []), (imT F_ProduceRequest v (flexB 9 v) x).at_ 3] (imT F_ProduceRequest v (flexB 9 v) x).u) := ⟨htg.1, by
    have h := htg.2
    simp only [F_ProduceRequest, tgL] at h ⊢
    obtain ⟨q0, q1, q2, q3, _⟩ := h
    exact ⟨q0, q1, tgF_df _, q3, trivial⟩⟩
  refine cd_sr ?_
  refine ln_pv (pv_move rfl) rfl ?_
  refine ln_callA en_35 rfl (fun u hu => tell_ProduceRequest u b v (.mk 0 [] false [(imT F_ProduceRequest v (flexB 9 v) x).at_ 0, (imT F_ProduceRequest v (flexB 9 v) x).at_ 1, dfF (.mk 3 0 (-1) (-1) (-1) 15000 0 []), (imT F_ProduceRequest v (flexB 9 v) x).at_ 3] (imT F_ProduceRequest v (flexB 9 v) x).u) [d1_0, .int .i16 (IntKind.i16.wrap ((imT F_ProduceRequest v (flexB 9 v) x).at_ 1).n), .int .i32 15000, .slice ad1_3 (els ((imT F_ProduceRequest v (flexB 9 v) x).at_ 3)).length cap1_3, mv1] (hob.mv hu).rc (hM2.mv hu) htg2) rfl (fun u7 v7 ht7 hR7 => ?_)
  obtain ⟨ds, rfl, hds⟩ := hR7
  refine ln_storeW (i := 0) rfl rfl rfl rfl tiimpl_Tree.size hds.len hds.cells ?_
  refine ln_pv (pv_assign rfl) rfl ?_
  refine ln_cd ?_
  refine cd_ret ?_
  refine at_retCA2 (i := 0) rfl rfl rfl rfl Tryz.underlying42 rfl tiimpl_Tree.size hds.len (fun w hS => ⟨ds, _, rfl, hds.mv hS.trFin, smT_tlT ok_F_ProduceRequest.1 (by decide) htg2, fun i hi hd => ?_⟩)
  have hi : i < 4 := hi
  match i, hi with
  | 0, _ => first | exact absurd rfl hd | rfl | (simp [numK, Tre.at_, dfF, Tre.n]; done)
  | 1, _ => first | exact absurd rfl hd | rfl | (simp [numK, Tre.at_, dfF, Tre.n]; done)
  | 2, _ => first | exact absurd rfl hd | rfl | (simp [numK, Tre.at_, dfF, Tre.n]; done)
  | 3, _ => first | exact absurd rfl hd | rfl | (simp [numK, Tre.at_, dfF, Tre.n]; done)
theorem law_ProduceRequest (t : Vw) (n : Nat) (x : Tre) (cs : List Value) (hn8 : n < 256) (hx : RT t x cs) (hkx : keysT x) (hsm : smT x) (hB : (writeB F_ProduceRequest 9 ((versionN n 13 : Nat) : Int) x).length < 1099511627776) : CS Tryz.prog 4 [.int .u8 (n : Int), .agg cs.toArray] t (.bool true) := by
  obtain ⟨sS, sL, sU, rfl, hn, hS, ⟨lc, hL, hLs⟩, hU⟩ := hx.open
  obtain ⟨adS, cS, rfl, hleS⟩ := hS.shape
  obtain ⟨adL, cL, rfl, hleL⟩ := hL.shape
  have hU0 := hU
  obtain ⟨uc, hU1, hUs⟩ := hU0
  obtain ⟨hz1, hz2, hz3, hz4⟩ := hsm.open
  have hok := ok_F_ProduceRequest
  have hId : ∀ g ∈ F_ProduceRequest, I64 g.dflt := by unfold I64; decide
  have hvn : versionN n 13 ≤ 13 := by have := Nat.mod_lt n (show 0 < 13 + 1 by omega); unfold versionN; omega
  refine CA.cs ?_
  refine ca_enter Tryz.func4 rfl Tryz.ntmps4 rfl ?_
  cases hft : fits1 x with
  | false =>
    refine cd_sr ?_
    refine ln_box rfl rfl rfl (fun b1 => ?_)
    refine ln_pv (pv_assign rfl) rfl ?_
    refine ln_cd ?_
    refine cd_seq ?_
    refine cd_sr ?_
    refine ln_pv (pv_ldO (i := 0) rfl Tryz.underlying26 rfl (tispec_Tree).size rfl rfl) rfl ?_
    refine ln_callS en_6 rfl (fun u hu => by have h := laws_zzFits1 u x _ (RT.mv hx hu) (by omega); rwa [hft] at h) rfl ?_
    refine ln_pv (pv_not rfl) rfl ?_
    refine ln_cd ?_
    refine cd_tt rfl ?_
    refine cd_sr ?_
    refine ln_pv (pv_assign rfl) rfl ?_
    refine ln_cd ?_
    refine cd_ret ?_
    refine at_retA rfl rfl (fun w hS => ?_)
    rfl
  | true =>
    refine cd_sr ?_
    refine ln_box rfl rfl rfl (fun b1 => ?_)
    refine ln_pv (pv_assign rfl) rfl ?_
    refine ln_cd ?_
    refine cd_seq ?_
    refine cd_sr ?_
    refine ln_pv (pv_ldO (i := 0) rfl Tryz.underlying26 rfl (tispec_Tree).size rfl rfl) rfl ?_
    refine ln_callS en_6 rfl (fun u hu => by have h := laws_zzFits1 u x _ (RT.mv hx hu) (by omega); rwa [hft] at h) rfl ?_
    refine ln_pv (pv_not rfl) rfl ?_
    refine ln_cd ?_
    refine cd_ff rfl ?_
    refine cd_skip ?_
    refine at_cd ?_
    refine cd_sr ?_
    refine ln_callS en_13 rfl (fun u hu => max_ProduceRequest u) rfl ?_
    refine ln_pv (pv_assign rfl) rfl ?_
    refine ln_cd ?_
    refine cd_seq ?_
    refine cd_sr ?_
    refine ln_pv (pv_move rfl) rfl ?_
    refine ln_pv (pv_ff (pv_lss rfl rfl) (by omega)) rfl ?_
    refine ln_cd ?_
    refine cd_ff rfl ?_
    refine cd_skip ?_
    refine at_cd ?_
    refine cd_sr ?_
    refine ln_callA en_14 rfl (fun u hu => sch_F_ProduceRequest u) rfl (fun u1 v1 ht1 hR1 => ?_)
    have hx := hx.mv ht1
    obtain ⟨sv, lcm, rfl, hVm, hFm⟩ := hR1
    refine ln_pv (pv_move rfl) rfl ?_
    refine ln_pv (pv_move rfl) rfl ?_
    refine ln_callS en_9 rfl (fun u hu => laws_version u n 13 hn8 (by omega)) rfl ?_
    refine ln_alloc tispec_Message rfl rfl (fun b2 => ?_)
    refine ln_storeW (i := 0) rfl rfl rfl rfl (tispec_Message).size rfl (by simp [(RS.one hVm)]) ?_
    refine ln_pv (pv_assign rfl) rfl ?_
    refine ln_cd ?_
    refine cd_sr ?_
    refine ln_pv (pv_move rfl) rfl ?_
    refine ln_pv (pv_ldO (i := 0) rfl Tryz.underlying31 rfl (tispec_Message).size rfl rfl) rfl ?_
    refine ln_pv (pv_move rfl) rfl ?_
    refine ln_pv (pv_ldO (i := 1) rfl Tryz.underlying26 rfl (tispec_Tree).size rfl rfl) rfl ?_
    refine ln_callA en_10 rfl (fun u hu => spec_Write F_ProduceRequest 9 hok.1 hok.2.2 u _ _ _ ((versionN n 13 : Nat) : Int) x (RS.mv hVm hu) (RFs.mv hFm hu) (RT.mv hx hu) hsm hB) rfl (fun u2 v2 ht2 hR2 => ?_)
    have hx := hx.mv ht2
    have hVm := hVm.mv ht2
    have hFm := hFm.mv ht2
    refine ln_callA en_15 rfl (fun u hu => default_ProduceRequest u ((versionN n 13 : Nat) : Int) x _ (RSv.mv hR2 hu) hkx (by omega) (by omega) (by rw [show partB F_ProduceRequest ((versionN n 13 : Nat) : Int) (flexB 9 ((versionN n 13 : Nat) : Int)) x = writeB F_ProduceRequest 9 ((versionN n 13 : Nat) : Int) x from rfl]; omega)) rfl (fun u3 v3 ht3 hR3 => ?_)
    have hx := hx.mv ht3
    have hVm := hVm.mv ht3
    have hFm := hFm.mv ht3
    have hR2 := hR2.mv ht3
    obtain ⟨ds, told, rfl, hT, hsmT, hDt⟩ := hR3
    refine ln_pv (pv_move rfl) rfl ?_
    refine ln_pv (pv_extract rfl rfl) rfl ?_
    refine ln_pv (pv_extract rfl rfl) rfl ?_
    refine ln_alloc tiimpl_Tree rfl rfl (fun b3 => ?_)
    refine ln_storeW (i := 0) rfl rfl rfl rfl (tiimpl_Tree).size hT.len hT.cells ?_
    refine ln_pv (pv_assign rfl) rfl ?_
    refine ln_cd ?_
    refine cd_dr' [0, 1, 2] [1, 2, 3, 4, 7, 8] [0, 1, 2, 3, 4, 5, 6, 7, 8] mixed (by kernel_rfl) ?_
    refine lo_eff rfl rfl ?_
    refine ln_pv (pv_move rfl) rfl ?_
    refine lo_back (sk_js (Tr.refl _) [0, 1, 2] rfl) ?_
    refine lo_pv rfl rfl (sk_js (Tr.refl _) [0, 1, 2] rfl) (pv_move rfl) rfl ?_
    refine lo_gt rfl rfl (sk_js (Tr.refl _) [0, 1, 2] rfl) rfl rfl rfl (pv_fieldAddr (off := 0) (r := 0) Tryz.underlying31 rfl (tiSl_spec_Field).size rfl rfl rfl) rfl ?_
    refine lo_gt rfl rfl (sk_js (Tr.refl _) [0, 1, 2] rfl) rfl rfl rfl (pv_ldo (i := 1) rfl Tryz.underlying29 rfl rfl rfl) rfl ?_
    refine lo_gt rfl rfl (sk_js (Tr.refl _) [0, 1, 2] rfl) rfl rfl rfl (pv_ldO (i := 0) rfl Tryz.underlying42 rfl (tiimpl_Tree).size rfl hT.len) rfl ?_
    refine lo_eff rfl rfl ?_
    refine ln_gE rfl rfl rfl ?_
    refine ln_callA en_17 rfl (fun u hu => laws_got told u _ (RT.mv hT hu) hsmT) rfl (fun u4 v4 ht4 hR4 => ?_)
    have hx := hx.mv ht4
    have hVm := hVm.mv ht4
    have hFm := hFm.mv ht4
    have hR2 := hR2.mv ht4
    have hT := hT.mv ht4
    obtain ⟨dg, rfl, hG⟩ := hR4
    refine lo_back (sk_js ht4 [0, 1, 2] rfl) ?_
    refine lo_eff rfl rfl ?_
    refine ln_gE rfl rfl rfl ?_
    refine ln_callS en_16 rfl (fun u hu => spec_Defaults F_ProduceRequest hId (by decide) u _ _ _ told (RS.mv hVm hu) (RFs.mv hFm hu) (RT.mv hG hu) hDt) rfl ?_
    refine lo_back (sk_js ht4 [0, 1, 2] rfl) ?_
    refine lo_pv rfl rfl (sk_js ht4 [0, 1, 2] rfl) (pv_pick rfl (fun _ => rfl) (fun _ => rfl)) rfl ?_
    refine lo_pv rfl rfl (sk_js ht4 [0, 1, 2] rfl) (pv_assign rfl) rfl ?_
    refine lo_cd ?_
    refine cd_ret ?_
    refine at_retA rfl rfl (fun w hS => ?_)
    rfl
theorem fn_ProduceRequest (t : Vw) (n : Nat) (x : Tre) (cs : List Value) (hn : n < 256) (hx : RT t x cs) (hw : wt x ≤ 1048576) : CS Tryz.prog 4 [.int .u8 (n : Int), .agg cs.toArray] t (.bool true) := by
  have hok := ok_F_ProduceRequest
  exact law_ProduceRequest t n x cs hn hx hx.keys (smT_wt x (by omega)) (writeB_len _ _ _ x hok.1 hx.keys hw (of_decide_eq_true (by kernel_rfl)))
end K
end Go.Proofs.YtpphedmelbfnmaaGreatDoor
