import Derived.Test.YtekafeogilbjmaaGreatDoorVa
import Derived.Test.YtekafeogilbjmaaGreatDoorTk
import Derived.Test.YtekafeogilbjmaaGreatDoorW4
import Derived.Test.YtekafeogilbjmaaGreatDoorMjt
import Derived.Test.YtekafeogilbjmaaGreatDoorP4
import Derived.Test.YtekafeogilbjmaaGreatDoorS10
set_option linter.unusedVariables false
set_option linter.unusedSimpArgs false
namespace Go.Proofs.YtekafeogilbjmaaGreatDoor
namespace K
open Go Go.Lib
theorem df_ShareAcknowledgeRequest (z0 z1 z2 z3 z4 z5 z6 : Value) : DfC 174 [z0, z1, z2, z3, z4, z5, z6] [z0, z1, z2, z3, z4, z5, z6] := by
  intro mk b o hT t hok hav
  refine ct_enter Tryz.func174 rfl Tryz.ntmps174 rfl hok hav (by rw [hT.blk]; simp) ?_
  refine cd_skip ?_
  exact at_retT0 (i := 0) rfl rfl (fun w hS => ⟨rfl, rfl⟩)
theorem df_ShareAcknowledgeRequestTopic (z0 z1 z2 z3 z4 z5 z6 z7 z8 z9 z10 z11 z12 z13 z14 z15 z16 z17 : Value) : DfC 228 [z0, z1, z2, z3, z4, z5, z6, z7, z8, z9, z10, z11, z12, z13, z14, z15, z16, z17] [z0, z1, z2, z3, z4, z5, z6, z7, z8, z9, z10, z11, z12, z13, z14, z15, z16, z17] := by
  intro mk b o hT t hok hav
  refine ct_enter Tryz.func228 rfl Tryz.ntmps228 rfl hok hav (by rw [hT.blk]; simp) ?_
  refine cd_skip ?_
  exact at_retT0 (i := 0) rfl rfl (fun w hS => ⟨rfl, rfl⟩)
theorem df_ShareAcknowledgeRequestTopicPartition (z0 z1 z2 : Value) : DfC 229 [z0, z1, z2] [z0, z1, z2] := by
  intro mk b o hT t hok hav
  refine ct_enter Tryz.func229 rfl Tryz.ntmps229 rfl hok hav (by rw [hT.blk]; simp) ?_
  refine cd_skip ?_
  exact at_retT0 (i := 0) rfl rfl (fun w hS => ⟨rfl, rfl⟩)
theorem df_ShareAcknowledgeRequestTopicPartitionAcknowledgementBatch (z0 z1 z2 z3 : Value) : DfC 230 [z0, z1, z2, z3] [z0, z1, z2, z3] := by
  intro mk b o hT t hok hav
  refine ct_enter Tryz.func230 rfl Tryz.ntmps230 rfl hok hav (by rw [hT.blk]; simp) ?_
  refine cd_skip ?_
  exact at_retT0 (i := 0) rfl rfl (fun w hS => ⟨rfl, rfl⟩)
theorem read_ShareAcknowledgeRequest (t : Vw) (b : Nat) (v : Int) (x : Tre) (sv : Value) (hsv : RSv t sv (partB F_ShareAcknowledgeRequest v (flexB 0 v) x)) (hk : keysT x) (h0 : 0 ≤ v) (h1 : v ≤ 2) (hok : (MsgBox b 192 (.int .i16 v :: ([.pointer none, .pointer none, .int .i32 0, .bool false, .slice none 0 0, .map none] : List Value))).ok t.w) (hav : ∀ q ∈ (MsgBox b 192 (.int .i16 v :: ([.pointer none, .pointer none, .int .i32 0, .bool false, .slice none 0 0, .map none] : List Value))).blk, t.av q) : CT Tryz.prog 176 [.pointer (some ⟨b, 0, none⟩), sv, .bool false] t (MsgBox b 192 (.int .i16 v :: ([.pointer none, .pointer none, .int .i32 0, .bool false, .slice none 0 0, .map none] : List Value))) fun u r e' => r = .nilIface ∧ ∃ cells, e' = MsgBox b 192 (.int .i16 v :: cells) ∧ RMp u F_ShareAcknowledgeRequest (imT F_ShareAcknowledgeRequest v (flexB 0 v) x) cells := by
  have hv0 := h0
  have hnt : ntFs F_ShareAcknowledgeRequest = true := by kernel_rfl
  generalize hqd : flexB 0 v = q at *
  have hq0 : decide (v ≥ 0) = q := by rw [← hqd]; simp [flexB]
  obtain ⟨adS, cS, rfl, hcS⟩ := RSv.shape hsv
  refine ct_enter Tryz.func176 rfl Tryz.ntmps176 rfl hok hav (by simp [Ent.blk]) ?_
  refine cd_sq ?_
  refine rg_const rfl ?_
  refine at_cd ?_
  refine cd_sr ?_
  refine ln_pv (pv_move rfl) rfl ?_
  refine ln_callT (i := 0) (vals := [.pointer (some ⟨b, 0, none⟩)]) en_174 rfl rfl (fun u hu hok hav => df_ShareAcknowledgeRequest _ _ _ _ _ _ _ (fun w => .obj b (.cells w.toArray 192)) b 0 (Tgt.obj b 192 7) u hok hav) rfl ?_
  rintro u1 _ _ ht1 ⟨ux1, ⟨rfl, rfl⟩, hx1⟩
  refine ln_cd ?_
  refine cd_sr ?_
  refine ln_pv (pv_move rfl) rfl ?_
  refine ln_pv (pv_struct [(0, 1), (1, 1)] (l := [_, _]) rfl Tryz.underlying199 tipub_kmsg_inner_kbin_Reader (by kernel_rfl) rfl rfl) rfl ?_
  refine ln_alloc (l := [.slice none 0 0, .bool false]) tipub_kmsg_inner_kbin_Reader rfl rfl (fun br => ?_)
  refine ln_storeW (i := 0) (vs := [_, .bool false]) rfl rfl rfl rfl tipub_kmsg_inner_kbin_Reader.size rfl (by simp) ?_
  refine ln_cd ?_
  refine cd_sr ?_
  refine ln_pv (pv_move rfl) rfl ?_
  refine ln_pv (pv_nilCheck rfl) rfl ?_
  refine ln_pv (pv_fieldAddr (off := 0) (r := 0) Tryz.underlying192 rfl tiint16.size rfl rfl rfl) rfl ?_
  refine ln_pv (pv_ldo (i := 1) (v := .int .i16 v) rfl Tryz.underlying46 rfl rfl rfl) rfl ?_
  refine ln_pv (pv_assign rfl) rfl ?_
  refine ln_cd ?_
  refine cd_sq ?_
  refine rg_blank rfl rfl ?_
  refine at_cd ?_
  refine cd_sr ?_
  refine ln_pv (pv_move rfl) rfl ?_
  refine ln_pv (pv_geq rfl rfl) rfl ?_
  refine ln_pv (pv_assign rfl) rfl ?_
  rw [hq0]
  refine ln_cd ?_
  refine cd_sq ?_
  refine rg_blank rfl rfl ?_
  refine at_cd ?_
  refine cd_sr ?_
  refine ln_pv (pv_move rfl) rfl ?_
  refine ln_pv (pv_assign rfl) rfl ?_
  refine ln_cd ?_
  refine cd_sub_ (L' := [(10, .pointer (some ⟨b, 0, none⟩)), (9, .bool q), (8, .int .i16 v), (7, .pointer (some ⟨br, 0, none⟩)), (2, .bool false)]) (.put rfl (.put rfl (.put rfl (.put rfl (.put rfl .nil))))) ?_
  obtain ⟨mk, hmk⟩ : ∃ mk : List Value → Ent, mk = fun w => MsgBox b 192 (.int .i16 v :: w) := ⟨_, rfl⟩
  have hT : Tgt mk b 1 6 := by rw [hmk]; exact Tgt.behind b 192 _ 6
  refine cd_eqH (H' := [RdE br _, mk ([] ++ ([.pointer none, .pointer none, .int .i32 0, .bool false, .slice none 0 0, .map none] : List Value))]) (by rw [hmk]; rfl) ?_
  have hR : Rs u1 [.mk 8 0 (-1) 0 (-1) 0 0 [], .mk 8 0 (-1) 0 (-1) 0 0 [], .mk 3 0 (-1) (-1) (-1) 0 0 [], .mk 0 2 (-1) (-1) (-1) 0 0 [], .mk 11 0 (-1) (-1) (-1) 0 10 F_sShareAcknowledgeRequestTopic] [] v q x (imT F_ShareAcknowledgeRequest v q x) (tgsB q x ++ []) _ [] := Rs.start (F := F_ShareAcknowledgeRequest) (RSv.part hnt (by rw [List.append_nil]; exact RSv.mv hsv ht1)) hnt
  refine cd_sq ?_
  refine cd_sq ?_
  refine rg_const rfl ?_
  refine at_cd ?_
  refine st_txt (z := .pointer none) hR (hasB_all hv0) rfl rfl rfl en_187 en_189 (fun h => fc_ctxt (by decide) h) (fun h => fc_txt (by decide) h) rfl hT rfl Tryz.underlying192 rfl tiPt_string.size rfl (po_eq (show 1 = 1 + fszs _ by kernel_rfl)) tiPt_string.size rfl rfl rfl rfl rfl rfl (fun u1 v1 done1 ht1 hR => ?_)
  refine at_cd ?_
  refine cd_sq ?_
  refine cd_sq ?_
  refine rg_const rfl ?_
  refine at_cd ?_
  refine st_txt (z := .pointer none) hR (hasB_all hv0) rfl rfl rfl en_187 en_189 (fun h => fc_ctxt (by decide) h) (fun h => fc_txt (by decide) h) rfl hT rfl Tryz.underlying192 rfl tiPt_string.size rfl (po_eq (show 2 = 1 + fszs _ by kernel_rfl)) tiPt_string.size rfl rfl rfl rfl rfl rfl (fun u2 v2 done2 ht2 hR => ?_)
  refine at_cd ?_
  refine cd_sq ?_
  refine st_num (z := .int .i32 0) hR (hasB_all hv0) rfl en_179 (Fc.num (by decide) (by decide) (by decide) (fun null => sc_i32 null _ _)) rfl hT rfl Tryz.underlying192 rfl tiint32.size rfl (po_eq (show 3 = 1 + fszs _ by kernel_rfl)) tiint32.size rfl rfl (fun u3 v3 done3 ht3 hR => ?_)
  refine at_cd ?_
  refine cd_sq ?_
  refine st_if (zc := ([.bool false] : List Value)) (zs := ([.slice none 0 0, .map none] : List Value)) rfl rfl hR (hasB_from) (fun u => df_b u rfl) rfl (fun u4 v4 done4 ht4 hR => ?_) (fun hh kk => ?_)
  rotate_left
  · skip
    exact st_num (z := .bool false) hR hh rfl en_218 (Fc.num (by decide) (by decide) (by decide) (fun null => sc_b null _ _)) rfl hT rfl Tryz.underlying192 rfl tibool.size rfl (po_eq (show 4 = 1 + fszs _ by kernel_rfl)) tibool.size rfl rfl kk
  refine at_cd ?_
  refine cd_sq ?_
  refine st_list (zc := ([.int .u8 0, .int .u8 0, .int .u8 0, .int .u8 0, .int .u8 0, .int .u8 0, .int .u8 0, .int .u8 0, .int .u8 0, .int .u8 0, .int .u8 0, .int .u8 0, .int .u8 0, .int .u8 0, .int .u8 0, .int .u8 0, .slice none 0 0, .map none] : List Value)) hR (hasB_all hv0) (by decide) rfl rfl rfl hT rfl Tryz.underlying192 rfl tiSl_kmsg_ShareAcknowledgeRequestTopic.size rfl (po_eq (show 5 = 1 + fszs _ by kernel_rfl)) tiSl_kmsg_ShareAcknowledgeRequestTopic.size Tryz.underlying190 Tryz.underlying21 tipub_kmsg_ShareAcknowledgeRequestTopic rfl rfl (by kernel_rfl) (by decide) (by decide) (fun q hq => .inl (by simpa [Ent.blk] using hq)) (fun z => part_pos (plain_pos (by decide) (by decide) (by decide) (hasB_all hv0))) rfl rfl rfl rfl rfl rfl rfl rfl rfl rfl rfl rfl rfl (keysT.at_ hk _) (fun gb5 cap5 m5 i5 x5 u5 v5 xs5 rest5 N5 X5 hi5 hm5 hk5 ht5 hxl5 hv5 kb5 => ?_) (fun uu5 vv5 done5 hh5 hR => ?_)
  · skip
    have hnt5 : ntFs F_sShareAcknowledgeRequestTopic = true := by kernel_rfl
    have hvp5 := RSv.el hnt5 hv5
    refine cd_sq ?_
    refine rg_ix rfl rfl hi5 Tryz.underlying190 tipub_kmsg_ShareAcknowledgeRequestTopic.size rfl ?_
    refine at_cd ?_
    obtain ⟨mk5, hmk5⟩ : ∃ mk : List Value → Ent, mk = fun w => .row (.slice (some ⟨gb5, 0, none⟩) m5 cap5) 197 18 m5 (xs5 ++ (w ++ (List.replicate (m5 - (i5 + 1)) ([.int .u8 0, .int .u8 0, .int .u8 0, .int .u8 0, .int .u8 0, .int .u8 0, .int .u8 0, .int .u8 0, .int .u8 0, .int .u8 0, .int .u8 0, .int .u8 0, .int .u8 0, .int .u8 0, .int .u8 0, .int .u8 0, .slice none 0 0, .map none] : List Value)).flatten)) := ⟨_, rfl⟩
    have hT5 : Tgt mk5 gb5 (0 + i5 * 18) 18 := by rw [hmk5]; exact (Tgt.row gb5 cap5 m5 18 197).mid _ _ _ _ (list_fits hi5 hxl5 rfl) (by rw [hxl5])
    refine cd_eqH (H' := RdE _ v5 :: mk5 ([.int .u8 0, .int .u8 0, .int .u8 0, .int .u8 0, .int .u8 0, .int .u8 0, .int .u8 0, .int .u8 0, .int .u8 0, .int .u8 0, .int .u8 0, .int .u8 0, .int .u8 0, .int .u8 0, .int .u8 0, .int .u8 0, .slice none 0 0, .map none] : List Value) :: _) (by rw [hmk5]) ?_
    refine cd_sq ?_
    refine rg_dflt (z2 := ([.int .u8 0, .int .u8 0, .int .u8 0, .int .u8 0, .int .u8 0, .int .u8 0, .int .u8 0, .int .u8 0, .int .u8 0, .int .u8 0, .int .u8 0, .int .u8 0, .int .u8 0, .int .u8 0, .int .u8 0, .int .u8 0, .slice none 0 0, .map none] : List Value)) rfl en_228 (df_ShareAcknowledgeRequestTopic _ _ _ _ _ _ _ _ _ _ _ _ _ _ _ _ _ _) hT5 rfl (fun u6 ht6 => ?_)
    refine at_cd ?_
    refine cd_sq ?_
    refine rg_move rfl rfl ?_
    refine at_cd ?_
    have hR : Rs u6 [.mk 7 0 (-1) (-1) (-1) 0 0 [], .mk 11 0 (-1) (-1) (-1) 0 10 F_sShareAcknowledgeRequestTopicPartition] [] _ q x5 (.mk 0 [] false (imL F_sShareAcknowledgeRequestTopic _ q x5 0) (imU F_sShareAcknowledgeRequestTopic q x5.u)) (tgsB q x5 ++ rest5) v5 [] := Rs.start (F := F_sShareAcknowledgeRequestTopic) (RSv.mv hvp5 ht6) hnt5
    refine cd_eqH (H' := RdE _ v5 :: mk5 ([] ++ ([.int .u8 0, .int .u8 0, .int .u8 0, .int .u8 0, .int .u8 0, .int .u8 0, .int .u8 0, .int .u8 0, .int .u8 0, .int .u8 0, .int .u8 0, .int .u8 0, .int .u8 0, .int .u8 0, .int .u8 0, .int .u8 0, .slice none 0 0, .map none] : List Value)) :: _) rfl ?_
    refine cd_sq ?_
    refine st_uuid (zc := List.replicate 16 (.int .u8 0)) (zs := [.slice none 0 0, .map none]) rfl hR (hasB_all hv0) rfl en_204 (uuid_length _) (fun u => by rw [uu_B]; exact rd_Uuid u _ (uuid_length _)) (fun u => uu_M u) rfl hT5 rfl rfl Tryz.underlying197 rfl ti_16_uint8.size rfl (po_eq (show 0 = 0 + fszs _ by kernel_rfl)) ti_16_uint8 rfl Tryz.underlying136 rfl (fun u7 v7 done7 ht7 hR => ?_)
    refine at_cd ?_
    refine cd_sq ?_
    refine st_list (zc := ([.int .i32 0, .slice none 0 0, .map none] : List Value)) hR (hasB_all hv0) (by decide) rfl rfl rfl hT5 rfl Tryz.underlying197 rfl tiSl_kmsg_ShareAcknowledgeRequestTopicPartition.size rfl (po_eq (show 16 = 0 + fszs _ by kernel_rfl)) tiSl_kmsg_ShareAcknowledgeRequestTopicPartition.size Tryz.underlying195 Tryz.underlying21 tipub_kmsg_ShareAcknowledgeRequestTopicPartition rfl rfl (by kernel_rfl) (by decide) (by decide) (fun q hq => .inr (hO_push hT (fun q hq => .inl (by simpa [Ent.blk] using hq)) _ q hq)) (fun z => part_pos (plain_pos (by decide) (by decide) (by decide) (hasB_all hv0))) rfl rfl rfl rfl rfl rfl rfl rfl rfl rfl rfl rfl rfl (keysT.at_ hk5 _) (fun gb8 cap8 m8 i8 x8 u8 v8 xs8 rest8 N8 X8 hi8 hm8 hk8 ht8 hxl8 hv8 kb8 => ?_) (fun uu8 vv8 done8 hh8 hR => ?_)
    · skip
      have hnt8 : ntFs F_sShareAcknowledgeRequestTopicPartition = true := by kernel_rfl
      have hvp8 := RSv.el hnt8 hv8
      refine cd_sq ?_
      refine rg_ix rfl rfl hi8 Tryz.underlying195 tipub_kmsg_ShareAcknowledgeRequestTopicPartition.size rfl ?_
      refine at_cd ?_
      obtain ⟨mk8, hmk8⟩ : ∃ mk : List Value → Ent, mk = fun w => .row (.slice (some ⟨gb8, 0, none⟩) m8 cap8) 234 3 m8 (xs8 ++ (w ++ (List.replicate (m8 - (i8 + 1)) ([.int .i32 0, .slice none 0 0, .map none] : List Value)).flatten)) := ⟨_, rfl⟩
      have hT8 : Tgt mk8 gb8 (0 + i8 * 3) 3 := by rw [hmk8]; exact (Tgt.row gb8 cap8 m8 3 234).mid _ _ _ _ (list_fits hi8 hxl8 rfl) (by rw [hxl8])
      refine cd_eqH (H' := RdE _ v8 :: mk8 ([.int .i32 0, .slice none 0 0, .map none] : List Value) :: _) (by rw [hmk8]) ?_
      refine cd_sq ?_
      refine rg_dflt (z2 := ([.int .i32 0, .slice none 0 0, .map none] : List Value)) rfl en_229 (df_ShareAcknowledgeRequestTopicPartition _ _ _) hT8 rfl (fun u9 ht9 => ?_)
      refine at_cd ?_
      refine cd_sq ?_
      refine rg_move rfl rfl ?_
      refine at_cd ?_
      have hR : Rs u9 [.mk 3 0 (-1) (-1) (-1) 0 0 [], .mk 11 0 (-1) (-1) (-1) 0 10 F_sShareAcknowledgeRequestTopicPartitionAcknowledgementBatch] [] _ q x8 (.mk 0 [] false (imL F_sShareAcknowledgeRequestTopicPartition _ q x8 0) (imU F_sShareAcknowledgeRequestTopicPartition q x8.u)) (tgsB q x8 ++ rest8) v8 [] := Rs.start (F := F_sShareAcknowledgeRequestTopicPartition) (RSv.mv hvp8 ht9) hnt8
      refine cd_eqH (H' := RdE _ v8 :: mk8 ([] ++ ([.int .i32 0, .slice none 0 0, .map none] : List Value)) :: _) rfl ?_
      refine cd_sq ?_
      refine st_num (z := .int .i32 0) hR (hasB_all hv0) rfl en_179 (Fc.num (by decide) (by decide) (by decide) (fun null => sc_i32 null _ _)) rfl hT8 rfl Tryz.underlying234 rfl tiint32.size rfl (po_eq (show 0 = 0 + fszs _ by kernel_rfl)) tiint32.size rfl rfl (fun u10 v10 done10 ht10 hR => ?_)
      refine at_cd ?_
      refine cd_sq ?_
      refine st_list (zc := ([.int .i64 0, .int .i64 0, .slice none 0 0, .map none] : List Value)) hR (hasB_all hv0) (by decide) rfl rfl rfl hT8 rfl Tryz.underlying234 rfl tiSl_kmsg_ShareAcknowledgeRequestTopicPartitionAcknowledgementBatch.size rfl (po_eq (show 1 = 0 + fszs _ by kernel_rfl)) tiSl_kmsg_ShareAcknowledgeRequestTopicPartitionAcknowledgementBatch.size Tryz.underlying232 Tryz.underlying21 tipub_kmsg_ShareAcknowledgeRequestTopicPartitionAcknowledgementBatch rfl rfl (by kernel_rfl) (by decide) (by decide) (fun q hq => .inr (hO_push hT5 (fun q hq => .inr (hO_push hT (fun q hq => .inl (by simpa [Ent.blk] using hq)) _ q hq)) _ q hq)) (fun z => part_pos (plain_pos (by decide) (by decide) (by decide) (hasB_all hv0))) rfl rfl rfl rfl rfl rfl rfl rfl rfl rfl rfl rfl rfl (keysT.at_ hk8 _) (fun gb11 cap11 m11 i11 x11 u11 v11 xs11 rest11 N11 X11 hi11 hm11 hk11 ht11 hxl11 hv11 kb11 => ?_) (fun uu11 vv11 done11 hh11 hR => ?_)
      · skip
        have hnt11 : ntFs F_sShareAcknowledgeRequestTopicPartitionAcknowledgementBatch = true := by kernel_rfl
        have hvp11 := RSv.el hnt11 hv11
        refine cd_sq ?_
        refine rg_ix rfl rfl hi11 Tryz.underlying232 tipub_kmsg_ShareAcknowledgeRequestTopicPartitionAcknowledgementBatch.size rfl ?_
        refine at_cd ?_
        obtain ⟨mk11, hmk11⟩ : ∃ mk : List Value → Ent, mk = fun w => .row (.slice (some ⟨gb11, 0, none⟩) m11 cap11) 238 4 m11 (xs11 ++ (w ++ (List.replicate (m11 - (i11 + 1)) ([.int .i64 0, .int .i64 0, .slice none 0 0, .map none] : List Value)).flatten)) := ⟨_, rfl⟩
        have hT11 : Tgt mk11 gb11 (0 + i11 * 4) 4 := by rw [hmk11]; exact (Tgt.row gb11 cap11 m11 4 238).mid _ _ _ _ (list_fits hi11 hxl11 rfl) (by rw [hxl11])
        refine cd_eqH (H' := RdE _ v11 :: mk11 ([.int .i64 0, .int .i64 0, .slice none 0 0, .map none] : List Value) :: _) (by rw [hmk11]) ?_
        refine cd_sq ?_
        refine rg_dflt (z2 := ([.int .i64 0, .int .i64 0, .slice none 0 0, .map none] : List Value)) rfl en_230 (df_ShareAcknowledgeRequestTopicPartitionAcknowledgementBatch _ _ _ _) hT11 rfl (fun u12 ht12 => ?_)
        refine at_cd ?_
        refine cd_sq ?_
        refine rg_move rfl rfl ?_
        refine at_cd ?_
        have hR : Rs u12 [.mk 4 0 (-1) (-1) (-1) 0 0 [], .mk 4 0 (-1) (-1) (-1) 0 0 [], .mk 11 0 (-1) (-1) (-1) 0 1 []] [] _ q x11 (.mk 0 [] false (imL F_sShareAcknowledgeRequestTopicPartitionAcknowledgementBatch _ q x11 0) (imU F_sShareAcknowledgeRequestTopicPartitionAcknowledgementBatch q x11.u)) (tgsB q x11 ++ rest11) v11 [] := Rs.start (F := F_sShareAcknowledgeRequestTopicPartitionAcknowledgementBatch) (RSv.mv hvp11 ht12) hnt11
        refine cd_eqH (H' := RdE _ v11 :: mk11 ([] ++ ([.int .i64 0, .int .i64 0, .slice none 0 0, .map none] : List Value)) :: _) rfl ?_
        refine cd_sq ?_
        refine st_num (z := .int .i64 0) hR (hasB_all hv0) rfl en_231 (Fc.num (by decide) (by decide) (by decide) (fun null => sc_i64 null _ _)) rfl hT11 rfl Tryz.underlying238 rfl tiint64.size rfl (po_eq (show 0 = 0 + fszs _ by kernel_rfl)) tiint64.size rfl rfl (fun u13 v13 done13 ht13 hR => ?_)
        refine at_cd ?_
        refine cd_sq ?_
        refine st_num (z := .int .i64 0) hR (hasB_all hv0) rfl en_231 (Fc.num (by decide) (by decide) (by decide) (fun null => sc_i64 null _ _)) rfl hT11 rfl Tryz.underlying238 rfl tiint64.size rfl (po_eq (show 1 = 0 + fszs _ by kernel_rfl)) tiint64.size rfl rfl (fun u14 v14 done14 ht14 hR => ?_)
        refine at_cd ?_
        refine cd_sq ?_
        refine st_list (zc := ([.int .i8 0] : List Value)) hR (hasB_all hv0) (by decide) rfl rfl rfl hT11 rfl Tryz.underlying238 rfl tiSl_int8.size rfl (po_eq (show 2 = 0 + fszs _ by kernel_rfl)) tiSl_int8.size Tryz.underlying236 Tryz.underlying21 tiint8 rfl rfl (by kernel_rfl) (by decide) (by decide) (fun q hq => .inr (hO_push hT8 (fun q hq => .inr (hO_push hT5 (fun q hq => .inr (hO_push hT (fun q hq => .inl (by simpa [Ent.blk] using hq)) _ q hq)) _ q hq)) _ q hq)) (fun z => by simp only [valueB]; rw [if_neg (by decide)]; exact scalar_pos _ _ _ _) rfl rfl rfl rfl rfl rfl rfl rfl rfl rfl rfl rfl rfl (keysT.at_ hk11 _) (fun gb15 cap15 m15 i15 x15 u15 v15 xs15 rest15 N15 X15 hi15 hm15 hk15 ht15 hxl15 hv15 kb15 => ?_) (fun uu15 vv15 done15 hh15 hR => ?_)
        · skip
          refine st_elem (ez := 1) (by decide) rfl en_196 (sc_i8 false _ _) hv15 rfl rfl hi15 (by rw [hxl15]) (by simp) Tryz.underlying236 tiint8.size rfl rfl (fun u v c ht hE hv => ?_)
          exact kb15 _ _ _ ht hE hv
        refine at_cd ?_
        refine st_tags (F := F_sShareAcknowledgeRequestTopicPartitionAcknowledgementBatch) hnt11 hR (keysT.open hk11).1 rfl rfl rfl hT11 rfl Tryz.underlying238 rfl tipub_kmsg_Tags.size rfl (po_eq (show 3 = 0 + fszs _ by kernel_rfl)) tipub_kmsg_Tags.size rfl rfl (fun u16 v16 cs16 ht16 hv hM => ?_)
        refine at_eqH (H' := RdE _ _ :: .row (.slice (some ⟨gb11, 0, none⟩) m11 cap11) 238 4 m11 (xs11 ++ (_ ++ (List.replicate (m11 - (i11 + 1)) ([.int .i64 0, .int .i64 0, .slice none 0 0, .map none] : List Value)).flatten)) :: _) (by rw [hmk11]) ?_
        exact at_sub (.skip rfl (.skip rfl .rfl')) (kb11 _ _ _ ((((ht12.trans ht13).trans ht14).trans hh15).trans ht16) (REl_part hM) hv)
      refine at_cd ?_
      refine st_tags (F := F_sShareAcknowledgeRequestTopicPartition) hnt8 hR (keysT.open hk8).1 rfl rfl rfl hT8 rfl Tryz.underlying234 rfl tipub_kmsg_Tags.size rfl (po_eq (show 2 = 0 + fszs _ by kernel_rfl)) tipub_kmsg_Tags.size rfl rfl (fun u17 v17 cs17 ht17 hv hM => ?_)
      refine at_eqH (H' := RdE _ _ :: .row (.slice (some ⟨gb8, 0, none⟩) m8 cap8) 234 3 m8 (xs8 ++ (_ ++ (List.replicate (m8 - (i8 + 1)) ([.int .i32 0, .slice none 0 0, .map none] : List Value)).flatten)) :: _) (by rw [hmk8]) ?_
      exact at_sub (.skip rfl (.skip rfl .rfl')) (kb8 _ _ _ (((ht9.trans ht10).trans hh11).trans ht17) (REl_part hM) hv)
    refine at_cd ?_
    refine st_tags (F := F_sShareAcknowledgeRequestTopic) hnt5 hR (keysT.open hk5).1 rfl rfl rfl hT5 rfl Tryz.underlying197 rfl tipub_kmsg_Tags.size rfl (po_eq (show 17 = 0 + fszs _ by kernel_rfl)) tipub_kmsg_Tags.size rfl rfl (fun u18 v18 cs18 ht18 hv hM => ?_)
    refine at_eqH (H' := RdE _ _ :: .row (.slice (some ⟨gb5, 0, none⟩) m5 cap5) 197 18 m5 (xs5 ++ (_ ++ (List.replicate (m5 - (i5 + 1)) ([.int .u8 0, .int .u8 0, .int .u8 0, .int .u8 0, .int .u8 0, .int .u8 0, .int .u8 0, .int .u8 0, .int .u8 0, .int .u8 0, .int .u8 0, .int .u8 0, .int .u8 0, .int .u8 0, .int .u8 0, .int .u8 0, .slice none 0 0, .map none] : List Value)).flatten)) :: _) (by rw [hmk5]) ?_
    exact at_sub (.skip rfl (.skip rfl .rfl')) (kb5 _ _ _ (((ht6.trans ht7).trans hh8).trans ht18) (REl_part hM) hv)
  refine at_cd ?_
  refine cd_sq ?_
  refine st_tags (F := F_ShareAcknowledgeRequest) hnt hR (keysT.open hk).1 rfl rfl rfl hT rfl Tryz.underlying192 rfl tipub_kmsg_Tags.size rfl (po_eq (show 6 = 1 + fszs _ by kernel_rfl)) tipub_kmsg_Tags.size rfl rfl (fun u19 v19 cs19 ht19 hv hM => ?_)
  refine at_cd ?_
  refine cd_sr ?_
  refine ln_callT (i := 0) (vals := [.pointer (some ⟨br, 0, none⟩)]) en_183 rfl rfl (fun u hu hok hav => rd_Complete u br _ hok hav) rfl ?_
  rintro u9 _ _ ht9 ⟨ux9, ⟨rfl, rfl⟩, hx9⟩
  refine ln_pv (pv_assign rfl) rfl ?_
  refine ln_cd ?_
  refine cd_ret ?_
  exact at_retT (i := 1) rfl rfl rfl (fun w hS => ⟨rfl, _, by rw [hmk], (hM.mv ht9).mv (hS.trFinT _ _)⟩)
theorem newp_ShareAcknowledgeRequest (t : Vw) (hok : HF [] t.w) (hav : ∀ q ∈ blks [], t.av q) (hnd : (blks []).Nodup) : CH Tryz.prog 115 [] t [] fun u r E' => ∃ b, r = .pointer (some ⟨b, 0, none⟩) ∧ E' = [MsgBox b 192 [.int .i16 0, .pointer none, .pointer none, .int .i32 0, .bool false, .slice none 0 0, .map none]] := by
  refine ch_enter Tryz.func115 rfl Tryz.ntmps115 rfl hok hav hnd ?_
  refine cd_sr ?_
  refine ln_pv (pv_assign rfl) rfl ?_
  refine ln_cd ?_
  refine cd_sr ?_
  refine ln_alloc tipub_kmsg_ShareAcknowledgeRequest rfl rfl (fun b => ?_)
  refine ln_cd ?_
  refine cd_sr ?_
  refine ln_callT (i := 0) en_174 rfl rfl (fun u hu hok hav => df_ShareAcknowledgeRequest _ _ _ _ _ _ _ (fun w => .obj b (.cells w.toArray 192)) b 0 (Tgt.obj b 192 7) u hok hav) rfl ?_
  rintro u1 _ _ ht1 ⟨_, ⟨rfl, rfl⟩, _⟩
  refine ln_cd ?_
  refine cd_sr ?_
  refine ln_pv (pv_assign rfl) rfl ?_
  refine ln_cd ?_
  refine cd_ret ?_
  exact at_retHq [MsgBox b 192 [.int .i16 0, .pointer none, .pointer none, .int .i32 0, .bool false, .slice none 0 0, .map none]] (List.Sublist.refl _) rfl rfl (fun w hS => ⟨b, rfl, rfl⟩)
theorem setd_ShareAcknowledgeRequest (t : Vw) (b : Nat) (v : Int) (hok : (MsgBox b 192 [.int .i16 0, .pointer none, .pointer none, .int .i32 0, .bool false, .slice none 0 0, .map none]).ok t.w) (hav : ∀ q ∈ (MsgBox b 192 [.int .i16 0, .pointer none, .pointer none, .int .i32 0, .bool false, .slice none 0 0, .map none]).blk, t.av q) : CT Tryz.prog 118 [.pointer (some ⟨b, 0, none⟩), .int .i16 v] t (MsgBox b 192 [.int .i16 0, .pointer none, .pointer none, .int .i32 0, .bool false, .slice none 0 0, .map none]) fun u r e' => e' = MsgBox b 192 [.int .i16 v, .pointer none, .pointer none, .int .i32 0, .bool false, .slice none 0 0, .map none] := by
  refine ct_enter Tryz.func118 rfl Tryz.ntmps118 rfl hok hav (by simp [Ent.blk]) ?_
  refine cd_region ?_
  refine ln_pv (pv_move rfl) rfl ?_
  refine ln_pv (pv_move rfl) rfl ?_
  refine ln_pv (pv_nilCheck rfl) rfl ?_
  refine ln_pv (pv_fieldAddr (off := 0) (r := 0) Tryz.underlying192 rfl (tiint16).size rfl rfl rfl) rfl ?_
  refine ln_store1 (i := 0) rfl rfl rfl rfl (tiint16).size rfl ?_
  refine ln_nil ?_
  exact at_retT0 (i := 0) rfl rfl (fun w hS => rfl)
theorem readf_ShareAcknowledgeRequest (t : Vw) (b : Nat) (v : Int) (x : Tre) (sv : Value) (hsv : RSv t sv (partB F_ShareAcknowledgeRequest v (flexB 0 v) x)) (hk : keysT x) (h0 : 0 ≤ v) (h1 : v ≤ 2) (hok : (MsgBox b 192 (.int .i16 v :: ([.pointer none, .pointer none, .int .i32 0, .bool false, .slice none 0 0, .map none] : List Value))).ok t.w) (hav : ∀ q ∈ (MsgBox b 192 (.int .i16 v :: ([.pointer none, .pointer none, .int .i32 0, .bool false, .slice none 0 0, .map none] : List Value))).blk, t.av q) : CT Tryz.prog 119 [.pointer (some ⟨b, 0, none⟩), sv] t (MsgBox b 192 (.int .i16 v :: ([.pointer none, .pointer none, .int .i32 0, .bool false, .slice none 0 0, .map none] : List Value))) fun u r e' => r = .nilIface ∧ ∃ cells, e' = MsgBox b 192 (.int .i16 v :: cells) ∧ RMp u F_ShareAcknowledgeRequest (imT F_ShareAcknowledgeRequest v (flexB 0 v) x) cells := by
  refine ct_enter Tryz.func119 rfl Tryz.ntmps119 rfl hok hav (by simp [Ent.blk]) ?_
  refine cd_sr ?_
  refine ln_pv (pv_assign rfl) rfl ?_
  refine ln_cd ?_
  refine cd_sr ?_
  refine ln_pv (pv_move rfl) rfl ?_
  refine ln_pv (pv_move rfl) rfl ?_
  refine ln_callT (i := 0) en_176 rfl rfl (fun u hu hok hav => read_ShareAcknowledgeRequest u b v x sv (RSv.mv hsv hu) hk h0 h1 hok hav) rfl ?_
  rintro u2 _ _ ht2 ⟨ux, ⟨rfl, cells, rfl, hM⟩, hx⟩
  refine ln_pv (pv_assign rfl) rfl ?_
  refine ln_cd ?_
  refine cd_ret ?_
  exact at_retT (i := 0) rfl rfl rfl (fun w hS => ⟨rfl, cells, rfl, (hM.mv hx).mv (hS.trFinT _ _)⟩)
theorem tellx_ShareAcknowledgeRequest (t : Vw) (v : Int) (x : Tre) (sv : Value) (hsv : RSv t sv (partB F_ShareAcknowledgeRequest v (flexB 0 v) x)) (hk : keysT x) (h0 : 0 ≤ v) (h1 : v ≤ 2) (hB : (partB F_ShareAcknowledgeRequest v (flexB 0 v) x).length ≤ 1099511627776) : CA Tryz.prog 48 [.int .i64 v, sv] t fun u r => ∃ (ds : List Value), r = .tuple #[.agg ds.toArray, .bool true] ∧ RT u (tlT F_ShareAcknowledgeRequest (imT F_ShareAcknowledgeRequest v (flexB 0 v) x)) ds := by
  refine ca_enter Tryz.func48 rfl Tryz.ntmps48 rfl ?_
  refine cd_sr ?_
  refine ln_alloc (l := [_, _, _, _, _]) tiimpl_Tree rfl rfl (fun br => ?_)
  refine ln_pv (pv_assign rfl) rfl ?_
  refine ln_cd ?_
  refine cd_sr ?_
  refine ln_callH (E := []) (H0 := [_]) (List.Perm.refl _) en_115 rfl (fun u hu hok hav hnd => newp_ShareAcknowledgeRequest u hok hav hnd) rfl ?_
  rintro u1 _ _ ht1 ⟨_, ⟨b, rfl, rfl⟩, _⟩
  refine ln_pv (pv_assign rfl) rfl ?_
  refine ln_cd ?_
  refine cd_sr ?_
  refine ln_pv (pv_move rfl) rfl ?_
  refine ln_pv (pv_move rfl) rfl ?_
  refine ln_pv (pv_conv' Tryz.underlying3 Tryz.underlying46 rfl (r := v) (wrap_i16_in (by omega) (by omega))) rfl ?_
  refine ln_callT (i := 0) en_118 rfl rfl (fun u hu hok hav => setd_ShareAcknowledgeRequest u b v hok hav) rfl ?_
  rintro u2 _ _ ht2 ⟨_, rfl, _⟩
  refine ln_cd ?_
  have hsv := hsv.mv (ht1.trans ht2)
  refine cd_seq ?_
  refine cd_sr ?_
  refine ln_pv (pv_move rfl) rfl ?_
  refine ln_pv (pv_move rfl) rfl ?_
  refine ln_nilrow 5 1 ?_
  refine ln_append (i := 0) rfl Tryz.underlying22 tiuint8 rfl (by decide) rfl rfl (RS.src hsv) (by simp only [maxLen]; omega) (by omega) rfl (k' := (partB F_ShareAcknowledgeRequest v (flexB 0 v) x).length) (xs' := u8s (partB F_ShareAcknowledgeRequest v (flexB 0 v) x)) (by omega) (by simp) (fun va hva => ?_)
  refine ln_free1 (fun q h => h.elim) (fun s3 ht3 hK => ?_)
  have hs3 : RSv s3 va (partB F_ShareAcknowledgeRequest v (flexB 0 v) x) := Known.rs hK (u8s_one _)
  clear hK
  refine ln_callT (i := 0) en_119 rfl rfl (fun u hu hok hav => readf_ShareAcknowledgeRequest u b v x _ (RSv.mv hs3 hu) hk h0 h1 hok hav) rfl ?_
  rintro u4 _ _ ht4 ⟨ux4, ⟨rfl, cells, rfl, hM⟩, hx4⟩
  have hM := hM.mv hx4
  refine ln_pv (pv_neqI Tryz.underlying55 rfl) rfl ?_
  refine ln_cd ?_
  refine cd_ff rfl ?_
  refine cd_skip ?_
  refine at_cd ?_
  refine cd_free1 (fun q h => h.elim) (fun s9 hs9 hK => ?_)
  have hob : OB s9 b (.cells (.int .i16 v :: cells).toArray 192) := hK
  clear hK
  have hM := hM.mv hs9
  refine cd_sr ?_
  refine ln_pv (pv_move rfl) rfl ?_
  refine ln_callA en_120 rfl (fun u hu => tell_ShareAcknowledgeRequest u b v (imT F_ShareAcknowledgeRequest v (flexB 0 v) x) cells (hob.mv hu).rc (hM.mv hu) (tgT_im _ _ _ hk)) rfl (fun u7 v7 ht7 hR7 => ?_)
  obtain ⟨ds, rfl, hds⟩ := hR7
  refine ln_storeW (i := 0) rfl rfl rfl rfl tiimpl_Tree.size hds.len hds.cells ?_
  refine ln_pv (pv_assign rfl) rfl ?_
  refine ln_cd ?_
  refine cd_ret ?_
  exact at_retCA2 (i := 0) rfl rfl rfl rfl Tryz.underlying37 rfl tiimpl_Tree.size hds.len (fun w hS => ⟨ds, rfl, hds.mv hS.trFin⟩)
theorem law_ShareAcknowledgeRequest (t : Vw) (n : Nat) (x : Tre) (cs : List Value) (hn8 : n < 256) (hx : RT t x cs) (hkx : keysT x) (hsm : smT x) (hB : (writeB F_ShareAcknowledgeRequest 0 ((versionN n 2 : Nat) : Int) x).length < 1099511627776) : CS Tryz.prog 12 [.int .u8 (n : Int), .agg cs.toArray] t (.bool true) := by
  obtain ⟨sS, sL, sU, rfl, hn, hS, ⟨lc, hL, hLs⟩, hU⟩ := hx.open
  obtain ⟨adS, cS, rfl, hleS⟩ := hS.shape
  obtain ⟨adL, cL, rfl, hleL⟩ := hL.shape
  have hU0 := hU
  obtain ⟨uc, hU1, hUs⟩ := hU0
  obtain ⟨hz1, hz2, hz3, hz4⟩ := hsm.open
  have hok := ok_F_ShareAcknowledgeRequest
  have hvn : versionN n 2 ≤ 2 := by have := Nat.mod_lt n (show 0 < 2 + 1 by omega); unfold versionN; omega
  refine CA.cs ?_
  refine ca_enter Tryz.func12 rfl Tryz.ntmps12 rfl ?_
  cases hft : fits1 x with
  | false =>
    refine cd_sr ?_
    refine ln_box rfl rfl rfl (fun b1 => ?_)
    refine ln_pv (pv_assign rfl) rfl ?_
    refine ln_cd ?_
    refine cd_seq ?_
    refine cd_sr ?_
    refine ln_pv (pv_ldO (i := 0) rfl Tryz.underlying26 rfl (tispec_Tree).size rfl rfl) rfl ?_
    refine ln_callS en_13 rfl (fun u hu => by have h := laws_zzFits1 u x _ (RT.mv hx hu) (by omega); rwa [hft] at h) rfl ?_
    refine ln_pv (pv_not rfl) rfl ?_
    refine ln_cd ?_
    refine cd_tt rfl ?_
    refine cd_sr ?_
    refine ln_pv (pv_assign rfl) rfl ?_
    refine ln_cd ?_
    refine cd_ret ?_
    refine at_retA rfl rfl (fun w hS => ?_)
    rfl
  | true =>
    refine cd_sr ?_
    refine ln_box rfl rfl rfl (fun b1 => ?_)
    refine ln_pv (pv_assign rfl) rfl ?_
    refine ln_cd ?_
    refine cd_seq ?_
    refine cd_sr ?_
    refine ln_pv (pv_ldO (i := 0) rfl Tryz.underlying26 rfl (tispec_Tree).size rfl rfl) rfl ?_
    refine ln_callS en_13 rfl (fun u hu => by have h := laws_zzFits1 u x _ (RT.mv hx hu) (by omega); rwa [hft] at h) rfl ?_
    refine ln_pv (pv_not rfl) rfl ?_
    refine ln_cd ?_
    refine cd_ff rfl ?_
    refine cd_skip ?_
    refine at_cd ?_
    refine cd_sr ?_
    refine ln_callS en_46 rfl (fun u hu => max_ShareAcknowledgeRequest u) rfl ?_
    refine ln_pv (pv_assign rfl) rfl ?_
    refine ln_cd ?_
    refine cd_seq ?_
    refine cd_sr ?_
    refine ln_pv (pv_move rfl) rfl ?_
    refine ln_pv (pv_ff (pv_lss rfl rfl) (by omega)) rfl ?_
    refine ln_cd ?_
    refine cd_ff rfl ?_
    refine cd_skip ?_
    refine at_cd ?_
    refine cd_sr ?_
    refine ln_callA en_47 rfl (fun u hu => sch_F_ShareAcknowledgeRequest u) rfl (fun u1 v1 ht1 hR1 => ?_)
    have hx := hx.mv ht1
    obtain ⟨sv, lcm, rfl, hVm, hFm⟩ := hR1
    refine ln_pv (pv_move rfl) rfl ?_
    refine ln_pv (pv_move rfl) rfl ?_
    refine ln_callS en_16 rfl (fun u hu => laws_version u n 2 hn8 (by omega)) rfl ?_
    refine ln_alloc tispec_Message rfl rfl (fun b2 => ?_)
    refine ln_storeW (i := 0) rfl rfl rfl rfl (tispec_Message).size rfl (by simp [(RS.one hVm)]) ?_
    refine ln_pv (pv_assign rfl) rfl ?_
    refine ln_cd ?_
    refine cd_sr ?_
    refine ln_pv (pv_move rfl) rfl ?_
    refine ln_pv (pv_ldO (i := 0) rfl Tryz.underlying31 rfl (tispec_Message).size rfl rfl) rfl ?_
    refine ln_pv (pv_move rfl) rfl ?_
    refine ln_pv (pv_ldO (i := 1) rfl Tryz.underlying26 rfl (tispec_Tree).size rfl rfl) rfl ?_
    refine ln_callA en_18 rfl (fun u hu => spec_Write F_ShareAcknowledgeRequest 0 hok.1 hok.2.2 u _ _ _ ((versionN n 2 : Nat) : Int) x (RS.mv hVm hu) (RFs.mv hFm hu) (RT.mv hx hu) hsm hB) rfl (fun u2 v2 ht2 hR2 => ?_)
    have hx := hx.mv ht2
    have hVm := hVm.mv ht2
    have hFm := hFm.mv ht2
    refine ln_callA en_48 rfl (fun u hu => tellx_ShareAcknowledgeRequest u ((versionN n 2 : Nat) : Int) x _ (RSv.mv hR2 hu) hkx (by omega) (by omega) (by rw [show partB F_ShareAcknowledgeRequest ((versionN n 2 : Nat) : Int) (flexB 0 ((versionN n 2 : Nat) : Int)) x = writeB F_ShareAcknowledgeRequest 0 ((versionN n 2 : Nat) : Int) x from rfl]; omega)) rfl (fun u3 v3 ht3 hR3 => ?_)
    have hx := hx.mv ht3
    have hVm := hVm.mv ht3
    have hFm := hFm.mv ht3
    have hR2 := hR2.mv ht3
    obtain ⟨ds, rfl, hT⟩ := hR3
    refine ln_pv (pv_move rfl) rfl ?_
    refine ln_pv (pv_extract rfl rfl) rfl ?_
    refine ln_pv (pv_extract rfl rfl) rfl ?_
    refine ln_alloc tiimpl_Tree rfl rfl (fun b3 => ?_)
    refine ln_storeW (i := 0) rfl rfl rfl rfl (tiimpl_Tree).size hT.len hT.cells ?_
    refine ln_pv (pv_assign rfl) rfl ?_
    refine ln_cd ?_
    refine cd_dr' [0, 1, 2] [1, 2, 3, 4, 5, 6, 8, 9, 12, 13] [0, 1, 2, 3, 4, 5, 6, 8, 9, 7, 10, 11, 12, 13] mixed (by kernel_rfl) ?_
    refine lo_eff rfl rfl ?_
    refine ln_pv (pv_move rfl) rfl ?_
    refine lo_back (sk_js (Tr.refl _) [0, 1, 2] rfl) ?_
    refine lo_pv rfl rfl (sk_js (Tr.refl _) [0, 1, 2] rfl) (pv_move rfl) rfl ?_
    refine lo_gt rfl rfl (sk_js (Tr.refl _) [0, 1, 2] rfl) rfl rfl rfl (pv_fieldAddr (off := 0) (r := 0) Tryz.underlying31 rfl (tiSl_spec_Field).size rfl rfl rfl) rfl ?_
    refine lo_gt rfl rfl (sk_js (Tr.refl _) [0, 1, 2] rfl) rfl rfl rfl (pv_ldo (i := 1) rfl Tryz.underlying29 rfl rfl rfl) rfl ?_
    refine lo_gt rfl rfl (sk_js (Tr.refl _) [0, 1, 2] rfl) rfl rfl rfl (pv_move rfl) rfl ?_
    refine lo_gt rfl rfl (sk_js (Tr.refl _) [0, 1, 2] rfl) rfl rfl rfl (pv_ldO (i := 1) rfl Tryz.underlying31 rfl (tispec_Message).size rfl rfl) rfl ?_
    refine lo_gt rfl rfl (sk_js (Tr.refl _) [0, 1, 2] rfl) rfl rfl rfl (pv_move rfl) rfl ?_
    refine lo_gt rfl rfl (sk_js (Tr.refl _) [0, 1, 2] rfl) rfl rfl rfl (pv_ldO (i := 2) rfl Tryz.underlying26 rfl (tispec_Tree).size rfl rfl) rfl ?_
    refine lo_gt rfl rfl (sk_js (Tr.refl _) [0, 1, 2] rfl) rfl rfl rfl (pv_ldO (i := 0) rfl Tryz.underlying37 rfl (tiimpl_Tree).size rfl hT.len) rfl ?_
    refine lo_eff rfl rfl ?_
    refine ln_gE rfl rfl rfl ?_
    refine ln_callS en_20 rfl (fun u hu => spec_Flexible u _ _ _ 0 ((versionN n 2 : Nat) : Int) (RS.mv hVm hu)) rfl ?_
    refine lo_back (sk_js (Tr.refl _) [0, 1, 2] rfl) ?_
    refine lo_eff rfl rfl ?_
    refine ln_gE rfl rfl rfl ?_
    refine ln_callA en_21 rfl (fun u hu => laws_got (tlT F_ShareAcknowledgeRequest (imT F_ShareAcknowledgeRequest ((versionN n 2 : Nat) : Int) (flexB 0 ((versionN n 2 : Nat) : Int)) x)) u _ (RT.mv hT hu) (smT_tlT hok.1 (by decide) (tgT_im _ _ _ hkx))) rfl (fun u4 v4 ht4 hR4 => ?_)
    have hx := hx.mv ht4
    have hVm := hVm.mv ht4
    have hFm := hFm.mv ht4
    have hR2 := hR2.mv ht4
    have hT := hT.mv ht4
    obtain ⟨dg, rfl, hG⟩ := hR4
    refine lo_back (sk_js ht4 [0, 1, 2] rfl) ?_
    refine lo_eff rfl rfl ?_
    refine ln_gE rfl rfl rfl ?_
    refine ln_callS en_19 rfl (fun u hu => spec_Told F_ShareAcknowledgeRequest hok.1 (by kernel_rfl) (by decide) u _ _ _ _ _ _ x _ (RS.mv hVm hu) (RFs.mv hFm hu) (RT.mv hx hu) hsm (RT.mv hG hu) (smT_tlT hok.1 (by decide) (tgT_im _ _ _ hkx)) (toT_im F_ShareAcknowledgeRequest _ _ (by kernel_rfl) hx.nT)) rfl ?_
    refine lo_back (sk_js ht4 [0, 1, 2] rfl) ?_
    refine lo_pv rfl rfl (sk_js ht4 [0, 1, 2] rfl) (pv_pick rfl (fun _ => rfl) (fun _ => rfl)) rfl ?_
    refine lo_pv rfl rfl (sk_js ht4 [0, 1, 2] rfl) (pv_assign rfl) rfl ?_
    refine lo_cd ?_
    refine cd_ret ?_
    refine at_retA rfl rfl (fun w hS => ?_)
    rfl
theorem fn_ShareAcknowledgeRequest (t : Vw) (n : Nat) (x : Tre) (cs : List Value) (hn : n < 256) (hx : RT t x cs) (hw : wt x ≤ 1048576) : CS Tryz.prog 12 [.int .u8 (n : Int), .agg cs.toArray] t (.bool true) := by
  have hok := ok_F_ShareAcknowledgeRequest
  exact law_ShareAcknowledgeRequest t n x cs hn hx hx.keys (smT_wt x (by omega)) (writeB_len _ _ _ x hok.1 hx.keys hw (of_decide_eq_true (by kernel_rfl)))
end K
end Go.Proofs.YtekafeogilbjmaaGreatDoor
