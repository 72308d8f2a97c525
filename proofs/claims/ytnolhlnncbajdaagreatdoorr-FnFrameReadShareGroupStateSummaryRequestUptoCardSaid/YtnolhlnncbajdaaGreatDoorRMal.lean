import Derived.Test.YtnolhlnncbajdaaGreatDoorRW4
import Derived.Test.YtnolhlnncbajdaaGreatDoorRMap
import Derived.Test.YtnolhlnncbajdaaGreatDoorRP4
import Derived.Test.YtnolhlnncbajdaaGreatDoorRS10
set_option linter.unusedVariables false
set_option linter.unusedSimpArgs false
namespace Go.Proofs.YtnolhlnncbajdaaGreatDoorR
namespace K
open Go Go.Lib
theorem df_ReadShareGroupStateSummaryRequest (z0 z1 z2 z3 : Value) : DfC 49 [z0, z1, z2, z3] [z0, z1, z2, z3] := by
  intro mk b o hT t hok hav
  refine ct_enter Tryz.func49 rfl Tryz.ntmps49 rfl hok hav (by rw [hT.blk]; simp) ?_
  refine cd_skip ?_
  exact at_retT0 (i := 0) rfl rfl (fun w hS => ⟨rfl, rfl⟩)
theorem df_ReadShareGroupStateSummaryRequestTopic (z0 z1 z2 z3 z4 z5 z6 z7 z8 z9 z10 z11 z12 z13 z14 z15 z16 z17 : Value) : DfC 83 [z0, z1, z2, z3, z4, z5, z6, z7, z8, z9, z10, z11, z12, z13, z14, z15, z16, z17] [z0, z1, z2, z3, z4, z5, z6, z7, z8, z9, z10, z11, z12, z13, z14, z15, z16, z17] := by
  intro mk b o hT t hok hav
  refine ct_enter Tryz.func83 rfl Tryz.ntmps83 rfl hok hav (by rw [hT.blk]; simp) ?_
  refine cd_skip ?_
  exact at_retT0 (i := 0) rfl rfl (fun w hS => ⟨rfl, rfl⟩)
theorem df_ReadShareGroupStateSummaryRequestTopicPartition (z0 z1 z2 : Value) : DfC 85 [z0, z1, z2] [z0, z1, z2] := by
  intro mk b o hT t hok hav
  refine ct_enter Tryz.func85 rfl Tryz.ntmps85 rfl hok hav (by rw [hT.blk]; simp) ?_
  refine cd_skip ?_
  exact at_retT0 (i := 0) rfl rfl (fun w hS => ⟨rfl, rfl⟩)
theorem read_ReadShareGroupStateSummaryRequest (t : Vw) (b : Nat) (v : Int) (x : Tre) (sv : Value) (hsv : RSv t sv (partB F_ReadShareGroupStateSummaryRequest v (flexB 0 v) x)) (hk : keysT x) (h0 : 0 ≤ v) (h1 : v ≤ 1) (hok : (MsgBox b 74 (.int .i16 v :: ([.string .empty, .slice none 0 0, .map none] : List Value))).ok t.w) (hav : ∀ q ∈ (MsgBox b 74 (.int .i16 v :: ([.string .empty, .slice none 0 0, .map none] : List Value))).blk, t.av q) : CT Tryz.prog 59 [.pointer (some ⟨b, 0, none⟩), sv, .bool false] t (MsgBox b 74 (.int .i16 v :: ([.string .empty, .slice none 0 0, .map none] : List Value))) fun u r e' => r = .nilIface ∧ ∃ cells, e' = MsgBox b 74 (.int .i16 v :: cells) ∧ RMp u F_ReadShareGroupStateSummaryRequest (imT F_ReadShareGroupStateSummaryRequest v (flexB 0 v) x) cells := by
  have hv0 := h0
  have hnt : ntFs F_ReadShareGroupStateSummaryRequest = true := by kernel_rfl
  generalize hqd : flexB 0 v = q at *
  have hq0 : decide (v ≥ 0) = q := by rw [← hqd]; simp [flexB]
  obtain ⟨adS, cS, rfl, hcS⟩ := RSv.shape hsv
  refine ct_enter Tryz.func59 rfl Tryz.ntmps59 rfl hok hav (by simp [Ent.blk]) ?_
  refine cd_sq ?_
  refine rg_const rfl ?_
  refine at_cd ?_
  refine cd_sr ?_
  refine ln_pv (pv_move rfl) rfl ?_
  refine ln_callT (i := 0) (vals := [.pointer (some ⟨b, 0, none⟩)]) en_49 rfl rfl (fun u hu hok hav => df_ReadShareGroupStateSummaryRequest _ _ _ _ (fun w => .obj b (.cells w.toArray 74)) b 0 (Tgt.obj b 74 4) u hok hav) rfl ?_
  rintro u1 _ _ ht1 ⟨ux1, ⟨rfl, rfl⟩, hx1⟩
  refine ln_cd ?_
  refine cd_sr ?_
  refine ln_pv (pv_move rfl) rfl ?_
  refine ln_pv (pv_struct [(0, 1), (1, 1)] (l := [_, _]) rfl Tryz.underlying108 tipub_kmsg_inner_kbin_Reader (by kernel_rfl) rfl rfl) rfl ?_
  refine ln_alloc (l := [.slice none 0 0, .bool false]) tipub_kmsg_inner_kbin_Reader rfl rfl (fun br => ?_)
  refine ln_storeW (i := 0) (vs := [_, .bool false]) rfl rfl rfl rfl tipub_kmsg_inner_kbin_Reader.size rfl (by simp) ?_
  refine ln_cd ?_
  refine cd_sr ?_
  refine ln_pv (pv_move rfl) rfl ?_
  refine ln_pv (pv_nilCheck rfl) rfl ?_
  refine ln_pv (pv_fieldAddr (off := 0) (r := 0) Tryz.underlying74 rfl tiint16.size rfl rfl rfl) rfl ?_
  refine ln_pv (pv_ldo (i := 1) (v := .int .i16 v) rfl Tryz.underlying45 rfl rfl rfl) rfl ?_
  refine ln_pv (pv_assign rfl) rfl ?_
  refine ln_cd ?_
  refine cd_sq ?_
  refine rg_blank rfl rfl ?_
  refine at_cd ?_
  refine cd_sr ?_
  refine ln_pv (pv_move rfl) rfl ?_
  refine ln_pv (pv_geq rfl rfl) rfl ?_
  refine ln_pv (pv_assign rfl) rfl ?_
  rw [hq0]
  refine ln_cd ?_
  refine cd_sq ?_
  refine rg_blank rfl rfl ?_
  refine at_cd ?_
  refine cd_sr ?_
  refine ln_pv (pv_move rfl) rfl ?_
  refine ln_pv (pv_assign rfl) rfl ?_
  refine ln_cd ?_
  refine cd_sub_ (L' := [(10, .pointer (some ⟨b, 0, none⟩)), (9, .bool q), (8, .int .i16 v), (7, .pointer (some ⟨br, 0, none⟩)), (2, .bool false)]) (.put rfl (.put rfl (.put rfl (.put rfl (.put rfl .nil))))) ?_
  obtain ⟨mk, hmk⟩ : ∃ mk : List Value → Ent, mk = fun w => MsgBox b 74 (.int .i16 v :: w) := ⟨_, rfl⟩
  have hT : Tgt mk b 1 3 := by rw [hmk]; exact Tgt.behind b 74 _ 3
  refine cd_eqH (H' := [RdE br _, mk ([] ++ ([.string .empty, .slice none 0 0, .map none] : List Value))]) (by rw [hmk]; rfl) ?_
  have hR : Rs u1 [.mk 8 0 (-1) (-1) (-1) 0 0 [], .mk 11 0 (-1) (-1) (-1) 0 10 F_sReadShareGroupStateSummaryRequestTopic] [] v q x (imT F_ReadShareGroupStateSummaryRequest v q x) (tgsB q x ++ []) _ [] := Rs.start (F := F_ReadShareGroupStateSummaryRequest) (RSv.part hnt (by rw [List.append_nil]; exact RSv.mv hsv ht1)) hnt
  refine cd_sq ?_
  refine cd_sq ?_
  refine rg_const rfl ?_
  refine at_cd ?_
  refine st_str (z := .string .empty) hR (hasB_all hv0) rfl rfl rfl en_77 en_78 (fun h => Fc.of (by decide) (by decide) (by decide) (sc_cstr _ h _)) (fun h => Fc.of (by decide) (by decide) (by decide) (sc_str _ h _)) rfl hT rfl Tryz.underlying74 rfl tistring.size rfl (po_eq (show 1 = 1 + fszs _ by kernel_rfl)) tistring.size rfl rfl rfl rfl rfl (fun u1 v1 done1 ht1 hR => ?_)
  refine at_cd ?_
  refine cd_sq ?_
  refine st_list (zc := ([.int .u8 0, .int .u8 0, .int .u8 0, .int .u8 0, .int .u8 0, .int .u8 0, .int .u8 0, .int .u8 0, .int .u8 0, .int .u8 0, .int .u8 0, .int .u8 0, .int .u8 0, .int .u8 0, .int .u8 0, .int .u8 0, .slice none 0 0, .map none] : List Value)) hR (hasB_all hv0) (by decide) rfl rfl rfl hT rfl Tryz.underlying74 rfl tiSl_kmsg_ReadShareGroupStateSummaryRequestTopic.size rfl (po_eq (show 2 = 1 + fszs _ by kernel_rfl)) tiSl_kmsg_ReadShareGroupStateSummaryRequestTopic.size Tryz.underlying69 Tryz.underlying21 tipub_kmsg_ReadShareGroupStateSummaryRequestTopic rfl rfl (by kernel_rfl) (by decide) (by decide) (fun q hq => .inl (by simpa [Ent.blk] using hq)) (fun z => part_pos (plain_pos (by decide) (by decide) (by decide) (hasB_all hv0))) rfl rfl rfl rfl rfl rfl rfl rfl rfl rfl rfl rfl rfl (keysT.at_ hk _) (fun gb2 cap2 m2 i2 x2 u2 v2 xs2 rest2 N2 X2 hi2 hm2 hk2 ht2 hxl2 hv2 kb2 => ?_) (fun uu2 vv2 done2 hh2 hR => ?_)
  · skip
    have hnt2 : ntFs F_sReadShareGroupStateSummaryRequestTopic = true := by kernel_rfl
    have hvp2 := RSv.el hnt2 hv2
    refine cd_sq ?_
    refine rg_ix rfl rfl hi2 Tryz.underlying69 tipub_kmsg_ReadShareGroupStateSummaryRequestTopic.size rfl ?_
    refine at_cd ?_
    obtain ⟨mk2, hmk2⟩ : ∃ mk : List Value → Ent, mk = fun w => .row (.slice (some ⟨gb2, 0, none⟩) m2 cap2) 117 18 m2 (xs2 ++ (w ++ (List.replicate (m2 - (i2 + 1)) ([.int .u8 0, .int .u8 0, .int .u8 0, .int .u8 0, .int .u8 0, .int .u8 0, .int .u8 0, .int .u8 0, .int .u8 0, .int .u8 0, .int .u8 0, .int .u8 0, .int .u8 0, .int .u8 0, .int .u8 0, .int .u8 0, .slice none 0 0, .map none] : List Value)).flatten)) := ⟨_, rfl⟩
    have hT2 : Tgt mk2 gb2 (0 + i2 * 18) 18 := by rw [hmk2]; exact (Tgt.row gb2 cap2 m2 18 117).mid _ _ _ _ (list_fits hi2 hxl2 rfl) (by rw [hxl2])
    refine cd_eqH (H' := RdE _ v2 :: mk2 ([.int .u8 0, .int .u8 0, .int .u8 0, .int .u8 0, .int .u8 0, .int .u8 0, .int .u8 0, .int .u8 0, .int .u8 0, .int .u8 0, .int .u8 0, .int .u8 0, .int .u8 0, .int .u8 0, .int .u8 0, .int .u8 0, .slice none 0 0, .map none] : List Value) :: _) (by rw [hmk2]) ?_
    refine cd_sq ?_
    refine rg_dflt (z2 := ([.int .u8 0, .int .u8 0, .int .u8 0, .int .u8 0, .int .u8 0, .int .u8 0, .int .u8 0, .int .u8 0, .int .u8 0, .int .u8 0, .int .u8 0, .int .u8 0, .int .u8 0, .int .u8 0, .int .u8 0, .int .u8 0, .slice none 0 0, .map none] : List Value)) rfl en_83 (df_ReadShareGroupStateSummaryRequestTopic _ _ _ _ _ _ _ _ _ _ _ _ _ _ _ _ _ _) hT2 rfl (fun u3 ht3 => ?_)
    refine at_cd ?_
    refine cd_sq ?_
    refine rg_move rfl rfl ?_
    refine at_cd ?_
    have hR : Rs u3 [.mk 7 0 (-1) (-1) (-1) 0 0 [], .mk 11 0 (-1) (-1) (-1) 0 10 F_sReadShareGroupStateSummaryRequestTopicPartition] [] _ q x2 (.mk 0 [] false (imL F_sReadShareGroupStateSummaryRequestTopic _ q x2 0) (imU F_sReadShareGroupStateSummaryRequestTopic q x2.u)) (tgsB q x2 ++ rest2) v2 [] := Rs.start (F := F_sReadShareGroupStateSummaryRequestTopic) (RSv.mv hvp2 ht3) hnt2
    refine cd_eqH (H' := RdE _ v2 :: mk2 ([] ++ ([.int .u8 0, .int .u8 0, .int .u8 0, .int .u8 0, .int .u8 0, .int .u8 0, .int .u8 0, .int .u8 0, .int .u8 0, .int .u8 0, .int .u8 0, .int .u8 0, .int .u8 0, .int .u8 0, .int .u8 0, .int .u8 0, .slice none 0 0, .map none] : List Value)) :: _) rfl ?_
    refine cd_sq ?_
    refine st_uuid (zc := List.replicate 16 (.int .u8 0)) (zs := [.slice none 0 0, .map none]) rfl hR (hasB_all hv0) rfl en_84 (uuid_length _) (fun u => by rw [uu_B]; exact rd_Uuid u _ (uuid_length _)) (fun u => uu_M u) rfl hT2 rfl rfl Tryz.underlying117 rfl ti_16_uint8.size rfl (po_eq (show 0 = 0 + fszs _ by kernel_rfl)) ti_16_uint8 rfl Tryz.underlying114 rfl (fun u4 v4 done4 ht4 hR => ?_)
    refine at_cd ?_
    refine cd_sq ?_
    refine st_list (zc := ([.int .i32 0, .int .i32 0, .map none] : List Value)) hR (hasB_all hv0) (by decide) rfl rfl rfl hT2 rfl Tryz.underlying117 rfl tiSl_kmsg_ReadShareGroupStateSummaryRequestTopicPartition.size rfl (po_eq (show 16 = 0 + fszs _ by kernel_rfl)) tiSl_kmsg_ReadShareGroupStateSummaryRequestTopicPartition.size Tryz.underlying115 Tryz.underlying21 tipub_kmsg_ReadShareGroupStateSummaryRequestTopicPartition rfl rfl (by kernel_rfl) (by decide) (by decide) (fun q hq => .inr (hO_push hT (fun q hq => .inl (by simpa [Ent.blk] using hq)) _ q hq)) (fun z => part_pos (plain_pos (by decide) (by decide) (by decide) (hasB_all hv0))) rfl rfl rfl rfl rfl rfl rfl rfl rfl rfl rfl rfl rfl (keysT.at_ hk2 _) (fun gb5 cap5 m5 i5 x5 u5 v5 xs5 rest5 N5 X5 hi5 hm5 hk5 ht5 hxl5 hv5 kb5 => ?_) (fun uu5 vv5 done5 hh5 hR => ?_)
    · skip
      have hnt5 : ntFs F_sReadShareGroupStateSummaryRequestTopicPartition = true := by kernel_rfl
      have hvp5 := RSv.el hnt5 hv5
      refine cd_sq ?_
      refine rg_ix rfl rfl hi5 Tryz.underlying115 tipub_kmsg_ReadShareGroupStateSummaryRequestTopicPartition.size rfl ?_
      refine at_cd ?_
      obtain ⟨mk5, hmk5⟩ : ∃ mk : List Value → Ent, mk = fun w => .row (.slice (some ⟨gb5, 0, none⟩) m5 cap5) 121 3 m5 (xs5 ++ (w ++ (List.replicate (m5 - (i5 + 1)) ([.int .i32 0, .int .i32 0, .map none] : List Value)).flatten)) := ⟨_, rfl⟩
      have hT5 : Tgt mk5 gb5 (0 + i5 * 3) 3 := by rw [hmk5]; exact (Tgt.row gb5 cap5 m5 3 121).mid _ _ _ _ (list_fits hi5 hxl5 rfl) (by rw [hxl5])
      refine cd_eqH (H' := RdE _ v5 :: mk5 ([.int .i32 0, .int .i32 0, .map none] : List Value) :: _) (by rw [hmk5]) ?_
      refine cd_sq ?_
      refine rg_dflt (z2 := ([.int .i32 0, .int .i32 0, .map none] : List Value)) rfl en_85 (df_ReadShareGroupStateSummaryRequestTopicPartition _ _ _) hT5 rfl (fun u6 ht6 => ?_)
      refine at_cd ?_
      refine cd_sq ?_
      refine rg_move rfl rfl ?_
      refine at_cd ?_
      have hR : Rs u6 [.mk 3 0 (-1) (-1) (-1) 0 0 [], .mk 3 0 (-1) (-1) (-1) 0 0 []] [] _ q x5 (.mk 0 [] false (imL F_sReadShareGroupStateSummaryRequestTopicPartition _ q x5 0) (imU F_sReadShareGroupStateSummaryRequestTopicPartition q x5.u)) (tgsB q x5 ++ rest5) v5 [] := Rs.start (F := F_sReadShareGroupStateSummaryRequestTopicPartition) (RSv.mv hvp5 ht6) hnt5
      refine cd_eqH (H' := RdE _ v5 :: mk5 ([] ++ ([.int .i32 0, .int .i32 0, .map none] : List Value)) :: _) rfl ?_
      refine cd_sq ?_
      refine st_num (z := .int .i32 0) hR (hasB_all hv0) rfl en_86 (Fc.num (by decide) (by decide) (by decide) (fun null => sc_i32 null _ _)) rfl hT5 rfl Tryz.underlying121 rfl tiint32.size rfl (po_eq (show 0 = 0 + fszs _ by kernel_rfl)) tiint32.size rfl rfl (fun u7 v7 done7 ht7 hR => ?_)
      refine at_cd ?_
      refine cd_sq ?_
      refine st_num (z := .int .i32 0) hR (hasB_all hv0) rfl en_86 (Fc.num (by decide) (by decide) (by decide) (fun null => sc_i32 null _ _)) rfl hT5 rfl Tryz.underlying121 rfl tiint32.size rfl (po_eq (show 1 = 0 + fszs _ by kernel_rfl)) tiint32.size rfl rfl (fun u8 v8 done8 ht8 hR => ?_)
      refine at_cd ?_
      refine st_tags (F := F_sReadShareGroupStateSummaryRequestTopicPartition) hnt5 hR (keysT.open hk5).1 rfl rfl rfl hT5 rfl Tryz.underlying121 rfl tipub_kmsg_Tags.size rfl (po_eq (show 2 = 0 + fszs _ by kernel_rfl)) tipub_kmsg_Tags.size rfl rfl (fun u9 v9 cs9 ht9 hv hM => ?_)
      refine at_eqH (H' := RdE _ _ :: .row (.slice (some ⟨gb5, 0, none⟩) m5 cap5) 121 3 m5 (xs5 ++ (_ ++ (List.replicate (m5 - (i5 + 1)) ([.int .i32 0, .int .i32 0, .map none] : List Value)).flatten)) :: _) (by rw [hmk5]) ?_
      exact at_sub (.skip rfl (.skip rfl .rfl')) (kb5 _ _ _ (((ht6.trans ht7).trans ht8).trans ht9) (REl_part hM) hv)
    refine at_cd ?_
    refine st_tags (F := F_sReadShareGroupStateSummaryRequestTopic) hnt2 hR (keysT.open hk2).1 rfl rfl rfl hT2 rfl Tryz.underlying117 rfl tipub_kmsg_Tags.size rfl (po_eq (show 17 = 0 + fszs _ by kernel_rfl)) tipub_kmsg_Tags.size rfl rfl (fun u10 v10 cs10 ht10 hv hM => ?_)
    refine at_eqH (H' := RdE _ _ :: .row (.slice (some ⟨gb2, 0, none⟩) m2 cap2) 117 18 m2 (xs2 ++ (_ ++ (List.replicate (m2 - (i2 + 1)) ([.int .u8 0, .int .u8 0, .int .u8 0, .int .u8 0, .int .u8 0, .int .u8 0, .int .u8 0, .int .u8 0, .int .u8 0, .int .u8 0, .int .u8 0, .int .u8 0, .int .u8 0, .int .u8 0, .int .u8 0, .int .u8 0, .slice none 0 0, .map none] : List Value)).flatten)) :: _) (by rw [hmk2]) ?_
    exact at_sub (.skip rfl (.skip rfl .rfl')) (kb2 _ _ _ (((ht3.trans ht4).trans hh5).trans ht10) (REl_part hM) hv)
  refine at_cd ?_
  refine cd_sq ?_
  refine st_tags (F := F_ReadShareGroupStateSummaryRequest) hnt hR (keysT.open hk).1 rfl rfl rfl hT rfl Tryz.underlying74 rfl tipub_kmsg_Tags.size rfl (po_eq (show 3 = 1 + fszs _ by kernel_rfl)) tipub_kmsg_Tags.size rfl rfl (fun u11 v11 cs11 ht11 hv hM => ?_)
  refine at_cd ?_
  refine cd_sr ?_
  refine ln_callT (i := 0) (vals := [.pointer (some ⟨br, 0, none⟩)]) en_82 rfl rfl (fun u hu hok hav => rd_Complete u br _ hok hav) rfl ?_
  rintro u9 _ _ ht9 ⟨ux9, ⟨rfl, rfl⟩, hx9⟩
  refine ln_pv (pv_assign rfl) rfl ?_
  refine ln_cd ?_
  refine cd_ret ?_
  exact at_retT (i := 1) rfl rfl rfl (fun w hS => ⟨rfl, _, by rw [hmk], (hM.mv ht9).mv (hS.trFinT _ _)⟩)
theorem newp_ReadShareGroupStateSummaryRequest (t : Vw) (hok : HF [] t.w) (hav : ∀ q ∈ blks [], t.av q) (hnd : (blks []).Nodup) : CH Tryz.prog 27 [] t [] fun u r E' => ∃ b, r = .pointer (some ⟨b, 0, none⟩) ∧ E' = [MsgBox b 74 [.int .i16 0, .string .empty, .slice none 0 0, .map none]] := by
  refine ch_enter Tryz.func27 rfl Tryz.ntmps27 rfl hok hav hnd ?_
  refine cd_sr ?_
  refine ln_pv (pv_assign rfl) rfl ?_
  refine ln_cd ?_
  refine cd_sr ?_
  refine ln_alloc tipub_kmsg_ReadShareGroupStateSummaryRequest rfl rfl (fun b => ?_)
  refine ln_cd ?_
  refine cd_sr ?_
  refine ln_callT (i := 0) en_49 rfl rfl (fun u hu hok hav => df_ReadShareGroupStateSummaryRequest _ _ _ _ (fun w => .obj b (.cells w.toArray 74)) b 0 (Tgt.obj b 74 4) u hok hav) rfl ?_
  rintro u1 _ _ ht1 ⟨_, ⟨rfl, rfl⟩, _⟩
  refine ln_cd ?_
  refine cd_sr ?_
  refine ln_pv (pv_assign rfl) rfl ?_
  refine ln_cd ?_
  refine cd_ret ?_
  exact at_retHq [MsgBox b 74 [.int .i16 0, .string .empty, .slice none 0 0, .map none]] (List.Sublist.refl _) rfl rfl (fun w hS => ⟨b, rfl, rfl⟩)
theorem setd_ReadShareGroupStateSummaryRequest (t : Vw) (b : Nat) (v : Int) (hok : (MsgBox b 74 [.int .i16 0, .string .empty, .slice none 0 0, .map none]).ok t.w) (hav : ∀ q ∈ (MsgBox b 74 [.int .i16 0, .string .empty, .slice none 0 0, .map none]).blk, t.av q) : CT Tryz.prog 31 [.pointer (some ⟨b, 0, none⟩), .int .i16 v] t (MsgBox b 74 [.int .i16 0, .string .empty, .slice none 0 0, .map none]) fun u r e' => e' = MsgBox b 74 [.int .i16 v, .string .empty, .slice none 0 0, .map none] := by
  refine ct_enter Tryz.func31 rfl Tryz.ntmps31 rfl hok hav (by simp [Ent.blk]) ?_
  refine cd_region ?_
  refine ln_pv (pv_move rfl) rfl ?_
  refine ln_pv (pv_move rfl) rfl ?_
  refine ln_pv (pv_nilCheck rfl) rfl ?_
  refine ln_pv (pv_fieldAddr (off := 0) (r := 0) Tryz.underlying74 rfl (tiint16).size rfl rfl rfl) rfl ?_
  refine ln_store1 (i := 0) rfl rfl rfl rfl (tiint16).size rfl ?_
  refine ln_nil ?_
  exact at_retT0 (i := 0) rfl rfl (fun w hS => rfl)
theorem readf_ReadShareGroupStateSummaryRequest (t : Vw) (b : Nat) (v : Int) (x : Tre) (sv : Value) (hsv : RSv t sv (partB F_ReadShareGroupStateSummaryRequest v (flexB 0 v) x)) (hk : keysT x) (h0 : 0 ≤ v) (h1 : v ≤ 1) (hok : (MsgBox b 74 (.int .i16 v :: ([.string .empty, .slice none 0 0, .map none] : List Value))).ok t.w) (hav : ∀ q ∈ (MsgBox b 74 (.int .i16 v :: ([.string .empty, .slice none 0 0, .map none] : List Value))).blk, t.av q) : CT Tryz.prog 32 [.pointer (some ⟨b, 0, none⟩), sv] t (MsgBox b 74 (.int .i16 v :: ([.string .empty, .slice none 0 0, .map none] : List Value))) fun u r e' => r = .nilIface ∧ ∃ cells, e' = MsgBox b 74 (.int .i16 v :: cells) ∧ RMp u F_ReadShareGroupStateSummaryRequest (imT F_ReadShareGroupStateSummaryRequest v (flexB 0 v) x) cells := by
  refine ct_enter Tryz.func32 rfl Tryz.ntmps32 rfl hok hav (by simp [Ent.blk]) ?_
  refine cd_sr ?_
  refine ln_pv (pv_assign rfl) rfl ?_
  refine ln_cd ?_
  refine cd_sr ?_
  refine ln_pv (pv_move rfl) rfl ?_
  refine ln_pv (pv_move rfl) rfl ?_
  refine ln_callT (i := 0) en_59 rfl rfl (fun u hu hok hav => read_ReadShareGroupStateSummaryRequest u b v x sv (RSv.mv hsv hu) hk h0 h1 hok hav) rfl ?_
  rintro u2 _ _ ht2 ⟨ux, ⟨rfl, cells, rfl, hM⟩, hx⟩
  refine ln_pv (pv_assign rfl) rfl ?_
  refine ln_cd ?_
  refine cd_ret ?_
  exact at_retT (i := 0) rfl rfl rfl (fun w hS => ⟨rfl, cells, rfl, (hM.mv hx).mv (hS.trFinT _ _)⟩)
theorem key_ReadShareGroupStateSummaryRequest (t : Vw) (b : Nat) : CS Tryz.prog 126 [.pointer (some ⟨b, 0, none⟩)] t (.int .i16 87) := by
  refine CA.cs ?_
  refine ca_enter Tryz.func126 rfl Tryz.ntmps126 rfl ?_
  refine cd_sr ?_
  refine ln_pv (pv_assign rfl) rfl ?_
  refine ln_cd ?_
  refine cd_sr ?_
  refine ln_pv (pv_assign rfl) rfl ?_
  refine ln_cd ?_
  refine cd_ret ?_
  refine at_retA rfl rfl (fun w hS => ?_)
  rfl
theorem getv_ReadShareGroupStateSummaryRequest (t : Vw) (b : Nat) (v : Int) (cs : List Value) (hrc : RC t b 0 (.int .i16 v :: cs)) : CS Tryz.prog 124 [.pointer (some ⟨b, 0, none⟩)] t (.int .i16 v) := by
  refine CA.cs ?_
  refine ca_enter Tryz.func124 rfl Tryz.ntmps124 rfl ?_
  refine cd_sr ?_
  refine ln_pv (pv_assign rfl) rfl ?_
  refine ln_cd ?_
  refine cd_sr ?_
  refine ln_pv (pv_move rfl) rfl ?_
  refine ln_pv (pv_nilCheck rfl) rfl ?_
  refine ln_pv (pv_fieldAddr (off := 0)  Tryz.underlying74 rfl (tiint16).size rfl rfl rfl) rfl ?_
  refine ln_pv (pv_ldr (j := 0) hrc Tryz.underlying45 rfl rfl rfl) rfl ?_
  refine ln_pv (pv_assign rfl) rfl ?_
  refine ln_cd ?_
  refine cd_ret ?_
  refine at_retA rfl rfl (fun w hS => ?_)
  rfl
theorem isfl_ReadShareGroupStateSummaryRequest (t : Vw) (b : Nat) (v : Int) (cs : List Value) (hrc : RC t b 0 (.int .i16 v :: cs)) : CS Tryz.prog 125 [.pointer (some ⟨b, 0, none⟩)] t (.bool (flexB 0 v)) := by
  refine CA.cs ?_
  refine ca_enter Tryz.func125 rfl Tryz.ntmps125 rfl ?_
  refine cd_sr ?_
  refine ln_pv (pv_assign rfl) rfl ?_
  refine ln_cd ?_
  refine cd_sr ?_
  refine ln_pv (pv_move rfl) rfl ?_
  refine ln_pv (pv_nilCheck rfl) rfl ?_
  refine ln_pv (pv_fieldAddr (off := 0)  Tryz.underlying74 rfl (tiint16).size rfl rfl rfl) rfl ?_
  refine ln_pv (pv_ldr (j := 0) hrc Tryz.underlying45 rfl rfl rfl) rfl ?_
  refine ln_pv (pv_geq rfl rfl) rfl ?_
  refine ln_pv (pv_assign rfl) rfl ?_
  refine ln_cd ?_
  refine cd_ret ?_
  refine at_retA rfl rfl (fun w hS => ?_)
  simp [flexB]
theorem mt_Key_ReadShareGroupStateSummaryRequest : MtOf Tryz.prog 46 "Key" 126 := mt_of (b := true) (by kernel_rfl) Tryz.underlying46 rfl
theorem mt_GetVersion_ReadShareGroupStateSummaryRequest : MtOf Tryz.prog 46 "GetVersion" 124 := mt_of (b := true) (by kernel_rfl) Tryz.underlying46 rfl
theorem mt_IsFlexible_ReadShareGroupStateSummaryRequest : MtOf Tryz.prog 46 "IsFlexible" 125 := mt_of (b := true) (by kernel_rfl) Tryz.underlying46 rfl
theorem mt_AppendTo_ReadShareGroupStateSummaryRequest : MtOf Tryz.prog 46 "AppendTo" 123 := mt_of (b := true) (by kernel_rfl) Tryz.underlying46 rfl
theorem rq_ReadShareGroupStateSummaryRequest (t : Vw) (b : Nat) (v : Int) (x : Tre) (cells : List Value) (hob : OB t b (.cells (.int .i16 v :: cells).toArray 74)) (hM : RMp t F_ReadShareGroupStateSummaryRequest (imT F_ReadShareGroupStateSummaryRequest v (flexB 0 v) x) cells) (hk : keysT x) (h0 : 0 ≤ v) (h1 : v ≤ 1) : Rq t 46 b 87 v (flexB 0 v) (partB F_ReadShareGroupStateSummaryRequest v (flexB 0 v) x) := by
  have him := partB_im (fs := F_ReadShareGroupStateSummaryRequest) (by kernel_rfl) (by kernel_rfl) v (flexB 0 v) x
  have hfit := okP_im (fs := F_ReadShareGroupStateSummaryRequest) (by kernel_rfl) (by kernel_rfl) v (flexB 0 v) x hk
  refine ⟨⟨_, mt_Key_ReadShareGroupStateSummaryRequest, en_126, fun u hu => key_ReadShareGroupStateSummaryRequest u b⟩, ⟨_, mt_GetVersion_ReadShareGroupStateSummaryRequest, en_124, fun u hu => getv_ReadShareGroupStateSummaryRequest u b v cells (hob.mv hu).rc⟩, ⟨_, mt_IsFlexible_ReadShareGroupStateSummaryRequest, en_125, fun u hu => isfl_ReadShareGroupStateSummaryRequest u b v cells (hob.mv hu).rc⟩, ⟨_, mt_AppendTo_ReadShareGroupStateSummaryRequest, en_123, fun u hu vd L0 hB hok hav => ?_⟩⟩
  have h := append_ReadShareGroupStateSummaryRequest u b v (imT F_ReadShareGroupStateSummaryRequest v (flexB 0 v) x) cells vd L0 (hob.mv hu).rc (hM.mv hu) hfit h0 h1 (by rw [him]; exact hB) hok hav
  rwa [him] at h
theorem frame_ReadShareGroupStateSummaryRequest (t : Vw) (v num : Int) (has : Bool) (z : ByteArray) (x : Tre) (sv : Value) (hsv : RSv t sv (partB F_ReadShareGroupStateSummaryRequest v (flexB 0 v) x)) (hk : keysT x) (h0 : 0 ≤ v) (h1 : v ≤ 1) (hz : z.size ≤ 32767) (hB : (partB F_ReadShareGroupStateSummaryRequest v (flexB 0 v) x).length ≤ 1099511627776) : CA Tryz.prog 13 [.agg [.bool has, .string z].toArray, .int .i32 num, .int .i64 v, sv] t fun u r => ∃ rv, r = .tuple #[rv, .bool true] ∧ RSv u rv (frB 87 v num (idsB has z) (flexB 0 v) (partB F_ReadShareGroupStateSummaryRequest v (flexB 0 v) x)) := by
  refine ca_enter Tryz.func13 rfl Tryz.ntmps13 rfl ?_
  refine cd_sr ?_
  refine ln_box (l := [_, _]) rfl rfl rfl (fun bi => ?_)
  refine ln_pv (pv_assign rfl) rfl ?_
  refine ln_pv (pv_assign rfl) rfl ?_
  refine ln_cd ?_
  refine cd_sr ?_
  refine ln_callH (E := []) (H0 := [_]) (List.Perm.refl _) en_27 rfl (fun u hu hok hav hnd => newp_ReadShareGroupStateSummaryRequest u hok hav hnd) rfl ?_
  rintro u1 _ _ ht1 ⟨_, ⟨b, rfl, rfl⟩, _⟩
  refine ln_pv (pv_assign rfl) rfl ?_
  refine ln_cd ?_
  refine cd_sr ?_
  refine ln_pv (pv_move rfl) rfl ?_
  refine ln_pv (pv_move rfl) rfl ?_
  refine ln_pv (pv_conv' Tryz.underlying3 Tryz.underlying45 rfl (r := v) (wrap_i16_in (by omega) (by omega))) rfl ?_
  refine ln_callT (i := 0) en_31 rfl rfl (fun u hu hok hav => setd_ReadShareGroupStateSummaryRequest u b v hok hav) rfl ?_
  rintro u2 _ _ ht2 ⟨_, rfl, _⟩
  refine ln_cd ?_
  have hsv := hsv.mv (ht1.trans ht2)
  refine cd_seq ?_
  refine cd_sr ?_
  refine ln_pv (pv_move rfl) rfl ?_
  refine ln_pv (pv_move rfl) rfl ?_
  refine ln_nilrow 5 1 ?_
  refine ln_append (i := 0) rfl Tryz.underlying24 tiuint8 rfl (by decide) rfl rfl (RS.src hsv) (by simp only [maxLen]; omega) (by omega) rfl (k' := (partB F_ReadShareGroupStateSummaryRequest v (flexB 0 v) x).length) (xs' := u8s (partB F_ReadShareGroupStateSummaryRequest v (flexB 0 v) x)) (by omega) (by simp) (fun va hva => ?_)
  refine ln_free1 (fun q h => h.elim) (fun s3 ht3 hK => ?_)
  have hs3 : RSv s3 va (partB F_ReadShareGroupStateSummaryRequest v (flexB 0 v) x) := Known.rs hK (u8s_one _)
  clear hK
  refine ln_callT (i := 0) en_32 rfl rfl (fun u hu hok hav => readf_ReadShareGroupStateSummaryRequest u b v x _ (RSv.mv hs3 hu) hk h0 h1 hok hav) rfl ?_
  rintro u4 _ _ ht4 ⟨ux4, ⟨rfl, cells, rfl, hM⟩, hx4⟩
  have hM := hM.mv hx4
  refine ln_pv (pv_neqI Tryz.underlying55 rfl) rfl ?_
  refine ln_cd ?_
  refine cd_ff rfl ?_
  refine cd_skip ?_
  refine at_cd ?_
  refine cd_free (fun s9 hs9 hK => ?_)
  have hob : OB s9 b (.cells (.int .i16 v :: cells).toArray 74) := hK _ (List.mem_of_getElem? (i := 0) rfl)
  have hoi : OB s9 bi (.cells [.bool has, .string z].toArray 23) := hK _ (List.mem_of_getElem? (i := 1) rfl)
  clear hK
  have hM := hM.mv hs9
  refine cd_sr ?_
  refine ln_pv (pv_ldR hoi.rc Tryz.underlying23 rfl tiimpl_Id.size rfl rfl) rfl ?_
  refine ln_pv (pv_move rfl) rfl ?_
  refine ln_pv (pv_ifaceP Tryz.underlying46 rfl) rfl ?_
  refine ln_pv (pv_move rfl) rfl ?_
  refine ln_callA en_33 rfl (fun u hu => framed u _ b 87 v num (flexB 0 v) has z _ ((rq_ReadShareGroupStateSummaryRequest s9 b v x cells hob hM hk h0 h1).mv hu) (by decide) (by rw [strB_len]; exact hz) hB) rfl (fun u5 v5 ht5 hR5 => ?_)
  refine ln_pv (pv_assign rfl) rfl ?_
  refine ln_pv (pv_assign rfl) rfl ?_
  refine ln_cd ?_
  refine cd_ret ?_
  exact at_retA2 (K := 0) rfl rfl rfl (fun w hS => ⟨v5, rfl, RSv.mv hR5 hS.trFin⟩)
theorem law_ReadShareGroupStateSummaryRequest (t : Vw) (n : Nat) (has : Bool) (z : ByteArray) (num : Int) (x : Tre) (cs : List Value) (hn8 : n < 256) (hz : z.size ≤ 1048576) (hn0 : -2147483648 ≤ num) (hn1 : num ≤ 2147483647) (hx : RT t x cs) (hkx : keysT x) (hsm : smT x) (hB : (writeB F_ReadShareGroupStateSummaryRequest 0 ((versionN n 1 : Nat) : Int) x).length < 1099511627776) : CS Tryz.prog 3 [.int .u8 (n : Int), .agg #[.bool has, .string z], .int .i32 num, .agg cs.toArray] t (.bool true) := by
  obtain ⟨sS, sL, sU, rfl, hn, hS, ⟨lc, hL, hLs⟩, hU⟩ := hx.open
  obtain ⟨adS, cS, rfl, hleS⟩ := hS.shape
  obtain ⟨adL, cL, rfl, hleL⟩ := hL.shape
  have hU0 := hU
  obtain ⟨uc, hU1, hUs⟩ := hU0
  obtain ⟨hz1, hz2, hz3, hz4⟩ := hsm.open
  have hok := ok_F_ReadShareGroupStateSummaryRequest
  have hvn : versionN n 1 ≤ 1 := by have := Nat.mod_lt n (show 0 < 1 + 1 by omega); unfold versionN; omega
  refine CA.cs ?_
  refine ca_enter Tryz.func3 rfl Tryz.ntmps3 rfl ?_
  cases hft : fits1 x with
  | false =>
    refine cd_sr ?_
    refine ln_box rfl rfl rfl (fun b1 => ?_)
    refine ln_box rfl rfl rfl (fun b2 => ?_)
    refine ln_pv (pv_assign rfl) rfl ?_
    refine ln_cd ?_
    refine cd_seq ?_
    refine cd_sr ?_
    refine ln_pv (pv_ldO (i := 1) rfl Tryz.underlying23 rfl (tiimpl_Id).size rfl rfl) rfl ?_
    refine ln_callS en_7 rfl (fun u hu => laws_zzFits4 u has z hz) rfl ?_
    refine ln_pv (pv_not rfl) rfl ?_
    refine ln_pv (pv_move rfl) rfl ?_
    refine ln_gt rfl rfl rfl (pv_ldO (i := 0) rfl Tryz.underlying28 rfl (tispec_Tree).size rfl rfl) rfl ?_
    refine ln_gE rfl rfl rfl ?_
    refine ln_callS en_8 rfl (fun u hu => by have h := laws_zzFits1 u x _ (RT.mv hx hu) (by omega); rwa [hft] at h) rfl ?_
    refine ln_gt rfl rfl rfl (pv_not rfl) rfl ?_
    refine ln_pv (pv_pick rfl (fun _ => rfl) (fun _ => rfl)) rfl ?_
    refine ln_cd ?_
    refine cd_tt rfl ?_
    refine cd_sr ?_
    refine ln_pv (pv_assign rfl) rfl ?_
    refine ln_cd ?_
    refine cd_ret ?_
    refine at_retA rfl rfl (fun w hS => ?_)
    rfl
  | true =>
    by_cases hbig : z.size > 32767
    · skip
      refine cd_sr ?_
      refine ln_box rfl rfl rfl (fun b1 => ?_)
      refine ln_box rfl rfl rfl (fun b2 => ?_)
      refine ln_pv (pv_assign rfl) rfl ?_
      refine ln_cd ?_
      refine cd_seq ?_
      refine cd_sr ?_
      refine ln_pv (pv_ldO (i := 1) rfl Tryz.underlying23 rfl (tiimpl_Id).size rfl rfl) rfl ?_
      refine ln_callS en_7 rfl (fun u hu => laws_zzFits4 u has z hz) rfl ?_
      refine ln_pv (pv_not rfl) rfl ?_
      refine ln_pv (pv_move rfl) rfl ?_
      refine ln_gt rfl rfl rfl (pv_ldO (i := 0) rfl Tryz.underlying28 rfl (tispec_Tree).size rfl rfl) rfl ?_
      refine ln_gE rfl rfl rfl ?_
      refine ln_callS en_8 rfl (fun u hu => by have h := laws_zzFits1 u x _ (RT.mv hx hu) (by omega); rwa [hft] at h) rfl ?_
      refine ln_gt rfl rfl rfl (pv_not rfl) rfl ?_
      refine ln_pv (pv_pick rfl (fun _ => rfl) (fun _ => rfl)) rfl ?_
      refine ln_cd ?_
      refine cd_ff rfl ?_
      refine cd_skip ?_
      refine at_cd ?_
      refine cd_sr ?_
      refine ln_callS en_9 rfl (fun u hu => max_ReadShareGroupStateSummaryRequest u) rfl ?_
      refine ln_pv (pv_assign rfl) rfl ?_
      refine ln_cd ?_
      refine cd_seq ?_
      refine cd_sr ?_
      refine ln_pv (pv_move rfl) rfl ?_
      refine ln_pv (pv_ff (pv_lss rfl rfl) (by omega)) rfl ?_
      refine ln_cd ?_
      refine cd_ff rfl ?_
      refine cd_skip ?_
      refine at_cd ?_
      refine cd_sr ?_
      refine ln_callA en_10 rfl (fun u hu => sch_F_ReadShareGroupStateSummaryRequest u) rfl (fun u1 v1 ht1 hR1 => ?_)
      have hx := hx.mv ht1
      obtain ⟨sv, lcm, rfl, hVm, hFm⟩ := hR1
      refine ln_pv (pv_move rfl) rfl ?_
      refine ln_pv (pv_move rfl) rfl ?_
      refine ln_callS en_11 rfl (fun u hu => laws_version u n 1 hn8 (by omega)) rfl ?_
      refine ln_alloc tispec_Message rfl rfl (fun b3 => ?_)
      refine ln_storeW (i := 0) rfl rfl rfl rfl (tispec_Message).size rfl (by simp [(RS.one hVm)]) ?_
      refine ln_pv (pv_assign rfl) rfl ?_
      refine ln_cd ?_
      refine cd_seq ?_
      refine cd_sr ?_
      refine ln_pv (pv_fieldAddr (off := 1) (r := 1) Tryz.underlying23 rfl (tistring).size rfl rfl rfl) rfl ?_
      refine ln_pv (pv_ldo (i := 2) rfl Tryz.underlying9 rfl rfl rfl) rfl ?_
      refine ln_pv (pv_len_str Tryz.underlying9 rfl) rfl ?_
      refine ln_pv (pv_tt (pv_gtr rfl rfl) (by omega)) rfl ?_
      refine ln_cd ?_
      refine cd_tt rfl ?_
      refine cd_sr ?_
      refine ln_pv (pv_assign rfl) rfl ?_
      refine ln_cd ?_
      refine cd_ret ?_
      refine at_retA rfl rfl (fun w hS => ?_)
      rfl
    · skip
      refine cd_sr ?_
      refine ln_box rfl rfl rfl (fun b1 => ?_)
      refine ln_box rfl rfl rfl (fun b2 => ?_)
      refine ln_pv (pv_assign rfl) rfl ?_
      refine ln_cd ?_
      refine cd_seq ?_
      refine cd_sr ?_
      refine ln_pv (pv_ldO (i := 1) rfl Tryz.underlying23 rfl (tiimpl_Id).size rfl rfl) rfl ?_
      refine ln_callS en_7 rfl (fun u hu => laws_zzFits4 u has z hz) rfl ?_
      refine ln_pv (pv_not rfl) rfl ?_
      refine ln_pv (pv_move rfl) rfl ?_
      refine ln_gt rfl rfl rfl (pv_ldO (i := 0) rfl Tryz.underlying28 rfl (tispec_Tree).size rfl rfl) rfl ?_
      refine ln_gE rfl rfl rfl ?_
      refine ln_callS en_8 rfl (fun u hu => by have h := laws_zzFits1 u x _ (RT.mv hx hu) (by omega); rwa [hft] at h) rfl ?_
      refine ln_gt rfl rfl rfl (pv_not rfl) rfl ?_
      refine ln_pv (pv_pick rfl (fun _ => rfl) (fun _ => rfl)) rfl ?_
      refine ln_cd ?_
      refine cd_ff rfl ?_
      refine cd_skip ?_
      refine at_cd ?_
      refine cd_sr ?_
      refine ln_callS en_9 rfl (fun u hu => max_ReadShareGroupStateSummaryRequest u) rfl ?_
      refine ln_pv (pv_assign rfl) rfl ?_
      refine ln_cd ?_
      refine cd_seq ?_
      refine cd_sr ?_
      refine ln_pv (pv_move rfl) rfl ?_
      refine ln_pv (pv_ff (pv_lss rfl rfl) (by omega)) rfl ?_
      refine ln_cd ?_
      refine cd_ff rfl ?_
      refine cd_skip ?_
      refine at_cd ?_
      refine cd_sr ?_
      refine ln_callA en_10 rfl (fun u hu => sch_F_ReadShareGroupStateSummaryRequest u) rfl (fun u1 v1 ht1 hR1 => ?_)
      have hx := hx.mv ht1
      obtain ⟨sv, lcm, rfl, hVm, hFm⟩ := hR1
      refine ln_pv (pv_move rfl) rfl ?_
      refine ln_pv (pv_move rfl) rfl ?_
      refine ln_callS en_11 rfl (fun u hu => laws_version u n 1 hn8 (by omega)) rfl ?_
      refine ln_alloc tispec_Message rfl rfl (fun b3 => ?_)
      refine ln_storeW (i := 0) rfl rfl rfl rfl (tispec_Message).size rfl (by simp [(RS.one hVm)]) ?_
      refine ln_pv (pv_assign rfl) rfl ?_
      refine ln_cd ?_
      refine cd_seq ?_
      refine cd_sr ?_
      refine ln_pv (pv_fieldAddr (off := 1) (r := 1) Tryz.underlying23 rfl (tistring).size rfl rfl rfl) rfl ?_
      refine ln_pv (pv_ldo (i := 2) rfl Tryz.underlying9 rfl rfl rfl) rfl ?_
      refine ln_pv (pv_len_str Tryz.underlying9 rfl) rfl ?_
      refine ln_pv (pv_ff (pv_gtr rfl rfl) (by omega)) rfl ?_
      refine ln_cd ?_
      refine cd_ff rfl ?_
      refine cd_skip ?_
      refine at_cd ?_
      refine cd_sr ?_
      refine ln_pv (pv_ldO (i := 0) rfl Tryz.underlying34 rfl (tispec_Message).size rfl rfl) rfl ?_
      refine ln_pv (pv_move rfl) rfl ?_
      refine ln_pv (pv_ldO (i := 1) rfl Tryz.underlying28 rfl (tispec_Tree).size rfl rfl) rfl ?_
      refine ln_callA en_12 rfl (fun u hu => spec_Write F_ReadShareGroupStateSummaryRequest 0 hok.1 hok.2.2 u _ _ _ ((versionN n 1 : Nat) : Int) x (RS.mv hVm hu) (RFs.mv hFm hu) (RT.mv hx hu) hsm hB) rfl (fun u2 v2 ht2 hR2 => ?_)
      have hx := hx.mv ht2
      have hVm := hVm.mv ht2
      have hFm := hFm.mv ht2
      refine ln_pv (pv_assign rfl) rfl ?_
      refine ln_cd ?_
      refine cd_sr ?_
      refine ln_pv (pv_ldO (i := 2) rfl Tryz.underlying23 rfl (tiimpl_Id).size rfl rfl) rfl ?_
      refine ln_pv (pv_move rfl) rfl ?_
      refine ln_pv (pv_move rfl) rfl ?_
      refine ln_pv (pv_move rfl) rfl ?_
      refine ln_callA en_13 rfl (fun u hu => frame_ReadShareGroupStateSummaryRequest u ((versionN n 1 : Nat) : Int) num has z x _ (RSv.mv hR2 hu) hkx (by omega) (by omega) (by omega) (by rw [show partB F_ReadShareGroupStateSummaryRequest ((versionN n 1 : Nat) : Int) (flexB 0 ((versionN n 1 : Nat) : Int)) x = writeB F_ReadShareGroupStateSummaryRequest 0 ((versionN n 1 : Nat) : Int) x from rfl]; omega)) rfl (fun u3 v3 ht3 hR3 => ?_)
      have hx := hx.mv ht3
      have hVm := hVm.mv ht3
      have hFm := hFm.mv ht3
      have hR2 := hR2.mv ht3
      obtain ⟨rv, rfl, hV⟩ := hR3
      refine ln_pv (pv_move rfl) rfl ?_
      refine ln_pv (pv_extract rfl rfl) rfl ?_
      refine ln_pv (pv_extract rfl rfl) rfl ?_
      refine ln_pv (pv_assign rfl) rfl ?_
      refine ln_pv (pv_assign rfl) rfl ?_
      refine ln_cd ?_
      refine cd_dr2 [0, 1, 2] [0, 1, 2, 3, 4, 5, 6, 7, 8, 10, 11, 13, 16, 17] [0, 1, 2, 3, 4, 5, 6, 7, 8, 10, 11, 13] 9 12 [12, 14, 15, 16, 17] [9, 14, 15, 16, 17] mixed (by kernel_rfl) ?_
      refine lo_pv rfl rfl (sk_js (Tr.refl _) [0, 1, 2] rfl) (pv_move rfl) rfl ?_
      refine lo_pv rfl rfl (sk_js (Tr.refl _) [0, 1, 2] rfl) (pv_move rfl) rfl ?_
      refine lo_gt rfl rfl (sk_js (Tr.refl _) [0, 1, 2] rfl) rfl rfl rfl (pv_move rfl) rfl ?_
      refine lo_gt rfl rfl (sk_js (Tr.refl _) [0, 1, 2] rfl) rfl rfl rfl (pv_move rfl) rfl ?_
      refine lo_gt rfl rfl (sk_js (Tr.refl _) [0, 1, 2] rfl) rfl rfl rfl (pv_move rfl) rfl ?_
      refine lo_gt rfl rfl (sk_js (Tr.refl _) [0, 1, 2] rfl) rfl rfl rfl (pv_fieldAddr (off := 0) (r := 0) Tryz.underlying23 rfl (tibool).size rfl rfl rfl) rfl ?_
      refine lo_gt rfl rfl (sk_js (Tr.refl _) [0, 1, 2] rfl) rfl rfl rfl (pv_ldo (i := 2) rfl Tryz.underlying4 rfl rfl rfl) rfl ?_
      refine lo_gt rfl rfl (sk_js (Tr.refl _) [0, 1, 2] rfl) rfl rfl rfl (pv_fieldAddr (off := 1) (r := 1) Tryz.underlying23 rfl (tistring).size rfl rfl rfl) rfl ?_
      refine lo_gt rfl rfl (sk_js (Tr.refl _) [0, 1, 2] rfl) rfl rfl rfl (pv_ldo (i := 2) rfl Tryz.underlying9 rfl rfl rfl) rfl ?_
      refine lo_gt rfl rfl (sk_js (Tr.refl _) [0, 1, 2] rfl) rfl rfl rfl (pv_ldO (i := 0) rfl Tryz.underlying34 rfl (tispec_Message).size rfl rfl) rfl ?_
      refine lo_gt rfl rfl (sk_js (Tr.refl _) [0, 1, 2] rfl) rfl rfl rfl (pv_move rfl) rfl ?_
      refine lo_gt rfl rfl (sk_js (Tr.refl _) [0, 1, 2] rfl) rfl rfl rfl (pv_move rfl) rfl ?_
      refine lo_nil (at_two ?_ ?_)
      · skip
        refine lo_eff rfl rfl ?_
        refine ln_gE rfl rfl rfl ?_
        refine ln_s2b Tryz.underlying9 Tryz.underlying24 Tryz.underlying5 rfl rfl (fun bS4 cS4 zS4 fS4 hcS4 => ?_)
        refine ln_free1 (fun q h => h.elim) (fun sS4 htS4 hKS4 => ?_)
        have hsS4 := rs_of_obj hKS4 hcS4
        clear hKS4
        have hx := hx.mv htS4
        have hVm := hVm.mv htS4
        have hFm := hFm.mv htS4
        have hR2 := hR2.mv htS4
        have hV := hV.mv htS4
        refine lo_back (sk_js htS4 [0, 1, 2] rfl) ?_
        refine lo_eff rfl rfl ?_
        refine ln_gE rfl rfl rfl ?_
        refine ln_callS en_16 rfl (fun u hu => spec_Flexible u _ _ _ 0 ((versionN n 1 : Nat) : Int) (RS.mv hVm hu)) rfl ?_
        refine lo_back (sk_js htS4 [0, 1, 2] rfl) ?_
        refine lo_eff rfl rfl ?_
        refine ln_gE rfl rfl rfl ?_
        refine ln_callA en_15 rfl (fun u hu => spec_Frame u 87 ((versionN n 1 : Nat) : Int) num has (flexB 0 ((versionN n 1 : Nat) : Int)) _ _ (strB z) (writeB F_ReadShareGroupStateSummaryRequest 0 ((versionN n 1 : Nat) : Int) x) (RSv.mv hsS4 hu) (RSv.mv hR2 hu) hn0 hn1 (by rw [strB_len]; omega) (by omega)) rfl (fun u5 v5 ht5 hR5 => ?_)
        have hx := hx.mv ht5
        have hVm := hVm.mv ht5
        have hFm := hFm.mv ht5
        have hR2 := hR2.mv ht5
        have hV := hV.mv ht5
        have hsS4 := hsS4.mv ht5
        refine lo_back (sk_js (htS4.trans ht5) [0, 1, 2] rfl) ?_
        refine lo_eff rfl rfl ?_
        refine ln_gE rfl rfl rfl ?_
        refine ln_callS en_14 rfl (fun u hu => by have h := spec_Same u _ _ (frB 87 ((versionN n 1 : Nat) : Int) num (idsB has z) (flexB 0 ((versionN n 1 : Nat) : Int)) (writeB F_ReadShareGroupStateSummaryRequest 0 ((versionN n 1 : Nat) : Int) x)) (frB 87 ((versionN n 1 : Nat) : Int) num (idsB has z) (flexB 0 ((versionN n 1 : Nat) : Int)) (writeB F_ReadShareGroupStateSummaryRequest 0 ((versionN n 1 : Nat) : Int) x)) (RSv.mv hV hu) (RSv.mv hR5 hu) (by have := frB_le (key := 87) (v := ((versionN n 1 : Nat) : Int)) (num := num) (has := has) (fl := flexB 0 ((versionN n 1 : Nat) : Int)) (body := writeB F_ReadShareGroupStateSummaryRequest 0 ((versionN n 1 : Nat) : Int) x) (z := z) (by omega); omega); rwa [decide_eq_true rfl] at h) rfl ?_
        refine lo_back (sk_js (htS4.trans ht5) [0, 1, 2] rfl) ?_
        refine lo_pv rfl rfl (sk_js (htS4.trans ht5) [0, 1, 2] rfl) (pv_pick rfl (fun _ => rfl) (fun _ => rfl)) rfl ?_
        refine lo_pv rfl rfl (sk_js (htS4.trans ht5) [0, 1, 2] rfl) (pv_assign rfl) rfl ?_
        refine lo_cd ?_
        refine cd_ret ?_
        refine at_retA rfl rfl (fun w hS => ?_)
        rfl
      · skip
        refine lo_eff rfl rfl ?_
        refine ln_gE rfl rfl rfl ?_
        refine ln_callS en_16 rfl (fun u hu => spec_Flexible u _ _ _ 0 ((versionN n 1 : Nat) : Int) (RS.mv hVm hu)) rfl ?_
        refine lo_back (sk_js (Tr.refl _) [0, 1, 2] rfl) ?_
        refine lo_eff rfl rfl ?_
        refine ln_gE rfl rfl rfl ?_
        refine ln_s2b Tryz.underlying9 Tryz.underlying24 Tryz.underlying5 rfl rfl (fun bS6 cS6 zS6 fS6 hcS6 => ?_)
        refine ln_free1 (fun q h => h.elim) (fun sS6 htS6 hKS6 => ?_)
        have hsS6 := rs_of_obj hKS6 hcS6
        clear hKS6
        have hx := hx.mv htS6
        have hVm := hVm.mv htS6
        have hFm := hFm.mv htS6
        have hR2 := hR2.mv htS6
        have hV := hV.mv htS6
        refine lo_back (sk_js htS6 [0, 1, 2] rfl) ?_
        refine lo_eff rfl rfl ?_
        refine ln_gE rfl rfl rfl ?_
        refine ln_callA en_15 rfl (fun u hu => spec_Frame u 87 ((versionN n 1 : Nat) : Int) num has (flexB 0 ((versionN n 1 : Nat) : Int)) _ _ (strB z) (writeB F_ReadShareGroupStateSummaryRequest 0 ((versionN n 1 : Nat) : Int) x) (RSv.mv hsS6 hu) (RSv.mv hR2 hu) hn0 hn1 (by rw [strB_len]; omega) (by omega)) rfl (fun u7 v7 ht7 hR7 => ?_)
        have hx := hx.mv ht7
        have hVm := hVm.mv ht7
        have hFm := hFm.mv ht7
        have hR2 := hR2.mv ht7
        have hV := hV.mv ht7
        have hsS6 := hsS6.mv ht7
        refine lo_back (sk_js (htS6.trans ht7) [0, 1, 2] rfl) ?_
        refine lo_eff rfl rfl ?_
        refine ln_gE rfl rfl rfl ?_
        refine ln_callS en_14 rfl (fun u hu => by have h := spec_Same u _ _ (frB 87 ((versionN n 1 : Nat) : Int) num (idsB has z) (flexB 0 ((versionN n 1 : Nat) : Int)) (writeB F_ReadShareGroupStateSummaryRequest 0 ((versionN n 1 : Nat) : Int) x)) (frB 87 ((versionN n 1 : Nat) : Int) num (idsB has z) (flexB 0 ((versionN n 1 : Nat) : Int)) (writeB F_ReadShareGroupStateSummaryRequest 0 ((versionN n 1 : Nat) : Int) x)) (RSv.mv hV hu) (RSv.mv hR7 hu) (by have := frB_le (key := 87) (v := ((versionN n 1 : Nat) : Int)) (num := num) (has := has) (fl := flexB 0 ((versionN n 1 : Nat) : Int)) (body := writeB F_ReadShareGroupStateSummaryRequest 0 ((versionN n 1 : Nat) : Int) x) (z := z) (by omega); omega); rwa [decide_eq_true rfl] at h) rfl ?_
        refine lo_back (sk_js (htS6.trans ht7) [0, 1, 2] rfl) ?_
        refine lo_pv rfl rfl (sk_js (htS6.trans ht7) [0, 1, 2] rfl) (pv_pick rfl (fun _ => rfl) (fun _ => rfl)) rfl ?_
        refine lo_pv rfl rfl (sk_js (htS6.trans ht7) [0, 1, 2] rfl) (pv_assign rfl) rfl ?_
        refine lo_cd ?_
        refine cd_ret ?_
        refine at_retA rfl rfl (fun w hS => ?_)
        rfl
theorem fn_ReadShareGroupStateSummaryRequest (t : Vw) (n : Nat) (has : Bool) (z : ByteArray) (num : Int) (x : Tre) (cs : List Value) (hn : n < 256) (hz : z.size ≤ 1048576) (hn0 : -2147483648 ≤ num) (hn1 : num ≤ 2147483647) (hx : RT t x cs) (hw : wt x ≤ 1048576) : CS Tryz.prog 3 [.int .u8 (n : Int), .agg #[.bool has, .string z], .int .i32 num, .agg cs.toArray] t (.bool true) := by
  have hok := ok_F_ReadShareGroupStateSummaryRequest
  exact law_ReadShareGroupStateSummaryRequest t n has z num x cs hn hz hn0 hn1 hx hx.keys (smT_wt x (by omega)) (writeB_len _ _ _ x hok.1 hx.keys hw (of_decide_eq_true (by kernel_rfl)))
end K
end Go.Proofs.YtnolhlnncbajdaaGreatDoorR
