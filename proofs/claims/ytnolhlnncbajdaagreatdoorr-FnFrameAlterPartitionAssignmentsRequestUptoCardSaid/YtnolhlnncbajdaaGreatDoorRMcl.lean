import Derived.Test.YtnolhlnncbajdaaGreatDoorRW4
import Derived.Test.YtnolhlnncbajdaaGreatDoorRMcp
import Derived.Test.YtnolhlnncbajdaaGreatDoorRP4
import Derived.Test.YtnolhlnncbajdaaGreatDoorRS10
set_option linter.unusedVariables false
set_option linter.unusedSimpArgs false
namespace Go.Proofs.YtnolhlnncbajdaaGreatDoorR
namespace K
open Go Go.Lib
theorem df_AlterPartitionAssignmentsRequest (z0 z1 z2 z3 z4 : Value) : DfC 63 [z0, z1, z2, z3, z4] [z0, .int .i32 60000, .bool true, z3, z4] := by
  intro mk b o hT t hok hav
  refine ct_enter Tryz.func63 rfl Tryz.ntmps63 rfl hok hav (by rw [hT.blk]; simp) ?_
  refine cd_sr ?_
  refine ln_pv (pv_move rfl) rfl ?_
  refine ln_pv (pv_nilCheck rfl) rfl ?_
  refine ln_pv (pv_fieldAddr (off := 1) Tryz.underlying94 rfl tiint32.size rfl rfl rfl) rfl ?_
  refine ln_storeG1 (i := 0) (off := 1) (v := .int .i32 60000) hT rfl rfl rfl rfl rfl tiint32.size (Nat.le_of_ble_eq_true rfl) ?_
  refine ln_cd ?_
  refine cd_region ?_
  refine ln_pv (pv_move rfl) rfl ?_
  refine ln_pv (pv_nilCheck rfl) rfl ?_
  refine ln_pv (pv_fieldAddr (off := 2) Tryz.underlying94 rfl tibool.size rfl rfl rfl) rfl ?_
  refine ln_storeG1 (i := 0) (off := 2) (v := .bool true) hT rfl rfl rfl rfl rfl tibool.size (Nat.le_of_ble_eq_true rfl) ?_
  refine ln_nil ?_
  exact at_retT0 (i := 0) rfl rfl (fun w hS => ⟨rfl, rfl⟩)
theorem df_AlterPartitionAssignmentsRequestTopic (z0 z1 z2 : Value) : DfC 93 [z0, z1, z2] [z0, z1, z2] := by
  intro mk b o hT t hok hav
  refine ct_enter Tryz.func93 rfl Tryz.ntmps93 rfl hok hav (by rw [hT.blk]; simp) ?_
  refine cd_skip ?_
  exact at_retT0 (i := 0) rfl rfl (fun w hS => ⟨rfl, rfl⟩)
theorem df_AlterPartitionAssignmentsRequestTopicPartition (z0 z1 z2 : Value) : DfC 94 [z0, z1, z2] [z0, z1, z2] := by
  intro mk b o hT t hok hav
  refine ct_enter Tryz.func94 rfl Tryz.ntmps94 rfl hok hav (by rw [hT.blk]; simp) ?_
  refine cd_skip ?_
  exact at_retT0 (i := 0) rfl rfl (fun w hS => ⟨rfl, rfl⟩)
theorem read_AlterPartitionAssignmentsRequest (t : Vw) (b : Nat) (v : Int) (x : Tre) (sv : Value) (hsv : RSv t sv (partB F_AlterPartitionAssignmentsRequest v (flexB 0 v) x)) (hk : keysT x) (h0 : 0 ≤ v) (h1 : v ≤ 1) (hok : (MsgBox b 94 (.int .i16 v :: ([.int .i32 60000, .bool true, .slice none 0 0, .map none] : List Value))).ok t.w) (hav : ∀ q ∈ (MsgBox b 94 (.int .i16 v :: ([.int .i32 60000, .bool true, .slice none 0 0, .map none] : List Value))).blk, t.av q) : CT Tryz.prog 65 [.pointer (some ⟨b, 0, none⟩), sv, .bool false] t (MsgBox b 94 (.int .i16 v :: ([.int .i32 60000, .bool true, .slice none 0 0, .map none] : List Value))) fun u r e' => r = .nilIface ∧ ∃ cells, e' = MsgBox b 94 (.int .i16 v :: cells) ∧ RMp u F_AlterPartitionAssignmentsRequest (imT F_AlterPartitionAssignmentsRequest v (flexB 0 v) x) cells := by
  have hv0 := h0
  have hnt : ntFs F_AlterPartitionAssignmentsRequest = true := by kernel_rfl
  generalize hqd : flexB 0 v = q at *
  have hq0 : decide (v ≥ 0) = q := by rw [← hqd]; simp [flexB]
  obtain ⟨adS, cS, rfl, hcS⟩ := RSv.shape hsv
  refine ct_enter Tryz.func65 rfl Tryz.ntmps65 rfl hok hav (by simp [Ent.blk]) ?_
  refine cd_sq ?_
  refine rg_const rfl ?_
  refine at_cd ?_
  refine cd_sr ?_
  refine ln_pv (pv_move rfl) rfl ?_
  refine ln_callT (i := 0) (vals := [.pointer (some ⟨b, 0, none⟩)]) en_63 rfl rfl (fun u hu hok hav => df_AlterPartitionAssignmentsRequest _ _ _ _ _ (fun w => .obj b (.cells w.toArray 94)) b 0 (Tgt.obj b 94 5) u hok hav) rfl ?_
  rintro u1 _ _ ht1 ⟨ux1, ⟨rfl, rfl⟩, hx1⟩
  refine ln_cd ?_
  refine cd_sr ?_
  refine ln_pv (pv_move rfl) rfl ?_
  refine ln_pv (pv_struct [(0, 1), (1, 1)] (l := [_, _]) rfl Tryz.underlying108 tipub_kmsg_inner_kbin_Reader (by kernel_rfl) rfl rfl) rfl ?_
  refine ln_alloc (l := [.slice none 0 0, .bool false]) tipub_kmsg_inner_kbin_Reader rfl rfl (fun br => ?_)
  refine ln_storeW (i := 0) (vs := [_, .bool false]) rfl rfl rfl rfl tipub_kmsg_inner_kbin_Reader.size rfl (by simp) ?_
  refine ln_cd ?_
  refine cd_sr ?_
  refine ln_pv (pv_move rfl) rfl ?_
  refine ln_pv (pv_nilCheck rfl) rfl ?_
  refine ln_pv (pv_fieldAddr (off := 0) (r := 0) Tryz.underlying94 rfl tiint16.size rfl rfl rfl) rfl ?_
  refine ln_pv (pv_ldo (i := 1) (v := .int .i16 v) rfl Tryz.underlying45 rfl rfl rfl) rfl ?_
  refine ln_pv (pv_assign rfl) rfl ?_
  refine ln_cd ?_
  refine cd_sq ?_
  refine rg_blank rfl rfl ?_
  refine at_cd ?_
  refine cd_sr ?_
  refine ln_pv (pv_move rfl) rfl ?_
  refine ln_pv (pv_geq rfl rfl) rfl ?_
  refine ln_pv (pv_assign rfl) rfl ?_
  rw [hq0]
  refine ln_cd ?_
  refine cd_sq ?_
  refine rg_blank rfl rfl ?_
  refine at_cd ?_
  refine cd_sr ?_
  refine ln_pv (pv_move rfl) rfl ?_
  refine ln_pv (pv_assign rfl) rfl ?_
  refine ln_cd ?_
  refine cd_sub_ (L' := [(10, .pointer (some ⟨b, 0, none⟩)), (9, .bool q), (8, .int .i16 v), (7, .pointer (some ⟨br, 0, none⟩)), (2, .bool false)]) (.put rfl (.put rfl (.put rfl (.put rfl (.put rfl .nil))))) ?_
  obtain ⟨mk, hmk⟩ : ∃ mk : List Value → Ent, mk = fun w => MsgBox b 94 (.int .i16 v :: w) := ⟨_, rfl⟩
  have hT : Tgt mk b 1 4 := by rw [hmk]; exact Tgt.behind b 94 _ 4
  refine cd_eqH (H' := [RdE br _, mk ([] ++ ([.int .i32 60000, .bool true, .slice none 0 0, .map none] : List Value))]) (by rw [hmk]; rfl) ?_
  have hR : Rs u1 [.mk 3 0 (-1) (-1) (-1) 60000 0 [], .mk 0 1 (-1) (-1) (-1) 1 0 [], .mk 11 0 (-1) (-1) (-1) 0 10 F_sAlterPartitionAssignmentsRequestTopic] [] v q x (imT F_AlterPartitionAssignmentsRequest v q x) (tgsB q x ++ []) _ [] := Rs.start (F := F_AlterPartitionAssignmentsRequest) (RSv.part hnt (by rw [List.append_nil]; exact RSv.mv hsv ht1)) hnt
  refine cd_sq ?_
  refine st_num (z := .int .i32 60000) hR (hasB_all hv0) rfl en_86 (Fc.num (by decide) (by decide) (by decide) (fun null => sc_i32 null _ _)) rfl hT rfl Tryz.underlying94 rfl tiint32.size rfl (po_eq (show 1 = 1 + fszs _ by kernel_rfl)) tiint32.size rfl rfl (fun u1 v1 done1 ht1 hR => ?_)
  refine at_cd ?_
  refine cd_sq ?_
  refine st_if (zc := ([.bool true] : List Value)) (zs := ([.slice none 0 0, .map none] : List Value)) rfl rfl hR (hasB_from) (fun u => (by rw [RMf_b]; simp [dfF, tn])) rfl (fun u2 v2 done2 ht2 hR => ?_) (fun hh kk => ?_)
  rotate_left
  · skip
    exact st_num (z := .bool true) hR hh rfl en_92 (Fc.num (by decide) (by decide) (by decide) (fun null => sc_b null _ _)) rfl hT rfl Tryz.underlying94 rfl tibool.size rfl (po_eq (show 2 = 1 + fszs _ by kernel_rfl)) tibool.size rfl rfl kk
  refine at_cd ?_
  refine cd_sq ?_
  refine st_list (zc := ([.string .empty, .slice none 0 0, .map none] : List Value)) hR (hasB_all hv0) (by decide) rfl rfl rfl hT rfl Tryz.underlying94 rfl tiSl_kmsg_AlterPartitionAssignmentsRequestTopic.size rfl (po_eq (show 3 = 1 + fszs _ by kernel_rfl)) tiSl_kmsg_AlterPartitionAssignmentsRequestTopic.size Tryz.underlying92 Tryz.underlying21 tipub_kmsg_AlterPartitionAssignmentsRequestTopic rfl rfl (by kernel_rfl) (by decide) (by decide) (fun q hq => .inl (by simpa [Ent.blk] using hq)) (fun z => part_pos (plain_pos (by decide) (by decide) (by decide) (hasB_all hv0))) rfl rfl rfl rfl rfl rfl rfl rfl rfl rfl rfl rfl rfl (keysT.at_ hk _) (fun gb3 cap3 m3 i3 x3 u3 v3 xs3 rest3 N3 X3 hi3 hm3 hk3 ht3 hxl3 hv3 kb3 => ?_) (fun uu3 vv3 done3 hh3 hR => ?_)
  · skip
    have hnt3 : ntFs F_sAlterPartitionAssignmentsRequestTopic = true := by kernel_rfl
    have hvp3 := RSv.el hnt3 hv3
    refine cd_sq ?_
    refine rg_ix rfl rfl hi3 Tryz.underlying92 tipub_kmsg_AlterPartitionAssignmentsRequestTopic.size rfl ?_
    refine at_cd ?_
    obtain ⟨mk3, hmk3⟩ : ∃ mk : List Value → Ent, mk = fun w => .row (.slice (some ⟨gb3, 0, none⟩) m3 cap3) 137 3 m3 (xs3 ++ (w ++ (List.replicate (m3 - (i3 + 1)) ([.string .empty, .slice none 0 0, .map none] : List Value)).flatten)) := ⟨_, rfl⟩
    have hT3 : Tgt mk3 gb3 (0 + i3 * 3) 3 := by rw [hmk3]; exact (Tgt.row gb3 cap3 m3 3 137).mid _ _ _ _ (list_fits hi3 hxl3 rfl) (by rw [hxl3])
    refine cd_eqH (H' := RdE _ v3 :: mk3 ([.string .empty, .slice none 0 0, .map none] : List Value) :: _) (by rw [hmk3]) ?_
    refine cd_sq ?_
    refine rg_dflt (z2 := ([.string .empty, .slice none 0 0, .map none] : List Value)) rfl en_93 (df_AlterPartitionAssignmentsRequestTopic _ _ _) hT3 rfl (fun u4 ht4 => ?_)
    refine at_cd ?_
    refine cd_sq ?_
    refine rg_move rfl rfl ?_
    refine at_cd ?_
    have hR : Rs u4 [.mk 8 0 (-1) (-1) (-1) 0 0 [], .mk 11 0 (-1) (-1) (-1) 0 10 F_sAlterPartitionAssignmentsRequestTopicPartition] [] _ q x3 (.mk 0 [] false (imL F_sAlterPartitionAssignmentsRequestTopic _ q x3 0) (imU F_sAlterPartitionAssignmentsRequestTopic q x3.u)) (tgsB q x3 ++ rest3) v3 [] := Rs.start (F := F_sAlterPartitionAssignmentsRequestTopic) (RSv.mv hvp3 ht4) hnt3
    refine cd_eqH (H' := RdE _ v3 :: mk3 ([] ++ ([.string .empty, .slice none 0 0, .map none] : List Value)) :: _) rfl ?_
    refine cd_sq ?_
    refine cd_sq ?_
    refine rg_const rfl ?_
    refine at_cd ?_
    refine st_str (z := .string .empty) hR (hasB_all hv0) rfl rfl rfl en_77 en_78 (fun h => Fc.of (by decide) (by decide) (by decide) (sc_cstr _ h _)) (fun h => Fc.of (by decide) (by decide) (by decide) (sc_str _ h _)) rfl hT3 rfl Tryz.underlying137 rfl tistring.size rfl (po_eq (show 0 = 0 + fszs _ by kernel_rfl)) tistring.size rfl rfl rfl rfl rfl (fun u5 v5 done5 ht5 hR => ?_)
    refine at_cd ?_
    refine cd_sq ?_
    refine st_list (zc := ([.int .i32 0, .slice none 0 0, .map none] : List Value)) hR (hasB_all hv0) (by decide) rfl rfl rfl hT3 rfl Tryz.underlying137 rfl tiSl_kmsg_AlterPartitionAssignmentsRequestTopicPartition.size rfl (po_eq (show 1 = 0 + fszs _ by kernel_rfl)) tiSl_kmsg_AlterPartitionAssignmentsRequestTopicPartition.size Tryz.underlying135 Tryz.underlying21 tipub_kmsg_AlterPartitionAssignmentsRequestTopicPartition rfl rfl (by kernel_rfl) (by decide) (by decide) (fun q hq => .inr (hO_push hT (fun q hq => .inl (by simpa [Ent.blk] using hq)) _ q hq)) (fun z => part_pos (plain_pos (by decide) (by decide) (by decide) (hasB_all hv0))) rfl rfl rfl rfl rfl rfl rfl rfl rfl rfl rfl rfl rfl (keysT.at_ hk3 _) (fun gb6 cap6 m6 i6 x6 u6 v6 xs6 rest6 N6 X6 hi6 hm6 hk6 ht6 hxl6 hv6 kb6 => ?_) (fun uu6 vv6 done6 hh6 hR => ?_)
    · skip
      have hnt6 : ntFs F_sAlterPartitionAssignmentsRequestTopicPartition = true := by kernel_rfl
      have hvp6 := RSv.el hnt6 hv6
      refine cd_sq ?_
      refine rg_ix rfl rfl hi6 Tryz.underlying135 tipub_kmsg_AlterPartitionAssignmentsRequestTopicPartition.size rfl ?_
      refine at_cd ?_
      obtain ⟨mk6, hmk6⟩ : ∃ mk : List Value → Ent, mk = fun w => .row (.slice (some ⟨gb6, 0, none⟩) m6 cap6) 141 3 m6 (xs6 ++ (w ++ (List.replicate (m6 - (i6 + 1)) ([.int .i32 0, .slice none 0 0, .map none] : List Value)).flatten)) := ⟨_, rfl⟩
      have hT6 : Tgt mk6 gb6 (0 + i6 * 3) 3 := by rw [hmk6]; exact (Tgt.row gb6 cap6 m6 3 141).mid _ _ _ _ (list_fits hi6 hxl6 rfl) (by rw [hxl6])
      refine cd_eqH (H' := RdE _ v6 :: mk6 ([.int .i32 0, .slice none 0 0, .map none] : List Value) :: _) (by rw [hmk6]) ?_
      refine cd_sq ?_
      refine rg_dflt (z2 := ([.int .i32 0, .slice none 0 0, .map none] : List Value)) rfl en_94 (df_AlterPartitionAssignmentsRequestTopicPartition _ _ _) hT6 rfl (fun u7 ht7 => ?_)
      refine at_cd ?_
      refine cd_sq ?_
      refine rg_move rfl rfl ?_
      refine at_cd ?_
      have hR : Rs u7 [.mk 3 0 (-1) (-1) (-1) 0 0 [], .mk 11 0 (-1) 0 (-1) 0 3 []] [] _ q x6 (.mk 0 [] false (imL F_sAlterPartitionAssignmentsRequestTopicPartition _ q x6 0) (imU F_sAlterPartitionAssignmentsRequestTopicPartition q x6.u)) (tgsB q x6 ++ rest6) v6 [] := Rs.start (F := F_sAlterPartitionAssignmentsRequestTopicPartition) (RSv.mv hvp6 ht7) hnt6
      refine cd_eqH (H' := RdE _ v6 :: mk6 ([] ++ ([.int .i32 0, .slice none 0 0, .map none] : List Value)) :: _) rfl ?_
      refine cd_sq ?_
      refine st_num (z := .int .i32 0) hR (hasB_all hv0) rfl en_86 (Fc.num (by decide) (by decide) (by decide) (fun null => sc_i32 null _ _)) rfl hT6 rfl Tryz.underlying141 rfl tiint32.size rfl (po_eq (show 0 = 0 + fszs _ by kernel_rfl)) tiint32.size rfl rfl (fun u8 v8 done8 ht8 hR => ?_)
      refine at_cd ?_
      refine cd_sq ?_
      refine st_listN (zc := ([.int .i32 0] : List Value)) hR (hasB_all hv0) (by decide) (by omega) rfl rfl rfl rfl hT6 rfl Tryz.underlying141 rfl tiSl_int32.size rfl (po_eq (show 1 = 0 + fszs _ by kernel_rfl)) tiSl_int32.size Tryz.underlying139 Tryz.underlying21 tiint32 rfl rfl (by kernel_rfl) (by decide) (by decide) (fun q hq => .inr (hO_push hT3 (fun q hq => .inr (hO_push hT (fun q hq => .inl (by simpa [Ent.blk] using hq)) _ q hq)) _ q hq)) (fun z => by simp only [valueB]; rw [if_neg (by decide)]; exact scalar_pos _ _ _ _) rfl rfl rfl rfl rfl rfl rfl rfl rfl rfl rfl rfl rfl rfl rfl (keysT.at_ hk6 _) (fun gb9 cap9 m9 i9 x9 u9 v9 xs9 rest9 N9 X9 hi9 hm9 hk9 ht9 hxl9 hv9 kb9 => ?_) (fun uu9 vv9 done9 hh9 hR => ?_)
      · skip
        refine st_elem (ez := 1) (by decide) rfl en_86 (sc_i32 false _ _) hv9 rfl rfl hi9 (by rw [hxl9]) (by simp) Tryz.underlying139 tiint32.size rfl rfl (fun u v c ht hE hv => ?_)
        exact kb9 _ _ _ ht hE hv
      refine at_cd ?_
      refine st_tags (F := F_sAlterPartitionAssignmentsRequestTopicPartition) hnt6 hR (keysT.open hk6).1 rfl rfl rfl hT6 rfl Tryz.underlying141 rfl tipub_kmsg_Tags.size rfl (po_eq (show 2 = 0 + fszs _ by kernel_rfl)) tipub_kmsg_Tags.size rfl rfl (fun u10 v10 cs10 ht10 hv hM => ?_)
      refine at_eqH (H' := RdE _ _ :: .row (.slice (some ⟨gb6, 0, none⟩) m6 cap6) 141 3 m6 (xs6 ++ (_ ++ (List.replicate (m6 - (i6 + 1)) ([.int .i32 0, .slice none 0 0, .map none] : List Value)).flatten)) :: _) (by rw [hmk6]) ?_
      exact at_sub (.skip rfl (.skip rfl .rfl')) (kb6 _ _ _ (((ht7.trans ht8).trans hh9).trans ht10) (REl_part hM) hv)
    refine at_cd ?_
    refine st_tags (F := F_sAlterPartitionAssignmentsRequestTopic) hnt3 hR (keysT.open hk3).1 rfl rfl rfl hT3 rfl Tryz.underlying137 rfl tipub_kmsg_Tags.size rfl (po_eq (show 2 = 0 + fszs _ by kernel_rfl)) tipub_kmsg_Tags.size rfl rfl (fun u11 v11 cs11 ht11 hv hM => ?_)
    refine at_eqH (H' := RdE _ _ :: .row (.slice (some ⟨gb3, 0, none⟩) m3 cap3) 137 3 m3 (xs3 ++ (_ ++ (List.replicate (m3 - (i3 + 1)) ([.string .empty, .slice none 0 0, .map none] : List Value)).flatten)) :: _) (by rw [hmk3]) ?_
    exact at_sub (.skip rfl (.skip rfl .rfl')) (kb3 _ _ _ (((ht4.trans ht5).trans hh6).trans ht11) (REl_part hM) hv)
  refine at_cd ?_
  refine cd_sq ?_
  refine st_tags (F := F_AlterPartitionAssignmentsRequest) hnt hR (keysT.open hk).1 rfl rfl rfl hT rfl Tryz.underlying94 rfl tipub_kmsg_Tags.size rfl (po_eq (show 4 = 1 + fszs _ by kernel_rfl)) tipub_kmsg_Tags.size rfl rfl (fun u12 v12 cs12 ht12 hv hM => ?_)
  refine at_cd ?_
  refine cd_sr ?_
  refine ln_callT (i := 0) (vals := [.pointer (some ⟨br, 0, none⟩)]) en_82 rfl rfl (fun u hu hok hav => rd_Complete u br _ hok hav) rfl ?_
  rintro u9 _ _ ht9 ⟨ux9, ⟨rfl, rfl⟩, hx9⟩
  refine ln_pv (pv_assign rfl) rfl ?_
  refine ln_cd ?_
  refine cd_ret ?_
  exact at_retT (i := 1) rfl rfl rfl (fun w hS => ⟨rfl, _, by rw [hmk], (hM.mv ht9).mv (hS.trFinT _ _)⟩)
theorem newp_AlterPartitionAssignmentsRequest (t : Vw) (hok : HF [] t.w) (hav : ∀ q ∈ blks [], t.av q) (hnd : (blks []).Nodup) : CH Tryz.prog 35 [] t [] fun u r E' => ∃ b, r = .pointer (some ⟨b, 0, none⟩) ∧ E' = [MsgBox b 94 [.int .i16 0, .int .i32 60000, .bool true, .slice none 0 0, .map none]] := by
  refine ch_enter Tryz.func35 rfl Tryz.ntmps35 rfl hok hav hnd ?_
  refine cd_sr ?_
  refine ln_pv (pv_assign rfl) rfl ?_
  refine ln_cd ?_
  refine cd_sr ?_
  refine ln_alloc tipub_kmsg_AlterPartitionAssignmentsRequest rfl rfl (fun b => ?_)
  refine ln_cd ?_
  refine cd_sr ?_
  refine ln_callT (i := 0) en_63 rfl rfl (fun u hu hok hav => df_AlterPartitionAssignmentsRequest _ _ _ _ _ (fun w => .obj b (.cells w.toArray 94)) b 0 (Tgt.obj b 94 5) u hok hav) rfl ?_
  rintro u1 _ _ ht1 ⟨_, ⟨rfl, rfl⟩, _⟩
  refine ln_cd ?_
  refine cd_sr ?_
  refine ln_pv (pv_assign rfl) rfl ?_
  refine ln_cd ?_
  refine cd_ret ?_
  exact at_retHq [MsgBox b 94 [.int .i16 0, .int .i32 60000, .bool true, .slice none 0 0, .map none]] (List.Sublist.refl _) rfl rfl (fun w hS => ⟨b, rfl, rfl⟩)
theorem setd_AlterPartitionAssignmentsRequest (t : Vw) (b : Nat) (v : Int) (hok : (MsgBox b 94 [.int .i16 0, .int .i32 60000, .bool true, .slice none 0 0, .map none]).ok t.w) (hav : ∀ q ∈ (MsgBox b 94 [.int .i16 0, .int .i32 60000, .bool true, .slice none 0 0, .map none]).blk, t.av q) : CT Tryz.prog 38 [.pointer (some ⟨b, 0, none⟩), .int .i16 v] t (MsgBox b 94 [.int .i16 0, .int .i32 60000, .bool true, .slice none 0 0, .map none]) fun u r e' => e' = MsgBox b 94 [.int .i16 v, .int .i32 60000, .bool true, .slice none 0 0, .map none] := by
  refine ct_enter Tryz.func38 rfl Tryz.ntmps38 rfl hok hav (by simp [Ent.blk]) ?_
  refine cd_region ?_
  refine ln_pv (pv_move rfl) rfl ?_
  refine ln_pv (pv_move rfl) rfl ?_
  refine ln_pv (pv_nilCheck rfl) rfl ?_
  refine ln_pv (pv_fieldAddr (off := 0) (r := 0) Tryz.underlying94 rfl (tiint16).size rfl rfl rfl) rfl ?_
  refine ln_store1 (i := 0) rfl rfl rfl rfl (tiint16).size rfl ?_
  refine ln_nil ?_
  exact at_retT0 (i := 0) rfl rfl (fun w hS => rfl)
theorem readf_AlterPartitionAssignmentsRequest (t : Vw) (b : Nat) (v : Int) (x : Tre) (sv : Value) (hsv : RSv t sv (partB F_AlterPartitionAssignmentsRequest v (flexB 0 v) x)) (hk : keysT x) (h0 : 0 ≤ v) (h1 : v ≤ 1) (hok : (MsgBox b 94 (.int .i16 v :: ([.int .i32 60000, .bool true, .slice none 0 0, .map none] : List Value))).ok t.w) (hav : ∀ q ∈ (MsgBox b 94 (.int .i16 v :: ([.int .i32 60000, .bool true, .slice none 0 0, .map none] : List Value))).blk, t.av q) : CT Tryz.prog 39 [.pointer (some ⟨b, 0, none⟩), sv] t (MsgBox b 94 (.int .i16 v :: ([.int .i32 60000, .bool true, .slice none 0 0, .map none] : List Value))) fun u r e' => r = .nilIface ∧ ∃ cells, e' = MsgBox b 94 (.int .i16 v :: cells) ∧ RMp u F_AlterPartitionAssignmentsRequest (imT F_AlterPartitionAssignmentsRequest v (flexB 0 v) x) cells := by
  refine ct_enter Tryz.func39 rfl Tryz.ntmps39 rfl hok hav (by simp [Ent.blk]) ?_
  refine cd_sr ?_
  refine ln_pv (pv_assign rfl) rfl ?_
  refine ln_cd ?_
  refine cd_sr ?_
  refine ln_pv (pv_move rfl) rfl ?_
  refine ln_pv (pv_move rfl) rfl ?_
  refine ln_callT (i := 0) en_65 rfl rfl (fun u hu hok hav => read_AlterPartitionAssignmentsRequest u b v x sv (RSv.mv hsv hu) hk h0 h1 hok hav) rfl ?_
  rintro u2 _ _ ht2 ⟨ux, ⟨rfl, cells, rfl, hM⟩, hx⟩
  refine ln_pv (pv_assign rfl) rfl ?_
  refine ln_cd ?_
  refine cd_ret ?_
  exact at_retT (i := 0) rfl rfl rfl (fun w hS => ⟨rfl, cells, rfl, (hM.mv hx).mv (hS.trFinT _ _)⟩)
theorem key_AlterPartitionAssignmentsRequest (t : Vw) (b : Nat) : CS Tryz.prog 172 [.pointer (some ⟨b, 0, none⟩)] t (.int .i16 45) := by
  refine CA.cs ?_
  refine ca_enter Tryz.func172 rfl Tryz.ntmps172 rfl ?_
  refine cd_sr ?_
  refine ln_pv (pv_assign rfl) rfl ?_
  refine ln_cd ?_
  refine cd_sr ?_
  refine ln_pv (pv_assign rfl) rfl ?_
  refine ln_cd ?_
  refine cd_ret ?_
  refine at_retA rfl rfl (fun w hS => ?_)
  rfl
theorem getv_AlterPartitionAssignmentsRequest (t : Vw) (b : Nat) (v : Int) (cs : List Value) (hrc : RC t b 0 (.int .i16 v :: cs)) : CS Tryz.prog 170 [.pointer (some ⟨b, 0, none⟩)] t (.int .i16 v) := by
  refine CA.cs ?_
  refine ca_enter Tryz.func170 rfl Tryz.ntmps170 rfl ?_
  refine cd_sr ?_
  refine ln_pv (pv_assign rfl) rfl ?_
  refine ln_cd ?_
  refine cd_sr ?_
  refine ln_pv (pv_move rfl) rfl ?_
  refine ln_pv (pv_nilCheck rfl) rfl ?_
  refine ln_pv (pv_fieldAddr (off := 0)  Tryz.underlying94 rfl (tiint16).size rfl rfl rfl) rfl ?_
  refine ln_pv (pv_ldr (j := 0) hrc Tryz.underlying45 rfl rfl rfl) rfl ?_
  refine ln_pv (pv_assign rfl) rfl ?_
  refine ln_cd ?_
  refine cd_ret ?_
  refine at_retA rfl rfl (fun w hS => ?_)
  rfl
theorem isfl_AlterPartitionAssignmentsRequest (t : Vw) (b : Nat) (v : Int) (cs : List Value) (hrc : RC t b 0 (.int .i16 v :: cs)) : CS Tryz.prog 171 [.pointer (some ⟨b, 0, none⟩)] t (.bool (flexB 0 v)) := by
  refine CA.cs ?_
  refine ca_enter Tryz.func171 rfl Tryz.ntmps171 rfl ?_
  refine cd_sr ?_
  refine ln_pv (pv_assign rfl) rfl ?_
  refine ln_cd ?_
  refine cd_sr ?_
  refine ln_pv (pv_move rfl) rfl ?_
  refine ln_pv (pv_nilCheck rfl) rfl ?_
  refine ln_pv (pv_fieldAddr (off := 0)  Tryz.underlying94 rfl (tiint16).size rfl rfl rfl) rfl ?_
  refine ln_pv (pv_ldr (j := 0) hrc Tryz.underlying45 rfl rfl rfl) rfl ?_
  refine ln_pv (pv_geq rfl rfl) rfl ?_
  refine ln_pv (pv_assign rfl) rfl ?_
  refine ln_cd ?_
  refine cd_ret ?_
  refine at_retA rfl rfl (fun w hS => ?_)
  simp [flexB]
theorem mt_Key_AlterPartitionAssignmentsRequest : MtOf Tryz.prog 59 "Key" 172 := mt_of (b := true) (by kernel_rfl) Tryz.underlying59 rfl
theorem mt_GetVersion_AlterPartitionAssignmentsRequest : MtOf Tryz.prog 59 "GetVersion" 170 := mt_of (b := true) (by kernel_rfl) Tryz.underlying59 rfl
theorem mt_IsFlexible_AlterPartitionAssignmentsRequest : MtOf Tryz.prog 59 "IsFlexible" 171 := mt_of (b := true) (by kernel_rfl) Tryz.underlying59 rfl
theorem mt_AppendTo_AlterPartitionAssignmentsRequest : MtOf Tryz.prog 59 "AppendTo" 169 := mt_of (b := true) (by kernel_rfl) Tryz.underlying59 rfl
theorem rq_AlterPartitionAssignmentsRequest (t : Vw) (b : Nat) (v : Int) (x : Tre) (cells : List Value) (hob : OB t b (.cells (.int .i16 v :: cells).toArray 94)) (hM : RMp t F_AlterPartitionAssignmentsRequest (imT F_AlterPartitionAssignmentsRequest v (flexB 0 v) x) cells) (hk : keysT x) (h0 : 0 ≤ v) (h1 : v ≤ 1) : Rq t 59 b 45 v (flexB 0 v) (partB F_AlterPartitionAssignmentsRequest v (flexB 0 v) x) := by
  have him := partB_im (fs := F_AlterPartitionAssignmentsRequest) (by kernel_rfl) (by kernel_rfl) v (flexB 0 v) x
  have hfit := okP_im (fs := F_AlterPartitionAssignmentsRequest) (by kernel_rfl) (by kernel_rfl) v (flexB 0 v) x hk
  refine ⟨⟨_, mt_Key_AlterPartitionAssignmentsRequest, en_172, fun u hu => key_AlterPartitionAssignmentsRequest u b⟩, ⟨_, mt_GetVersion_AlterPartitionAssignmentsRequest, en_170, fun u hu => getv_AlterPartitionAssignmentsRequest u b v cells (hob.mv hu).rc⟩, ⟨_, mt_IsFlexible_AlterPartitionAssignmentsRequest, en_171, fun u hu => isfl_AlterPartitionAssignmentsRequest u b v cells (hob.mv hu).rc⟩, ⟨_, mt_AppendTo_AlterPartitionAssignmentsRequest, en_169, fun u hu vd L0 hB hok hav => ?_⟩⟩
  have h := append_AlterPartitionAssignmentsRequest u b v (imT F_AlterPartitionAssignmentsRequest v (flexB 0 v) x) cells vd L0 (hob.mv hu).rc (hM.mv hu) hfit h0 h1 (by rw [him]; exact hB) hok hav
  rwa [him] at h
theorem frame_AlterPartitionAssignmentsRequest (t : Vw) (v num : Int) (has : Bool) (z : ByteArray) (x : Tre) (sv : Value) (hsv : RSv t sv (partB F_AlterPartitionAssignmentsRequest v (flexB 0 v) x)) (hk : keysT x) (h0 : 0 ≤ v) (h1 : v ≤ 1) (hz : z.size ≤ 32767) (hB : (partB F_AlterPartitionAssignmentsRequest v (flexB 0 v) x).length ≤ 1099511627776) : CA Tryz.prog 19 [.agg [.bool has, .string z].toArray, .int .i32 num, .int .i64 v, sv] t fun u r => ∃ rv, r = .tuple #[rv, .bool true] ∧ RSv u rv (frB 45 v num (idsB has z) (flexB 0 v) (partB F_AlterPartitionAssignmentsRequest v (flexB 0 v) x)) := by
  refine ca_enter Tryz.func19 rfl Tryz.ntmps19 rfl ?_
  refine cd_sr ?_
  refine ln_box (l := [_, _]) rfl rfl rfl (fun bi => ?_)
  refine ln_pv (pv_assign rfl) rfl ?_
  refine ln_pv (pv_assign rfl) rfl ?_
  refine ln_cd ?_
  refine cd_sr ?_
  refine ln_callH (E := []) (H0 := [_]) (List.Perm.refl _) en_35 rfl (fun u hu hok hav hnd => newp_AlterPartitionAssignmentsRequest u hok hav hnd) rfl ?_
  rintro u1 _ _ ht1 ⟨_, ⟨b, rfl, rfl⟩, _⟩
  refine ln_pv (pv_assign rfl) rfl ?_
  refine ln_cd ?_
  refine cd_sr ?_
  refine ln_pv (pv_move rfl) rfl ?_
  refine ln_pv (pv_move rfl) rfl ?_
  refine ln_pv (pv_conv' Tryz.underlying3 Tryz.underlying45 rfl (r := v) (wrap_i16_in (by omega) (by omega))) rfl ?_
  refine ln_callT (i := 0) en_38 rfl rfl (fun u hu hok hav => setd_AlterPartitionAssignmentsRequest u b v hok hav) rfl ?_
  rintro u2 _ _ ht2 ⟨_, rfl, _⟩
  refine ln_cd ?_
  have hsv := hsv.mv (ht1.trans ht2)
  refine cd_seq ?_
  refine cd_sr ?_
  refine ln_pv (pv_move rfl) rfl ?_
  refine ln_pv (pv_move rfl) rfl ?_
  refine ln_nilrow 5 1 ?_
  refine ln_append (i := 0) rfl Tryz.underlying24 tiuint8 rfl (by decide) rfl rfl (RS.src hsv) (by simp only [maxLen]; omega) (by omega) rfl (k' := (partB F_AlterPartitionAssignmentsRequest v (flexB 0 v) x).length) (xs' := u8s (partB F_AlterPartitionAssignmentsRequest v (flexB 0 v) x)) (by omega) (by simp) (fun va hva => ?_)
  refine ln_free1 (fun q h => h.elim) (fun s3 ht3 hK => ?_)
  have hs3 : RSv s3 va (partB F_AlterPartitionAssignmentsRequest v (flexB 0 v) x) := Known.rs hK (u8s_one _)
  clear hK
  refine ln_callT (i := 0) en_39 rfl rfl (fun u hu hok hav => readf_AlterPartitionAssignmentsRequest u b v x _ (RSv.mv hs3 hu) hk h0 h1 hok hav) rfl ?_
  rintro u4 _ _ ht4 ⟨ux4, ⟨rfl, cells, rfl, hM⟩, hx4⟩
  have hM := hM.mv hx4
  refine ln_pv (pv_neqI Tryz.underlying55 rfl) rfl ?_
  refine ln_cd ?_
  refine cd_ff rfl ?_
  refine cd_skip ?_
  refine at_cd ?_
  refine cd_free (fun s9 hs9 hK => ?_)
  have hob : OB s9 b (.cells (.int .i16 v :: cells).toArray 94) := hK _ (List.mem_of_getElem? (i := 0) rfl)
  have hoi : OB s9 bi (.cells [.bool has, .string z].toArray 23) := hK _ (List.mem_of_getElem? (i := 1) rfl)
  clear hK
  have hM := hM.mv hs9
  refine cd_sr ?_
  refine ln_pv (pv_ldR hoi.rc Tryz.underlying23 rfl tiimpl_Id.size rfl rfl) rfl ?_
  refine ln_pv (pv_move rfl) rfl ?_
  refine ln_pv (pv_ifaceP Tryz.underlying59 rfl) rfl ?_
  refine ln_pv (pv_move rfl) rfl ?_
  refine ln_callA en_33 rfl (fun u hu => framed u _ b 45 v num (flexB 0 v) has z _ ((rq_AlterPartitionAssignmentsRequest s9 b v x cells hob hM hk h0 h1).mv hu) (by decide) (by rw [strB_len]; exact hz) hB) rfl (fun u5 v5 ht5 hR5 => ?_)
  refine ln_pv (pv_assign rfl) rfl ?_
  refine ln_pv (pv_assign rfl) rfl ?_
  refine ln_cd ?_
  refine cd_ret ?_
  exact at_retA2 (K := 0) rfl rfl rfl (fun w hS => ⟨v5, rfl, RSv.mv hR5 hS.trFin⟩)
theorem law_AlterPartitionAssignmentsRequest (t : Vw) (n : Nat) (has : Bool) (z : ByteArray) (num : Int) (x : Tre) (cs : List Value) (hn8 : n < 256) (hz : z.size ≤ 1048576) (hn0 : -2147483648 ≤ num) (hn1 : num ≤ 2147483647) (hx : RT t x cs) (hkx : keysT x) (hsm : smT x) (hB : (writeB F_AlterPartitionAssignmentsRequest 0 ((versionN n 1 : Nat) : Int) x).length < 1099511627776) : CS Tryz.prog 4 [.int .u8 (n : Int), .agg #[.bool has, .string z], .int .i32 num, .agg cs.toArray] t (.bool true) := by
  obtain ⟨sS, sL, sU, rfl, hn, hS, ⟨lc, hL, hLs⟩, hU⟩ := hx.open
  obtain ⟨adS, cS, rfl, hleS⟩ := hS.shape
  obtain ⟨adL, cL, rfl, hleL⟩ := hL.shape
  have hU0 := hU
  obtain ⟨uc, hU1, hUs⟩ := hU0
  obtain ⟨hz1, hz2, hz3, hz4⟩ := hsm.open
  have hok := ok_F_AlterPartitionAssignmentsRequest
  have hvn : versionN n 1 ≤ 1 := by have := Nat.mod_lt n (show 0 < 1 + 1 by omega); unfold versionN; omega
  refine CA.cs ?_
  refine ca_enter Tryz.func4 rfl Tryz.ntmps4 rfl ?_
  cases hft : fits1 x with
  | false =>
    refine cd_sr ?_
    refine ln_box rfl rfl rfl (fun b1 => ?_)
    refine ln_box rfl rfl rfl (fun b2 => ?_)
    refine ln_pv (pv_assign rfl) rfl ?_
    refine ln_cd ?_
    refine cd_seq ?_
    refine cd_sr ?_
    refine ln_pv (pv_ldO (i := 1) rfl Tryz.underlying23 rfl (tiimpl_Id).size rfl rfl) rfl ?_
    refine ln_callS en_7 rfl (fun u hu => laws_zzFits4 u has z hz) rfl ?_
    refine ln_pv (pv_not rfl) rfl ?_
    refine ln_pv (pv_move rfl) rfl ?_
    refine ln_gt rfl rfl rfl (pv_ldO (i := 0) rfl Tryz.underlying28 rfl (tispec_Tree).size rfl rfl) rfl ?_
    refine ln_gE rfl rfl rfl ?_
    refine ln_callS en_8 rfl (fun u hu => by have h := laws_zzFits1 u x _ (RT.mv hx hu) (by omega); rwa [hft] at h) rfl ?_
    refine ln_gt rfl rfl rfl (pv_not rfl) rfl ?_
    refine ln_pv (pv_pick rfl (fun _ => rfl) (fun _ => rfl)) rfl ?_
    refine ln_cd ?_
    refine cd_tt rfl ?_
    refine cd_sr ?_
    refine ln_pv (pv_assign rfl) rfl ?_
    refine ln_cd ?_
    refine cd_ret ?_
    refine at_retA rfl rfl (fun w hS => ?_)
    rfl
  | true =>
    by_cases hbig : z.size > 32767
    · skip
      refine cd_sr ?_
      refine ln_box rfl rfl rfl (fun b1 => ?_)
      refine ln_box rfl rfl rfl (fun b2 => ?_)
      refine ln_pv (pv_assign rfl) rfl ?_
      refine ln_cd ?_
      refine cd_seq ?_
      refine cd_sr ?_
      refine ln_pv (pv_ldO (i := 1) rfl Tryz.underlying23 rfl (tiimpl_Id).size rfl rfl) rfl ?_
      refine ln_callS en_7 rfl (fun u hu => laws_zzFits4 u has z hz) rfl ?_
      refine ln_pv (pv_not rfl) rfl ?_
      refine ln_pv (pv_move rfl) rfl ?_
      refine ln_gt rfl rfl rfl (pv_ldO (i := 0) rfl Tryz.underlying28 rfl (tispec_Tree).size rfl rfl) rfl ?_
      refine ln_gE rfl rfl rfl ?_
      refine ln_callS en_8 rfl (fun u hu => by have h := laws_zzFits1 u x _ (RT.mv hx hu) (by omega); rwa [hft] at h) rfl ?_
      refine ln_gt rfl rfl rfl (pv_not rfl) rfl ?_
      refine ln_pv (pv_pick rfl (fun _ => rfl) (fun _ => rfl)) rfl ?_
      refine ln_cd ?_
      refine cd_ff rfl ?_
      refine cd_skip ?_
      refine at_cd ?_
      refine cd_sr ?_
      refine ln_callS en_17 rfl (fun u hu => max_AlterPartitionAssignmentsRequest u) rfl ?_
      refine ln_pv (pv_assign rfl) rfl ?_
      refine ln_cd ?_
      refine cd_seq ?_
      refine cd_sr ?_
      refine ln_pv (pv_move rfl) rfl ?_
      refine ln_pv (pv_ff (pv_lss rfl rfl) (by omega)) rfl ?_
      refine ln_cd ?_
      refine cd_ff rfl ?_
      refine cd_skip ?_
      refine at_cd ?_
      refine cd_sr ?_
      refine ln_callA en_18 rfl (fun u hu => sch_F_AlterPartitionAssignmentsRequest u) rfl (fun u1 v1 ht1 hR1 => ?_)
      have hx := hx.mv ht1
      obtain ⟨sv, lcm, rfl, hVm, hFm⟩ := hR1
      refine ln_pv (pv_move rfl) rfl ?_
      refine ln_pv (pv_move rfl) rfl ?_
      refine ln_callS en_11 rfl (fun u hu => laws_version u n 1 hn8 (by omega)) rfl ?_
      refine ln_alloc tispec_Message rfl rfl (fun b3 => ?_)
      refine ln_storeW (i := 0) rfl rfl rfl rfl (tispec_Message).size rfl (by simp [(RS.one hVm)]) ?_
      refine ln_pv (pv_assign rfl) rfl ?_
      refine ln_cd ?_
      refine cd_seq ?_
      refine cd_sr ?_
      refine ln_pv (pv_fieldAddr (off := 1) (r := 1) Tryz.underlying23 rfl (tistring).size rfl rfl rfl) rfl ?_
      refine ln_pv (pv_ldo (i := 2) rfl Tryz.underlying9 rfl rfl rfl) rfl ?_
      refine ln_pv (pv_len_str Tryz.underlying9 rfl) rfl ?_
      refine ln_pv (pv_tt (pv_gtr rfl rfl) (by omega)) rfl ?_
      refine ln_cd ?_
      refine cd_tt rfl ?_
      refine cd_sr ?_
      refine ln_pv (pv_assign rfl) rfl ?_
      refine ln_cd ?_
      refine cd_ret ?_
      refine at_retA rfl rfl (fun w hS => ?_)
      rfl
    · skip
      refine cd_sr ?_
      refine ln_box rfl rfl rfl (fun b1 => ?_)
      refine ln_box rfl rfl rfl (fun b2 => ?_)
      refine ln_pv (pv_assign rfl) rfl ?_
      refine ln_cd ?_
      refine cd_seq ?_
      refine cd_sr ?_
      refine ln_pv (pv_ldO (i := 1) rfl Tryz.underlying23 rfl (tiimpl_Id).size rfl rfl) rfl ?_
      refine ln_callS en_7 rfl (fun u hu => laws_zzFits4 u has z hz) rfl ?_
      refine ln_pv (pv_not rfl) rfl ?_
      refine ln_pv (pv_move rfl) rfl ?_
      refine ln_gt rfl rfl rfl (pv_ldO (i := 0) rfl Tryz.underlying28 rfl (tispec_Tree).size rfl rfl) rfl ?_
      refine ln_gE rfl rfl rfl ?_
      refine ln_callS en_8 rfl (fun u hu => by have h := laws_zzFits1 u x _ (RT.mv hx hu) (by omega); rwa [hft] at h) rfl ?_
      refine ln_gt rfl rfl rfl (pv_not rfl) rfl ?_
      refine ln_pv (pv_pick rfl (fun _ => rfl) (fun _ => rfl)) rfl ?_
      refine ln_cd ?_
      refine cd_ff rfl ?_
      refine cd_skip ?_
      refine at_cd ?_
      refine cd_sr ?_
      refine ln_callS en_17 rfl (fun u hu => max_AlterPartitionAssignmentsRequest u) rfl ?_
      refine ln_pv (pv_assign rfl) rfl ?_
      refine ln_cd ?_
      refine cd_seq ?_
      refine cd_sr ?_
      refine ln_pv (pv_move rfl) rfl ?_
      refine ln_pv (pv_ff (pv_lss rfl rfl) (by omega)) rfl ?_
      refine ln_cd ?_
      refine cd_ff rfl ?_
      refine cd_skip ?_
      refine at_cd ?_
      refine cd_sr ?_
      refine ln_callA en_18 rfl (fun u hu => sch_F_AlterPartitionAssignmentsRequest u) rfl (fun u1 v1 ht1 hR1 => ?_)
      have hx := hx.mv ht1
      obtain ⟨sv, lcm, rfl, hVm, hFm⟩ := hR1
      refine ln_pv (pv_move rfl) rfl ?_
      refine ln_pv (pv_move rfl) rfl ?_
      refine ln_callS en_11 rfl (fun u hu => laws_version u n 1 hn8 (by omega)) rfl ?_
      refine ln_alloc tispec_Message rfl rfl (fun b3 => ?_)
      refine ln_storeW (i := 0) rfl rfl rfl rfl (tispec_Message).size rfl (by simp [(RS.one hVm)]) ?_
      refine ln_pv (pv_assign rfl) rfl ?_
      refine ln_cd ?_
      refine cd_seq ?_
      refine cd_sr ?_
      refine ln_pv (pv_fieldAddr (off := 1) (r := 1) Tryz.underlying23 rfl (tistring).size rfl rfl rfl) rfl ?_
      refine ln_pv (pv_ldo (i := 2) rfl Tryz.underlying9 rfl rfl rfl) rfl ?_
      refine ln_pv (pv_len_str Tryz.underlying9 rfl) rfl ?_
      refine ln_pv (pv_ff (pv_gtr rfl rfl) (by omega)) rfl ?_
      refine ln_cd ?_
      refine cd_ff rfl ?_
      refine cd_skip ?_
      refine at_cd ?_
      refine cd_sr ?_
      refine ln_pv (pv_ldO (i := 0) rfl Tryz.underlying34 rfl (tispec_Message).size rfl rfl) rfl ?_
      refine ln_pv (pv_move rfl) rfl ?_
      refine ln_pv (pv_ldO (i := 1) rfl Tryz.underlying28 rfl (tispec_Tree).size rfl rfl) rfl ?_
      refine ln_callA en_12 rfl (fun u hu => spec_Write F_AlterPartitionAssignmentsRequest 0 hok.1 hok.2.2 u _ _ _ ((versionN n 1 : Nat) : Int) x (RS.mv hVm hu) (RFs.mv hFm hu) (RT.mv hx hu) hsm hB) rfl (fun u2 v2 ht2 hR2 => ?_)
      have hx := hx.mv ht2
      have hVm := hVm.mv ht2
      have hFm := hFm.mv ht2
      refine ln_pv (pv_assign rfl) rfl ?_
      refine ln_cd ?_
      refine cd_sr ?_
      refine ln_pv (pv_ldO (i := 2) rfl Tryz.underlying23 rfl (tiimpl_Id).size rfl rfl) rfl ?_
      refine ln_pv (pv_move rfl) rfl ?_
      refine ln_pv (pv_move rfl) rfl ?_
      refine ln_pv (pv_move rfl) rfl ?_
      refine ln_callA en_19 rfl (fun u hu => frame_AlterPartitionAssignmentsRequest u ((versionN n 1 : Nat) : Int) num has z x _ (RSv.mv hR2 hu) hkx (by omega) (by omega) (by omega) (by rw [show partB F_AlterPartitionAssignmentsRequest ((versionN n 1 : Nat) : Int) (flexB 0 ((versionN n 1 : Nat) : Int)) x = writeB F_AlterPartitionAssignmentsRequest 0 ((versionN n 1 : Nat) : Int) x from rfl]; omega)) rfl (fun u3 v3 ht3 hR3 => ?_)
      have hx := hx.mv ht3
      have hVm := hVm.mv ht3
      have hFm := hFm.mv ht3
      have hR2 := hR2.mv ht3
      obtain ⟨rv, rfl, hV⟩ := hR3
      refine ln_pv (pv_move rfl) rfl ?_
      refine ln_pv (pv_extract rfl rfl) rfl ?_
      refine ln_pv (pv_extract rfl rfl) rfl ?_
      refine ln_pv (pv_assign rfl) rfl ?_
      refine ln_pv (pv_assign rfl) rfl ?_
      refine ln_cd ?_
      refine cd_dr2 [0, 1, 2] [0, 1, 2, 3, 4, 5, 6, 7, 8, 10, 11, 13, 16, 17] [0, 1, 2, 3, 4, 5, 6, 7, 8, 10, 11, 13] 9 12 [12, 14, 15, 16, 17] [9, 14, 15, 16, 17] mixed (by kernel_rfl) ?_
      refine lo_pv rfl rfl (sk_js (Tr.refl _) [0, 1, 2] rfl) (pv_move rfl) rfl ?_
      refine lo_pv rfl rfl (sk_js (Tr.refl _) [0, 1, 2] rfl) (pv_move rfl) rfl ?_
      refine lo_gt rfl rfl (sk_js (Tr.refl _) [0, 1, 2] rfl) rfl rfl rfl (pv_move rfl) rfl ?_
      refine lo_gt rfl rfl (sk_js (Tr.refl _) [0, 1, 2] rfl) rfl rfl rfl (pv_move rfl) rfl ?_
      refine lo_gt rfl rfl (sk_js (Tr.refl _) [0, 1, 2] rfl) rfl rfl rfl (pv_move rfl) rfl ?_
      refine lo_gt rfl rfl (sk_js (Tr.refl _) [0, 1, 2] rfl) rfl rfl rfl (pv_fieldAddr (off := 0) (r := 0) Tryz.underlying23 rfl (tibool).size rfl rfl rfl) rfl ?_
      refine lo_gt rfl rfl (sk_js (Tr.refl _) [0, 1, 2] rfl) rfl rfl rfl (pv_ldo (i := 2) rfl Tryz.underlying4 rfl rfl rfl) rfl ?_
      refine lo_gt rfl rfl (sk_js (Tr.refl _) [0, 1, 2] rfl) rfl rfl rfl (pv_fieldAddr (off := 1) (r := 1) Tryz.underlying23 rfl (tistring).size rfl rfl rfl) rfl ?_
      refine lo_gt rfl rfl (sk_js (Tr.refl _) [0, 1, 2] rfl) rfl rfl rfl (pv_ldo (i := 2) rfl Tryz.underlying9 rfl rfl rfl) rfl ?_
      refine lo_gt rfl rfl (sk_js (Tr.refl _) [0, 1, 2] rfl) rfl rfl rfl (pv_ldO (i := 0) rfl Tryz.underlying34 rfl (tispec_Message).size rfl rfl) rfl ?_
      refine lo_gt rfl rfl (sk_js (Tr.refl _) [0, 1, 2] rfl) rfl rfl rfl (pv_move rfl) rfl ?_
      refine lo_gt rfl rfl (sk_js (Tr.refl _) [0, 1, 2] rfl) rfl rfl rfl (pv_move rfl) rfl ?_
      refine lo_nil (at_two ?_ ?_)
      · skip
        refine lo_eff rfl rfl ?_
        refine ln_gE rfl rfl rfl ?_
        refine ln_s2b Tryz.underlying9 Tryz.underlying24 Tryz.underlying5 rfl rfl (fun bS4 cS4 zS4 fS4 hcS4 => ?_)
        refine ln_free1 (fun q h => h.elim) (fun sS4 htS4 hKS4 => ?_)
        have hsS4 := rs_of_obj hKS4 hcS4
        clear hKS4
        have hx := hx.mv htS4
        have hVm := hVm.mv htS4
        have hFm := hFm.mv htS4
        have hR2 := hR2.mv htS4
        have hV := hV.mv htS4
        refine lo_back (sk_js htS4 [0, 1, 2] rfl) ?_
        refine lo_eff rfl rfl ?_
        refine ln_gE rfl rfl rfl ?_
        refine ln_callS en_16 rfl (fun u hu => spec_Flexible u _ _ _ 0 ((versionN n 1 : Nat) : Int) (RS.mv hVm hu)) rfl ?_
        refine lo_back (sk_js htS4 [0, 1, 2] rfl) ?_
        refine lo_eff rfl rfl ?_
        refine ln_gE rfl rfl rfl ?_
        refine ln_callA en_15 rfl (fun u hu => spec_Frame u 45 ((versionN n 1 : Nat) : Int) num has (flexB 0 ((versionN n 1 : Nat) : Int)) _ _ (strB z) (writeB F_AlterPartitionAssignmentsRequest 0 ((versionN n 1 : Nat) : Int) x) (RSv.mv hsS4 hu) (RSv.mv hR2 hu) hn0 hn1 (by rw [strB_len]; omega) (by omega)) rfl (fun u5 v5 ht5 hR5 => ?_)
        have hx := hx.mv ht5
        have hVm := hVm.mv ht5
        have hFm := hFm.mv ht5
        have hR2 := hR2.mv ht5
        have hV := hV.mv ht5
        have hsS4 := hsS4.mv ht5
        refine lo_back (sk_js (htS4.trans ht5) [0, 1, 2] rfl) ?_
        refine lo_eff rfl rfl ?_
        refine ln_gE rfl rfl rfl ?_
        refine ln_callS en_14 rfl (fun u hu => by have h := spec_Same u _ _ (frB 45 ((versionN n 1 : Nat) : Int) num (idsB has z) (flexB 0 ((versionN n 1 : Nat) : Int)) (writeB F_AlterPartitionAssignmentsRequest 0 ((versionN n 1 : Nat) : Int) x)) (frB 45 ((versionN n 1 : Nat) : Int) num (idsB has z) (flexB 0 ((versionN n 1 : Nat) : Int)) (writeB F_AlterPartitionAssignmentsRequest 0 ((versionN n 1 : Nat) : Int) x)) (RSv.mv hV hu) (RSv.mv hR5 hu) (by have := frB_le (key := 45) (v := ((versionN n 1 : Nat) : Int)) (num := num) (has := has) (fl := flexB 0 ((versionN n 1 : Nat) : Int)) (body := writeB F_AlterPartitionAssignmentsRequest 0 ((versionN n 1 : Nat) : Int) x) (z := z) (by omega); omega); rwa [decide_eq_true rfl] at h) rfl ?_
        refine lo_back (sk_js (htS4.trans ht5) [0, 1, 2] rfl) ?_
        refine lo_pv rfl rfl (sk_js (htS4.trans ht5) [0, 1, 2] rfl) (pv_pick rfl (fun _ => rfl) (fun _ => rfl)) rfl ?_
        refine lo_pv rfl rfl (sk_js (htS4.trans ht5) [0, 1, 2] rfl) (pv_assign rfl) rfl ?_
        refine lo_cd ?_
        refine cd_ret ?_
        refine at_retA rfl rfl (fun w hS => ?_)
        rfl
      · skip
        refine lo_eff rfl rfl ?_
        refine ln_gE rfl rfl rfl ?_
        refine ln_callS en_16 rfl (fun u hu => spec_Flexible u _ _ _ 0 ((versionN n 1 : Nat) : Int) (RS.mv hVm hu)) rfl ?_
        refine lo_back (sk_js (Tr.refl _) [0, 1, 2] rfl) ?_
        refine lo_eff rfl rfl ?_
        refine ln_gE rfl rfl rfl ?_
        refine ln_s2b Tryz.underlying9 Tryz.underlying24 Tryz.underlying5 rfl rfl (fun bS6 cS6 zS6 fS6 hcS6 => ?_)
        refine ln_free1 (fun q h => h.elim) (fun sS6 htS6 hKS6 => ?_)
        have hsS6 := rs_of_obj hKS6 hcS6
        clear hKS6
        have hx := hx.mv htS6
        have hVm := hVm.mv htS6
        have hFm := hFm.mv htS6
        have hR2 := hR2.mv htS6
        have hV := hV.mv htS6
        refine lo_back (sk_js htS6 [0, 1, 2] rfl) ?_
        refine lo_eff rfl rfl ?_
        refine ln_gE rfl rfl rfl ?_
        refine ln_callA en_15 rfl (fun u hu => spec_Frame u 45 ((versionN n 1 : Nat) : Int) num has (flexB 0 ((versionN n 1 : Nat) : Int)) _ _ (strB z) (writeB F_AlterPartitionAssignmentsRequest 0 ((versionN n 1 : Nat) : Int) x) (RSv.mv hsS6 hu) (RSv.mv hR2 hu) hn0 hn1 (by rw [strB_len]; omega) (by omega)) rfl (fun u7 v7 ht7 hR7 => ?_)
        have hx := hx.mv ht7
        have hVm := hVm.mv ht7
        have hFm := hFm.mv ht7
        have hR2 := hR2.mv ht7
        have hV := hV.mv ht7
        have hsS6 := hsS6.mv ht7
        refine lo_back (sk_js (htS6.trans ht7) [0, 1, 2] rfl) ?_
        refine lo_eff rfl rfl ?_
        refine ln_gE rfl rfl rfl ?_
        refine ln_callS en_14 rfl (fun u hu => by have h := spec_Same u _ _ (frB 45 ((versionN n 1 : Nat) : Int) num (idsB has z) (flexB 0 ((versionN n 1 : Nat) : Int)) (writeB F_AlterPartitionAssignmentsRequest 0 ((versionN n 1 : Nat) : Int) x)) (frB 45 ((versionN n 1 : Nat) : Int) num (idsB has z) (flexB 0 ((versionN n 1 : Nat) : Int)) (writeB F_AlterPartitionAssignmentsRequest 0 ((versionN n 1 : Nat) : Int) x)) (RSv.mv hV hu) (RSv.mv hR7 hu) (by have := frB_le (key := 45) (v := ((versionN n 1 : Nat) : Int)) (num := num) (has := has) (fl := flexB 0 ((versionN n 1 : Nat) : Int)) (body := writeB F_AlterPartitionAssignmentsRequest 0 ((versionN n 1 : Nat) : Int) x) (z := z) (by omega); omega); rwa [decide_eq_true rfl] at h) rfl ?_
        refine lo_back (sk_js (htS6.trans ht7) [0, 1, 2] rfl) ?_
        refine lo_pv rfl rfl (sk_js (htS6.trans ht7) [0, 1, 2] rfl) (pv_pick rfl (fun _ => rfl) (fun _ => rfl)) rfl ?_
        refine lo_pv rfl rfl (sk_js (htS6.trans ht7) [0, 1, 2] rfl) (pv_assign rfl) rfl ?_
        refine lo_cd ?_
        refine cd_ret ?_
        refine at_retA rfl rfl (fun w hS => ?_)
        rfl
theorem fn_AlterPartitionAssignmentsRequest (t : Vw) (n : Nat) (has : Bool) (z : ByteArray) (num : Int) (x : Tre) (cs : List Value) (hn : n < 256) (hz : z.size ≤ 1048576) (hn0 : -2147483648 ≤ num) (hn1 : num ≤ 2147483647) (hx : RT t x cs) (hw : wt x ≤ 1048576) : CS Tryz.prog 4 [.int .u8 (n : Int), .agg #[.bool has, .string z], .int .i32 num, .agg cs.toArray] t (.bool true) := by
  have hok := ok_F_AlterPartitionAssignmentsRequest
  exact law_AlterPartitionAssignmentsRequest t n has z num x cs hn hz hn0 hn1 hx hx.keys (smT_wt x (by omega)) (writeB_len _ _ _ x hok.1 hx.keys hw (of_decide_eq_true (by kernel_rfl)))
end K
end Go.Proofs.YtnolhlnncbajdaaGreatDoorR
