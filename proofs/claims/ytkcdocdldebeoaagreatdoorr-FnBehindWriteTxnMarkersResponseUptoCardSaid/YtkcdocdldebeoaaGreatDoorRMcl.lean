import Derived.Test.YtkcdocdldebeoaaGreatDoorRVa
import Derived.Test.YtkcdocdldebeoaaGreatDoorRMcp
import Derived.Test.YtkcdocdldebeoaaGreatDoorRP4
import Derived.Test.YtkcdocdldebeoaaGreatDoorRS10
set_option linter.unusedVariables false
set_option linter.unusedSimpArgs false
namespace Go.Proofs.YtkcdocdldebeoaaGreatDoorR
namespace K
open Go Go.Lib
theorem df_WriteTxnMarkersResponse (z0 z1 z2 : Value) : DfC 135 [z0, z1, z2] [z0, z1, z2] := by
  intro mk b o hT t hok hav
  refine ct_enter Tryz.func135 rfl Tryz.ntmps135 rfl hok hav (by rw [hT.blk]; simp) ?_
  refine cd_skip ?_
  exact at_retT0 (i := 0) rfl rfl (fun w hS => ⟨rfl, rfl⟩)
theorem df_WriteTxnMarkersResponseMarker (z0 z1 z2 : Value) : DfC 196 [z0, z1, z2] [z0, z1, z2] := by
  intro mk b o hT t hok hav
  refine ct_enter Tryz.func196 rfl Tryz.ntmps196 rfl hok hav (by rw [hT.blk]; simp) ?_
  refine cd_skip ?_
  exact at_retT0 (i := 0) rfl rfl (fun w hS => ⟨rfl, rfl⟩)
theorem df_WriteTxnMarkersResponseMarkerTopic (z0 z1 z2 : Value) : DfC 197 [z0, z1, z2] [z0, z1, z2] := by
  intro mk b o hT t hok hav
  refine ct_enter Tryz.func197 rfl Tryz.ntmps197 rfl hok hav (by rw [hT.blk]; simp) ?_
  refine cd_skip ?_
  exact at_retT0 (i := 0) rfl rfl (fun w hS => ⟨rfl, rfl⟩)
theorem df_WriteTxnMarkersResponseMarkerTopicPartition (z0 z1 z2 : Value) : DfC 198 [z0, z1, z2] [z0, z1, z2] := by
  intro mk b o hT t hok hav
  refine ct_enter Tryz.func198 rfl Tryz.ntmps198 rfl hok hav (by rw [hT.blk]; simp) ?_
  refine cd_skip ?_
  exact at_retT0 (i := 0) rfl rfl (fun w hS => ⟨rfl, rfl⟩)
theorem read_WriteTxnMarkersResponse (t : Vw) (b : Nat) (v : Int) (x : Tre) (sv : Value) (hsv : RSv t sv (partB F_WriteTxnMarkersResponse v (flexB 1 v) x)) (hk : keysT x) (h0 : 0 ≤ v) (h1 : v ≤ 2) (hok : (MsgBox b 151 (.int .i16 v :: ([.slice none 0 0, .map none] : List Value))).ok t.w) (hav : ∀ q ∈ (MsgBox b 151 (.int .i16 v :: ([.slice none 0 0, .map none] : List Value))).blk, t.av q) : CT Tryz.prog 137 [.pointer (some ⟨b, 0, none⟩), sv, .bool false] t (MsgBox b 151 (.int .i16 v :: ([.slice none 0 0, .map none] : List Value))) fun u r e' => r = .nilIface ∧ ∃ cells, e' = MsgBox b 151 (.int .i16 v :: cells) ∧ RMp u F_WriteTxnMarkersResponse (imT F_WriteTxnMarkersResponse v (flexB 1 v) x) cells := by
  have hv0 := h0
  have hnt : ntFs F_WriteTxnMarkersResponse = true := by kernel_rfl
  generalize hqd : flexB 1 v = q at *
  have hq0 : decide (v ≥ 1) = q := by rw [← hqd]; simp [flexB]
  obtain ⟨adS, cS, rfl, hcS⟩ := RSv.shape hsv
  refine ct_enter Tryz.func137 rfl Tryz.ntmps137 rfl hok hav (by simp [Ent.blk]) ?_
  refine cd_sq ?_
  refine rg_const rfl ?_
  refine at_cd ?_
  refine cd_sr ?_
  refine ln_pv (pv_move rfl) rfl ?_
  refine ln_callT (i := 0) (vals := [.pointer (some ⟨b, 0, none⟩)]) en_135 rfl rfl (fun u hu hok hav => df_WriteTxnMarkersResponse _ _ _ (fun w => .obj b (.cells w.toArray 151)) b 0 (Tgt.obj b 151 3) u hok hav) rfl ?_
  rintro u1 _ _ ht1 ⟨ux1, ⟨rfl, rfl⟩, hx1⟩
  refine ln_cd ?_
  refine cd_sr ?_
  refine ln_pv (pv_move rfl) rfl ?_
  refine ln_pv (pv_struct [(0, 1), (1, 1)] (l := [_, _]) rfl Tryz.underlying206 tipub_kmsg_inner_kbin_Reader (by kernel_rfl) rfl rfl) rfl ?_
  refine ln_alloc (l := [.slice none 0 0, .bool false]) tipub_kmsg_inner_kbin_Reader rfl rfl (fun br => ?_)
  refine ln_storeW (i := 0) (vs := [_, .bool false]) rfl rfl rfl rfl tipub_kmsg_inner_kbin_Reader.size rfl (by simp) ?_
  refine ln_cd ?_
  refine cd_sr ?_
  refine ln_pv (pv_move rfl) rfl ?_
  refine ln_pv (pv_nilCheck rfl) rfl ?_
  refine ln_pv (pv_fieldAddr (off := 0) (r := 0) Tryz.underlying151 rfl tiint16.size rfl rfl rfl) rfl ?_
  refine ln_pv (pv_ldo (i := 1) (v := .int .i16 v) rfl Tryz.underlying49 rfl rfl rfl) rfl ?_
  refine ln_pv (pv_assign rfl) rfl ?_
  refine ln_cd ?_
  refine cd_sq ?_
  refine rg_blank rfl rfl ?_
  refine at_cd ?_
  refine cd_sr ?_
  refine ln_pv (pv_move rfl) rfl ?_
  refine ln_pv (pv_geq rfl rfl) rfl ?_
  refine ln_pv (pv_assign rfl) rfl ?_
  rw [hq0]
  refine ln_cd ?_
  refine cd_sq ?_
  refine rg_blank rfl rfl ?_
  refine at_cd ?_
  refine cd_sr ?_
  refine ln_pv (pv_move rfl) rfl ?_
  refine ln_pv (pv_assign rfl) rfl ?_
  refine ln_cd ?_
  refine cd_sub_ (L' := [(10, .pointer (some ⟨b, 0, none⟩)), (9, .bool q), (8, .int .i16 v), (7, .pointer (some ⟨br, 0, none⟩)), (2, .bool false)]) (.put rfl (.put rfl (.put rfl (.put rfl (.put rfl .nil))))) ?_
  obtain ⟨mk, hmk⟩ : ∃ mk : List Value → Ent, mk = fun w => MsgBox b 151 (.int .i16 v :: w) := ⟨_, rfl⟩
  have hT : Tgt mk b 1 2 := by rw [hmk]; exact Tgt.behind b 151 _ 2
  refine cd_eqH (H' := [RdE br _, mk ([] ++ ([.slice none 0 0, .map none] : List Value))]) (by rw [hmk]; rfl) ?_
  have hR : Rs u1 [.mk 11 0 (-1) (-1) (-1) 0 10 F_sWriteTxnMarkersResponseMarker] [] v q x (imT F_WriteTxnMarkersResponse v q x) (tgsB q x ++ []) _ [] := Rs.start (F := F_WriteTxnMarkersResponse) (RSv.part hnt (by rw [List.append_nil]; exact RSv.mv hsv ht1)) hnt
  refine cd_sq ?_
  refine st_list (zc := ([.int .i64 0, .slice none 0 0, .map none] : List Value)) hR (hasB_all hv0) (by decide) rfl rfl rfl hT rfl Tryz.underlying151 rfl tiSl_kmsg_WriteTxnMarkersResponseMarker.size rfl (po_eq (show 1 = 1 + fszs _ by kernel_rfl)) tiSl_kmsg_WriteTxnMarkersResponseMarker.size Tryz.underlying149 Tryz.underlying21 tipub_kmsg_WriteTxnMarkersResponseMarker rfl rfl (by kernel_rfl) (by decide) (by decide) (fun q hq => .inl (by simpa [Ent.blk] using hq)) (fun z => part_pos (plain_pos (by decide) (by decide) (by decide) (hasB_all hv0))) rfl rfl rfl rfl rfl rfl rfl rfl rfl rfl rfl rfl rfl (keysT.at_ hk _) (fun gb1 cap1 m1 i1 x1 u1 v1 xs1 rest1 N1 X1 hi1 hm1 hk1 ht1 hxl1 hv1 kb1 => ?_) (fun uu1 vv1 done1 hh1 hR => ?_)
  · skip
    have hnt1 : ntFs F_sWriteTxnMarkersResponseMarker = true := by kernel_rfl
    have hvp1 := RSv.el hnt1 hv1
    refine cd_sq ?_
    refine rg_ix rfl rfl hi1 Tryz.underlying149 tipub_kmsg_WriteTxnMarkersResponseMarker.size rfl ?_
    refine at_cd ?_
    obtain ⟨mk1, hmk1⟩ : ∃ mk : List Value → Ent, mk = fun w => .row (.slice (some ⟨gb1, 0, none⟩) m1 cap1) 155 3 m1 (xs1 ++ (w ++ (List.replicate (m1 - (i1 + 1)) ([.int .i64 0, .slice none 0 0, .map none] : List Value)).flatten)) := ⟨_, rfl⟩
    have hT1 : Tgt mk1 gb1 (0 + i1 * 3) 3 := by rw [hmk1]; exact (Tgt.row gb1 cap1 m1 3 155).mid _ _ _ _ (list_fits hi1 hxl1 rfl) (by rw [hxl1])
    refine cd_eqH (H' := RdE _ v1 :: mk1 ([.int .i64 0, .slice none 0 0, .map none] : List Value) :: _) (by rw [hmk1]) ?_
    refine cd_sq ?_
    refine rg_dflt (z2 := ([.int .i64 0, .slice none 0 0, .map none] : List Value)) rfl en_196 (df_WriteTxnMarkersResponseMarker _ _ _) hT1 rfl (fun u2 ht2 => ?_)
    refine at_cd ?_
    refine cd_sq ?_
    refine rg_move rfl rfl ?_
    refine at_cd ?_
    have hR : Rs u2 [.mk 4 0 (-1) (-1) (-1) 0 0 [], .mk 11 0 (-1) (-1) (-1) 0 10 F_sWriteTxnMarkersResponseMarkerTopic] [] _ q x1 (.mk 0 [] false (imL F_sWriteTxnMarkersResponseMarker _ q x1 0) (imU F_sWriteTxnMarkersResponseMarker q x1.u)) (tgsB q x1 ++ rest1) v1 [] := Rs.start (F := F_sWriteTxnMarkersResponseMarker) (RSv.mv hvp1 ht2) hnt1
    refine cd_eqH (H' := RdE _ v1 :: mk1 ([] ++ ([.int .i64 0, .slice none 0 0, .map none] : List Value)) :: _) rfl ?_
    refine cd_sq ?_
    refine st_num (z := .int .i64 0) hR (hasB_all hv0) rfl en_193 (Fc.num (by decide) (by decide) (by decide) (fun null => sc_i64 null _ _)) rfl hT1 rfl Tryz.underlying155 rfl tiint64.size rfl (po_eq (show 0 = 0 + fszs _ by kernel_rfl)) tiint64.size rfl rfl (fun u3 v3 done3 ht3 hR => ?_)
    refine at_cd ?_
    refine cd_sq ?_
    refine st_list (zc := ([.string .empty, .slice none 0 0, .map none] : List Value)) hR (hasB_all hv0) (by decide) rfl rfl rfl hT1 rfl Tryz.underlying155 rfl tiSl_kmsg_WriteTxnMarkersResponseMarkerTopic.size rfl (po_eq (show 1 = 0 + fszs _ by kernel_rfl)) tiSl_kmsg_WriteTxnMarkersResponseMarkerTopic.size Tryz.underlying153 Tryz.underlying21 tipub_kmsg_WriteTxnMarkersResponseMarkerTopic rfl rfl (by kernel_rfl) (by decide) (by decide) (fun q hq => .inr (hO_push hT (fun q hq => .inl (by simpa [Ent.blk] using hq)) _ q hq)) (fun z => part_pos (plain_pos (by decide) (by decide) (by decide) (hasB_all hv0))) rfl rfl rfl rfl rfl rfl rfl rfl rfl rfl rfl rfl rfl (keysT.at_ hk1 _) (fun gb4 cap4 m4 i4 x4 u4 v4 xs4 rest4 N4 X4 hi4 hm4 hk4 ht4 hxl4 hv4 kb4 => ?_) (fun uu4 vv4 done4 hh4 hR => ?_)
    · skip
      have hnt4 : ntFs F_sWriteTxnMarkersResponseMarkerTopic = true := by kernel_rfl
      have hvp4 := RSv.el hnt4 hv4
      refine cd_sq ?_
      refine rg_ix rfl rfl hi4 Tryz.underlying153 tipub_kmsg_WriteTxnMarkersResponseMarkerTopic.size rfl ?_
      refine at_cd ?_
      obtain ⟨mk4, hmk4⟩ : ∃ mk : List Value → Ent, mk = fun w => .row (.slice (some ⟨gb4, 0, none⟩) m4 cap4) 159 3 m4 (xs4 ++ (w ++ (List.replicate (m4 - (i4 + 1)) ([.string .empty, .slice none 0 0, .map none] : List Value)).flatten)) := ⟨_, rfl⟩
      have hT4 : Tgt mk4 gb4 (0 + i4 * 3) 3 := by rw [hmk4]; exact (Tgt.row gb4 cap4 m4 3 159).mid _ _ _ _ (list_fits hi4 hxl4 rfl) (by rw [hxl4])
      refine cd_eqH (H' := RdE _ v4 :: mk4 ([.string .empty, .slice none 0 0, .map none] : List Value) :: _) (by rw [hmk4]) ?_
      refine cd_sq ?_
      refine rg_dflt (z2 := ([.string .empty, .slice none 0 0, .map none] : List Value)) rfl en_197 (df_WriteTxnMarkersResponseMarkerTopic _ _ _) hT4 rfl (fun u5 ht5 => ?_)
      refine at_cd ?_
      refine cd_sq ?_
      refine rg_move rfl rfl ?_
      refine at_cd ?_
      have hR : Rs u5 [.mk 8 0 (-1) (-1) (-1) 0 0 [], .mk 11 0 (-1) (-1) (-1) 0 10 F_sWriteTxnMarkersResponseMarkerTopicPartition] [] _ q x4 (.mk 0 [] false (imL F_sWriteTxnMarkersResponseMarkerTopic _ q x4 0) (imU F_sWriteTxnMarkersResponseMarkerTopic q x4.u)) (tgsB q x4 ++ rest4) v4 [] := Rs.start (F := F_sWriteTxnMarkersResponseMarkerTopic) (RSv.mv hvp4 ht5) hnt4
      refine cd_eqH (H' := RdE _ v4 :: mk4 ([] ++ ([.string .empty, .slice none 0 0, .map none] : List Value)) :: _) rfl ?_
      refine cd_sq ?_
      refine cd_sq ?_
      refine rg_const rfl ?_
      refine at_cd ?_
      refine st_str (z := .string .empty) hR (hasB_all hv0) rfl rfl rfl en_160 en_161 (fun h => Fc.of (by decide) (by decide) (by decide) (sc_cstr _ h _)) (fun h => Fc.of (by decide) (by decide) (by decide) (sc_str _ h _)) rfl hT4 rfl Tryz.underlying159 rfl tistring.size rfl (po_eq (show 0 = 0 + fszs _ by kernel_rfl)) tistring.size rfl rfl rfl rfl rfl (fun u6 v6 done6 ht6 hR => ?_)
      refine at_cd ?_
      refine cd_sq ?_
      refine st_list (zc := ([.int .i32 0, .int .i16 0, .map none] : List Value)) hR (hasB_all hv0) (by decide) rfl rfl rfl hT4 rfl Tryz.underlying159 rfl tiSl_kmsg_WriteTxnMarkersResponseMarkerTopicPartition.size rfl (po_eq (show 1 = 0 + fszs _ by kernel_rfl)) tiSl_kmsg_WriteTxnMarkersResponseMarkerTopicPartition.size Tryz.underlying157 Tryz.underlying21 tipub_kmsg_WriteTxnMarkersResponseMarkerTopicPartition rfl rfl (by kernel_rfl) (by decide) (by decide) (fun q hq => .inr (hO_push hT1 (fun q hq => .inr (hO_push hT (fun q hq => .inl (by simpa [Ent.blk] using hq)) _ q hq)) _ q hq)) (fun z => part_pos (plain_pos (by decide) (by decide) (by decide) (hasB_all hv0))) rfl rfl rfl rfl rfl rfl rfl rfl rfl rfl rfl rfl rfl (keysT.at_ hk4 _) (fun gb7 cap7 m7 i7 x7 u7 v7 xs7 rest7 N7 X7 hi7 hm7 hk7 ht7 hxl7 hv7 kb7 => ?_) (fun uu7 vv7 done7 hh7 hR => ?_)
      · skip
        have hnt7 : ntFs F_sWriteTxnMarkersResponseMarkerTopicPartition = true := by kernel_rfl
        have hvp7 := RSv.el hnt7 hv7
        refine cd_sq ?_
        refine rg_ix rfl rfl hi7 Tryz.underlying157 tipub_kmsg_WriteTxnMarkersResponseMarkerTopicPartition.size rfl ?_
        refine at_cd ?_
        obtain ⟨mk7, hmk7⟩ : ∃ mk : List Value → Ent, mk = fun w => .row (.slice (some ⟨gb7, 0, none⟩) m7 cap7) 162 3 m7 (xs7 ++ (w ++ (List.replicate (m7 - (i7 + 1)) ([.int .i32 0, .int .i16 0, .map none] : List Value)).flatten)) := ⟨_, rfl⟩
        have hT7 : Tgt mk7 gb7 (0 + i7 * 3) 3 := by rw [hmk7]; exact (Tgt.row gb7 cap7 m7 3 162).mid _ _ _ _ (list_fits hi7 hxl7 rfl) (by rw [hxl7])
        refine cd_eqH (H' := RdE _ v7 :: mk7 ([.int .i32 0, .int .i16 0, .map none] : List Value) :: _) (by rw [hmk7]) ?_
        refine cd_sq ?_
        refine rg_dflt (z2 := ([.int .i32 0, .int .i16 0, .map none] : List Value)) rfl en_198 (df_WriteTxnMarkersResponseMarkerTopicPartition _ _ _) hT7 rfl (fun u8 ht8 => ?_)
        refine at_cd ?_
        refine cd_sq ?_
        refine rg_move rfl rfl ?_
        refine at_cd ?_
        have hR : Rs u8 [.mk 3 0 (-1) (-1) (-1) 0 0 [], .mk 2 0 (-1) (-1) (-1) 0 0 []] [] _ q x7 (.mk 0 [] false (imL F_sWriteTxnMarkersResponseMarkerTopicPartition _ q x7 0) (imU F_sWriteTxnMarkersResponseMarkerTopicPartition q x7.u)) (tgsB q x7 ++ rest7) v7 [] := Rs.start (F := F_sWriteTxnMarkersResponseMarkerTopicPartition) (RSv.mv hvp7 ht8) hnt7
        refine cd_eqH (H' := RdE _ v7 :: mk7 ([] ++ ([.int .i32 0, .int .i16 0, .map none] : List Value)) :: _) rfl ?_
        refine cd_sq ?_
        refine st_num (z := .int .i32 0) hR (hasB_all hv0) rfl en_153 (Fc.num (by decide) (by decide) (by decide) (fun null => sc_i32 null _ _)) rfl hT7 rfl Tryz.underlying162 rfl tiint32.size rfl (po_eq (show 0 = 0 + fszs _ by kernel_rfl)) tiint32.size rfl rfl (fun u9 v9 done9 ht9 hR => ?_)
        refine at_cd ?_
        refine cd_sq ?_
        refine st_num (z := .int .i16 0) hR (hasB_all hv0) rfl en_154 (Fc.num (by decide) (by decide) (by decide) (fun null => sc_i16 null _ _)) rfl hT7 rfl Tryz.underlying162 rfl tiint16.size rfl (po_eq (show 1 = 0 + fszs _ by kernel_rfl)) tiint16.size rfl rfl (fun u10 v10 done10 ht10 hR => ?_)
        refine at_cd ?_
        refine st_tags (F := F_sWriteTxnMarkersResponseMarkerTopicPartition) hnt7 hR (keysT.open hk7).1 rfl rfl rfl hT7 rfl Tryz.underlying162 rfl tipub_kmsg_Tags.size rfl (po_eq (show 2 = 0 + fszs _ by kernel_rfl)) tipub_kmsg_Tags.size rfl rfl (fun u11 v11 cs11 ht11 hv hM => ?_)
        refine at_eqH (H' := RdE _ _ :: .row (.slice (some ⟨gb7, 0, none⟩) m7 cap7) 162 3 m7 (xs7 ++ (_ ++ (List.replicate (m7 - (i7 + 1)) ([.int .i32 0, .int .i16 0, .map none] : List Value)).flatten)) :: _) (by rw [hmk7]) ?_
        exact at_sub (.skip rfl (.skip rfl .rfl')) (kb7 _ _ _ (((ht8.trans ht9).trans ht10).trans ht11) (REl_part hM) hv)
      refine at_cd ?_
      refine st_tags (F := F_sWriteTxnMarkersResponseMarkerTopic) hnt4 hR (keysT.open hk4).1 rfl rfl rfl hT4 rfl Tryz.underlying159 rfl tipub_kmsg_Tags.size rfl (po_eq (show 2 = 0 + fszs _ by kernel_rfl)) tipub_kmsg_Tags.size rfl rfl (fun u12 v12 cs12 ht12 hv hM => ?_)
      refine at_eqH (H' := RdE _ _ :: .row (.slice (some ⟨gb4, 0, none⟩) m4 cap4) 159 3 m4 (xs4 ++ (_ ++ (List.replicate (m4 - (i4 + 1)) ([.string .empty, .slice none 0 0, .map none] : List Value)).flatten)) :: _) (by rw [hmk4]) ?_
      exact at_sub (.skip rfl (.skip rfl .rfl')) (kb4 _ _ _ (((ht5.trans ht6).trans hh7).trans ht12) (REl_part hM) hv)
    refine at_cd ?_
    refine st_tags (F := F_sWriteTxnMarkersResponseMarker) hnt1 hR (keysT.open hk1).1 rfl rfl rfl hT1 rfl Tryz.underlying155 rfl tipub_kmsg_Tags.size rfl (po_eq (show 2 = 0 + fszs _ by kernel_rfl)) tipub_kmsg_Tags.size rfl rfl (fun u13 v13 cs13 ht13 hv hM => ?_)
    refine at_eqH (H' := RdE _ _ :: .row (.slice (some ⟨gb1, 0, none⟩) m1 cap1) 155 3 m1 (xs1 ++ (_ ++ (List.replicate (m1 - (i1 + 1)) ([.int .i64 0, .slice none 0 0, .map none] : List Value)).flatten)) :: _) (by rw [hmk1]) ?_
    exact at_sub (.skip rfl (.skip rfl .rfl')) (kb1 _ _ _ (((ht2.trans ht3).trans hh4).trans ht13) (REl_part hM) hv)
  refine at_cd ?_
  refine cd_sq ?_
  refine st_tags (F := F_WriteTxnMarkersResponse) hnt hR (keysT.open hk).1 rfl rfl rfl hT rfl Tryz.underlying151 rfl tipub_kmsg_Tags.size rfl (po_eq (show 2 = 1 + fszs _ by kernel_rfl)) tipub_kmsg_Tags.size rfl rfl (fun u14 v14 cs14 ht14 hv hM => ?_)
  refine at_cd ?_
  refine cd_sr ?_
  refine ln_callT (i := 0) (vals := [.pointer (some ⟨br, 0, none⟩)]) en_163 rfl rfl (fun u hu hok hav => rd_Complete u br _ hok hav) rfl ?_
  rintro u9 _ _ ht9 ⟨ux9, ⟨rfl, rfl⟩, hx9⟩
  refine ln_pv (pv_assign rfl) rfl ?_
  refine ln_cd ?_
  refine cd_ret ?_
  exact at_retT (i := 1) rfl rfl rfl (fun w hS => ⟨rfl, _, by rw [hmk], (hM.mv ht9).mv (hS.trFinT _ _)⟩)
theorem newp_WriteTxnMarkersResponse (t : Vw) (hok : HF [] t.w) (hav : ∀ q ∈ blks [], t.av q) (hnd : (blks []).Nodup) : CH Tryz.prog 77 [] t [] fun u r E' => ∃ b, r = .pointer (some ⟨b, 0, none⟩) ∧ E' = [MsgBox b 151 [.int .i16 0, .slice none 0 0, .map none]] := by
  refine ch_enter Tryz.func77 rfl Tryz.ntmps77 rfl hok hav hnd ?_
  refine cd_sr ?_
  refine ln_pv (pv_assign rfl) rfl ?_
  refine ln_cd ?_
  refine cd_sr ?_
  refine ln_alloc tipub_kmsg_WriteTxnMarkersResponse rfl rfl (fun b => ?_)
  refine ln_cd ?_
  refine cd_sr ?_
  refine ln_callT (i := 0) en_135 rfl rfl (fun u hu hok hav => df_WriteTxnMarkersResponse _ _ _ (fun w => .obj b (.cells w.toArray 151)) b 0 (Tgt.obj b 151 3) u hok hav) rfl ?_
  rintro u1 _ _ ht1 ⟨_, ⟨rfl, rfl⟩, _⟩
  refine ln_cd ?_
  refine cd_sr ?_
  refine ln_pv (pv_assign rfl) rfl ?_
  refine ln_cd ?_
  refine cd_ret ?_
  exact at_retHq [MsgBox b 151 [.int .i16 0, .slice none 0 0, .map none]] (List.Sublist.refl _) rfl rfl (fun w hS => ⟨b, rfl, rfl⟩)
theorem setd_WriteTxnMarkersResponse (t : Vw) (b : Nat) (v : Int) (hok : (MsgBox b 151 [.int .i16 0, .slice none 0 0, .map none]).ok t.w) (hav : ∀ q ∈ (MsgBox b 151 [.int .i16 0, .slice none 0 0, .map none]).blk, t.av q) : CT Tryz.prog 80 [.pointer (some ⟨b, 0, none⟩), .int .i16 v] t (MsgBox b 151 [.int .i16 0, .slice none 0 0, .map none]) fun u r e' => e' = MsgBox b 151 [.int .i16 v, .slice none 0 0, .map none] := by
  refine ct_enter Tryz.func80 rfl Tryz.ntmps80 rfl hok hav (by simp [Ent.blk]) ?_
  refine cd_region ?_
  refine ln_pv (pv_move rfl) rfl ?_
  refine ln_pv (pv_move rfl) rfl ?_
  refine ln_pv (pv_nilCheck rfl) rfl ?_
  refine ln_pv (pv_fieldAddr (off := 0) (r := 0) Tryz.underlying151 rfl (tiint16).size rfl rfl rfl) rfl ?_
  refine ln_store1 (i := 0) rfl rfl rfl rfl (tiint16).size rfl ?_
  refine ln_nil ?_
  exact at_retT0 (i := 0) rfl rfl (fun w hS => rfl)
theorem readf_WriteTxnMarkersResponse (t : Vw) (b : Nat) (v : Int) (x : Tre) (sv : Value) (hsv : RSv t sv (partB F_WriteTxnMarkersResponse v (flexB 1 v) x)) (hk : keysT x) (h0 : 0 ≤ v) (h1 : v ≤ 2) (hok : (MsgBox b 151 (.int .i16 v :: ([.slice none 0 0, .map none] : List Value))).ok t.w) (hav : ∀ q ∈ (MsgBox b 151 (.int .i16 v :: ([.slice none 0 0, .map none] : List Value))).blk, t.av q) : CT Tryz.prog 81 [.pointer (some ⟨b, 0, none⟩), sv] t (MsgBox b 151 (.int .i16 v :: ([.slice none 0 0, .map none] : List Value))) fun u r e' => r = .nilIface ∧ ∃ cells, e' = MsgBox b 151 (.int .i16 v :: cells) ∧ RMp u F_WriteTxnMarkersResponse (imT F_WriteTxnMarkersResponse v (flexB 1 v) x) cells := by
  refine ct_enter Tryz.func81 rfl Tryz.ntmps81 rfl hok hav (by simp [Ent.blk]) ?_
  refine cd_sr ?_
  refine ln_pv (pv_assign rfl) rfl ?_
  refine ln_cd ?_
  refine cd_sr ?_
  refine ln_pv (pv_move rfl) rfl ?_
  refine ln_pv (pv_move rfl) rfl ?_
  refine ln_callT (i := 0) en_137 rfl rfl (fun u hu hok hav => read_WriteTxnMarkersResponse u b v x sv (RSv.mv hsv hu) hk h0 h1 hok hav) rfl ?_
  rintro u2 _ _ ht2 ⟨ux, ⟨rfl, cells, rfl, hM⟩, hx⟩
  refine ln_pv (pv_assign rfl) rfl ?_
  refine ln_cd ?_
  refine cd_ret ?_
  exact at_retT (i := 0) rfl rfl rfl (fun w hS => ⟨rfl, cells, rfl, (hM.mv hx).mv (hS.trFinT _ _)⟩)
theorem behind_WriteTxnMarkersResponse (t : Vw) (v : Int) (x : Tre) (D : List UInt8) (dv sv : Value) (hdv : RSv t dv D) (hsv : RSv t sv (partB F_WriteTxnMarkersResponse v (flexB 1 v) x)) (hk : keysT x) (h0 : 0 ≤ v) (h1 : v ≤ 2) (hD : D.length ≤ 1000) (hB : (partB F_WriteTxnMarkersResponse v (flexB 1 v) x).length ≤ 1099511627776) : CA Tryz.prog 34 [.int .i64 v, dv, sv] t fun u r => ∃ rv, r = .tuple #[rv, .bool true] ∧ RSv u rv (D ++ partB F_WriteTxnMarkersResponse v (flexB 1 v) x) := by
  have hnt : ntFs F_WriteTxnMarkersResponse = true := by kernel_rfl
  have hof : ofOks F_WriteTxnMarkersResponse = true := by kernel_rfl
  have him := partB_im hnt hof v (flexB 1 v) x
  have hfit := okP_im hnt hof v (flexB 1 v) x hk
  refine ca_enter Tryz.func34 rfl Tryz.ntmps34 rfl ?_
  refine cd_sr ?_
  refine ln_pv (pv_assign rfl) rfl ?_
  refine ln_pv (pv_assign rfl) rfl ?_
  refine ln_cd ?_
  refine cd_sr ?_
  refine ln_callH (E := []) (H0 := []) (List.Perm.refl _) en_77 rfl (fun u hu hok hav hnd => newp_WriteTxnMarkersResponse u hok hav hnd) rfl ?_
  rintro u1 _ _ ht1 ⟨_, ⟨b, rfl, rfl⟩, _⟩
  refine ln_pv (pv_assign rfl) rfl ?_
  refine ln_cd ?_
  refine cd_sr ?_
  refine ln_pv (pv_move rfl) rfl ?_
  refine ln_pv (pv_move rfl) rfl ?_
  refine ln_pv (pv_conv' Tryz.underlying3 Tryz.underlying49 rfl (r := v) (wrap_i16_in (by omega) (by omega))) rfl ?_
  refine ln_callT (i := 0) en_80 rfl rfl (fun u hu hok hav => setd_WriteTxnMarkersResponse u b v hok hav) rfl ?_
  rintro u2 _ _ ht2 ⟨_, rfl, _⟩
  refine ln_cd ?_
  have hsv := hsv.mv (ht1.trans ht2)
  have hdv := hdv.mv (ht1.trans ht2)
  refine cd_seq ?_
  refine cd_sr ?_
  refine ln_pv (pv_move rfl) rfl ?_
  refine ln_pv (pv_move rfl) rfl ?_
  refine ln_nilrow 5 1 ?_
  refine ln_append (i := 0) rfl Tryz.underlying22 tiuint8 rfl (by decide) rfl rfl (RS.src hsv) (by simp only [maxLen]; omega) (by omega) rfl (k' := (partB F_WriteTxnMarkersResponse v (flexB 1 v) x).length) (xs' := u8s (partB F_WriteTxnMarkersResponse v (flexB 1 v) x)) (by omega) (by simp) (fun va hva => ?_)
  refine ln_free1 (fun q h => h.elim) (fun s3 ht3 hK => ?_)
  have hs3 : RSv s3 va (partB F_WriteTxnMarkersResponse v (flexB 1 v) x) := Known.rs hK (u8s_one _)
  have hdv := hdv.mv ht3
  clear hK
  refine ln_callT (i := 0) en_81 rfl rfl (fun u hu hok hav => readf_WriteTxnMarkersResponse u b v x _ (RSv.mv hs3 hu) hk h0 h1 hok hav) rfl ?_
  rintro u4 _ _ ht4 ⟨ux4, ⟨rfl, cells, rfl, hM⟩, hx4⟩
  have hM := hM.mv hx4
  have hdv := hdv.mv ht4
  refine ln_pv (pv_neqI Tryz.underlying59 rfl) rfl ?_
  refine ln_cd ?_
  refine cd_ff rfl ?_
  refine cd_skip ?_
  refine at_cd ?_
  refine cd_free (fun s9 hs9 hK => ?_)
  have hob : OB s9 b (.cells (.int .i16 v :: cells).toArray 151) := hK _ (List.mem_of_getElem? (i := 0) rfl)
  clear hK
  have hM := hM.mv hs9
  have hdv := hdv.mv hs9
  refine cd_sr ?_
  refine ln_pv (pv_move rfl) rfl ?_
  refine ln_pv (pv_move rfl) rfl ?_
  refine ln_nilrow 5 1 ?_
  refine ln_append (i := 0) rfl Tryz.underlying22 tiuint8 rfl (by decide) rfl rfl (RS.src hdv) (by simp only [maxLen]; omega) (by omega) rfl (k' := (D).length) (xs' := u8s (D)) (by omega) (by simp) (fun vb hvb => ?_)
  refine ln_callT (i := 0) en_82 rfl rfl (fun u hu hok hav => append_WriteTxnMarkersResponse u b v (imT F_WriteTxnMarkersResponse v (flexB 1 v) x) cells _ D (hob.mv hu).rc (hM.mv hu) hfit h0 h1 (by rw [him, List.length_append]; omega) hok hav) rfl ?_
  rintro u5 v5 _ ht5 ⟨_, ⟨rfl, h15⟩, _⟩
  refine ln_pv (pv_assign rfl) rfl ?_
  refine ln_pv (pv_assign rfl) rfl ?_
  refine ln_cd ?_
  refine cd_ret ?_
  exact at_retA2 (K := 0) rfl rfl rfl (fun w hS => ⟨v5, rfl, (congrArg (fun q => RSv hS.fin v5 (D ++ q)) him).mp (row_rs hS (j := 0) rfl (u8s_one _))⟩)
theorem law_WriteTxnMarkersResponse (t : Vw) (n : Nat) (x : Tre) (cs : List Value) (D : List UInt8) (dv : Value) (hn8 : n < 256) (hdv : RSv t dv D) (hD : D.length ≤ 1048576) (hx : RT t x cs) (hkx : keysT x) (hsm : smT x) (hB : (writeB F_WriteTxnMarkersResponse 1 ((versionN n 2 : Nat) : Int) x).length < 1099511627776) : CS Tryz.prog 8 [.int .u8 (n : Int), dv, .agg cs.toArray] t (.bool true) := by
  obtain ⟨sS, sL, sU, rfl, hn, hS, ⟨lc, hL, hLs⟩, hU⟩ := hx.open
  obtain ⟨adS, cS, rfl, hleS⟩ := hS.shape
  obtain ⟨adL, cL, rfl, hleL⟩ := hL.shape
  have hU0 := hU
  obtain ⟨uc, hU1, hUs⟩ := hU0
  obtain ⟨hz1, hz2, hz3, hz4⟩ := hsm.open
  obtain ⟨adD, cD, rfl, hleD⟩ := hdv.shape
  have hok := ok_F_WriteTxnMarkersResponse
  have hvn : versionN n 2 ≤ 2 := by have := Nat.mod_lt n (show 0 < 2 + 1 by omega); unfold versionN; omega
  refine CA.cs ?_
  refine ca_enter Tryz.func8 rfl Tryz.ntmps8 rfl ?_
  cases hft : fits1 x with
  | false =>
    refine cd_sr ?_
    refine ln_box rfl rfl rfl (fun b1 => ?_)
    refine ln_pv (pv_assign rfl) rfl ?_
    refine ln_cd ?_
    refine cd_seq ?_
    refine cd_sr ?_
    refine ln_pv (pv_move rfl) rfl ?_
    refine ln_pv (pv_len_slice Tryz.underlying22 rfl) rfl ?_
    refine ln_pv (pv_ff (pv_gtr rfl rfl) (by omega)) rfl ?_
    refine ln_pv (pv_move rfl) rfl ?_
    refine ln_gt rfl rfl rfl (pv_ldO (i := 0) rfl Tryz.underlying26 rfl (tispec_Tree).size rfl rfl) rfl ?_
    refine ln_gE rfl rfl rfl ?_
    refine ln_callS en_11 rfl (fun u hu => by have h := laws_zzFits1 u x _ (RT.mv hx hu) (by omega); rwa [hft] at h) rfl ?_
    refine ln_gt rfl rfl rfl (pv_not rfl) rfl ?_
    refine ln_pv (pv_pick rfl (fun _ => rfl) (fun _ => rfl)) rfl ?_
    refine ln_cd ?_
    refine cd_tt rfl ?_
    refine cd_sr ?_
    refine ln_pv (pv_assign rfl) rfl ?_
    refine ln_cd ?_
    refine cd_ret ?_
    refine at_retA rfl rfl (fun w hS => ?_)
    rfl
  | true =>
    by_cases hbig : D.length > 1000
    · skip
      refine cd_sr ?_
      refine ln_box rfl rfl rfl (fun b1 => ?_)
      refine ln_pv (pv_assign rfl) rfl ?_
      refine ln_cd ?_
      refine cd_seq ?_
      refine cd_sr ?_
      refine ln_pv (pv_move rfl) rfl ?_
      refine ln_pv (pv_len_slice Tryz.underlying22 rfl) rfl ?_
      refine ln_pv (pv_ff (pv_gtr rfl rfl) (by omega)) rfl ?_
      refine ln_pv (pv_move rfl) rfl ?_
      refine ln_gt rfl rfl rfl (pv_ldO (i := 0) rfl Tryz.underlying26 rfl (tispec_Tree).size rfl rfl) rfl ?_
      refine ln_gE rfl rfl rfl ?_
      refine ln_callS en_11 rfl (fun u hu => by have h := laws_zzFits1 u x _ (RT.mv hx hu) (by omega); rwa [hft] at h) rfl ?_
      refine ln_gt rfl rfl rfl (pv_not rfl) rfl ?_
      refine ln_pv (pv_pick rfl (fun _ => rfl) (fun _ => rfl)) rfl ?_
      refine ln_cd ?_
      refine cd_ff rfl ?_
      refine cd_skip ?_
      refine at_cd ?_
      refine cd_sr ?_
      refine ln_callS en_32 rfl (fun u hu => max_WriteTxnMarkersResponse u) rfl ?_
      refine ln_pv (pv_assign rfl) rfl ?_
      refine ln_cd ?_
      refine cd_seq ?_
      refine cd_sr ?_
      refine ln_pv (pv_move rfl) rfl ?_
      refine ln_pv (pv_ff (pv_lss rfl rfl) (by omega)) rfl ?_
      refine ln_cd ?_
      refine cd_ff rfl ?_
      refine cd_skip ?_
      refine at_cd ?_
      refine cd_sr ?_
      refine ln_callA en_33 rfl (fun u hu => sch_F_WriteTxnMarkersResponse u) rfl (fun u1 v1 ht1 hR1 => ?_)
      have hx := hx.mv ht1
      have hdv := hdv.mv ht1
      obtain ⟨sv, lcm, rfl, hVm, hFm⟩ := hR1
      refine ln_pv (pv_move rfl) rfl ?_
      refine ln_pv (pv_move rfl) rfl ?_
      refine ln_callS en_14 rfl (fun u hu => laws_version u n 2 hn8 (by omega)) rfl ?_
      refine ln_alloc tispec_Message rfl rfl (fun b2 => ?_)
      refine ln_storeW (i := 0) rfl rfl rfl rfl (tispec_Message).size rfl (by simp [(RS.one hVm)]) ?_
      refine ln_pv (pv_assign rfl) rfl ?_
      refine ln_cd ?_
      refine cd_seq ?_
      refine cd_sr ?_
      refine ln_pv (pv_move rfl) rfl ?_
      refine ln_pv (pv_len_slice Tryz.underlying22 rfl) rfl ?_
      refine ln_pv (pv_tt (pv_gtr rfl rfl) (by omega)) rfl ?_
      refine ln_cd ?_
      refine cd_tt rfl ?_
      refine cd_sr ?_
      refine ln_pv (pv_assign rfl) rfl ?_
      refine ln_cd ?_
      refine cd_ret ?_
      refine at_retA rfl rfl (fun w hS => ?_)
      rfl
    · skip
      refine cd_sr ?_
      refine ln_box rfl rfl rfl (fun b1 => ?_)
      refine ln_pv (pv_assign rfl) rfl ?_
      refine ln_cd ?_
      refine cd_seq ?_
      refine cd_sr ?_
      refine ln_pv (pv_move rfl) rfl ?_
      refine ln_pv (pv_len_slice Tryz.underlying22 rfl) rfl ?_
      refine ln_pv (pv_ff (pv_gtr rfl rfl) (by omega)) rfl ?_
      refine ln_pv (pv_move rfl) rfl ?_
      refine ln_gt rfl rfl rfl (pv_ldO (i := 0) rfl Tryz.underlying26 rfl (tispec_Tree).size rfl rfl) rfl ?_
      refine ln_gE rfl rfl rfl ?_
      refine ln_callS en_11 rfl (fun u hu => by have h := laws_zzFits1 u x _ (RT.mv hx hu) (by omega); rwa [hft] at h) rfl ?_
      refine ln_gt rfl rfl rfl (pv_not rfl) rfl ?_
      refine ln_pv (pv_pick rfl (fun _ => rfl) (fun _ => rfl)) rfl ?_
      refine ln_cd ?_
      refine cd_ff rfl ?_
      refine cd_skip ?_
      refine at_cd ?_
      refine cd_sr ?_
      refine ln_callS en_32 rfl (fun u hu => max_WriteTxnMarkersResponse u) rfl ?_
      refine ln_pv (pv_assign rfl) rfl ?_
      refine ln_cd ?_
      refine cd_seq ?_
      refine cd_sr ?_
      refine ln_pv (pv_move rfl) rfl ?_
      refine ln_pv (pv_ff (pv_lss rfl rfl) (by omega)) rfl ?_
      refine ln_cd ?_
      refine cd_ff rfl ?_
      refine cd_skip ?_
      refine at_cd ?_
      refine cd_sr ?_
      refine ln_callA en_33 rfl (fun u hu => sch_F_WriteTxnMarkersResponse u) rfl (fun u1 v1 ht1 hR1 => ?_)
      have hx := hx.mv ht1
      have hdv := hdv.mv ht1
      obtain ⟨sv, lcm, rfl, hVm, hFm⟩ := hR1
      refine ln_pv (pv_move rfl) rfl ?_
      refine ln_pv (pv_move rfl) rfl ?_
      refine ln_callS en_14 rfl (fun u hu => laws_version u n 2 hn8 (by omega)) rfl ?_
      refine ln_alloc tispec_Message rfl rfl (fun b2 => ?_)
      refine ln_storeW (i := 0) rfl rfl rfl rfl (tispec_Message).size rfl (by simp [(RS.one hVm)]) ?_
      refine ln_pv (pv_assign rfl) rfl ?_
      refine ln_cd ?_
      refine cd_seq ?_
      refine cd_sr ?_
      refine ln_pv (pv_move rfl) rfl ?_
      refine ln_pv (pv_len_slice Tryz.underlying22 rfl) rfl ?_
      refine ln_pv (pv_ff (pv_gtr rfl rfl) (by omega)) rfl ?_
      refine ln_cd ?_
      refine cd_ff rfl ?_
      refine cd_skip ?_
      refine at_cd ?_
      refine cd_sr ?_
      refine ln_pv (pv_ldO (i := 0) rfl Tryz.underlying31 rfl (tispec_Message).size rfl rfl) rfl ?_
      refine ln_pv (pv_move rfl) rfl ?_
      refine ln_pv (pv_ldO (i := 1) rfl Tryz.underlying26 rfl (tispec_Tree).size rfl rfl) rfl ?_
      refine ln_callA en_15 rfl (fun u hu => spec_Write F_WriteTxnMarkersResponse 1 hok.1 hok.2.2 u _ _ _ ((versionN n 2 : Nat) : Int) x (RS.mv hVm hu) (RFs.mv hFm hu) (RT.mv hx hu) hsm hB) rfl (fun u2 v2 ht2 hR2 => ?_)
      have hx := hx.mv ht2
      have hdv := hdv.mv ht2
      have hVm := hVm.mv ht2
      have hFm := hFm.mv ht2
      refine ln_pv (pv_assign rfl) rfl ?_
      refine ln_cd ?_
      refine cd_sr ?_
      refine ln_pv (pv_move rfl) rfl ?_
      refine ln_pv (pv_move rfl) rfl ?_
      refine ln_pv (pv_move rfl) rfl ?_
      refine ln_callA en_34 rfl (fun u hu => behind_WriteTxnMarkersResponse u ((versionN n 2 : Nat) : Int) x D _ _ (RSv.mv hdv hu) (RSv.mv hR2 hu) hkx (by omega) (by omega) (by omega) (by rw [show partB F_WriteTxnMarkersResponse ((versionN n 2 : Nat) : Int) (flexB 1 ((versionN n 2 : Nat) : Int)) x = writeB F_WriteTxnMarkersResponse 1 ((versionN n 2 : Nat) : Int) x from rfl]; omega)) rfl (fun u3 v3 ht3 hR3 => ?_)
      have hx := hx.mv ht3
      have hdv := hdv.mv ht3
      have hVm := hVm.mv ht3
      have hFm := hFm.mv ht3
      have hR2 := hR2.mv ht3
      obtain ⟨rv, rfl, hV⟩ := hR3
      refine ln_pv (pv_move rfl) rfl ?_
      refine ln_pv (pv_extract rfl rfl) rfl ?_
      refine ln_pv (pv_extract rfl rfl) rfl ?_
      refine ln_pv (pv_assign rfl) rfl ?_
      refine ln_pv (pv_assign rfl) rfl ?_
      refine ln_cd ?_
      refine cd_sr ?_
      refine ln_pv (pv_move rfl) rfl ?_
      refine ln_pv (pv_move rfl) rfl ?_
      refine ln_gt rfl rfl rfl (pv_move rfl) rfl ?_
      refine ln_gE rfl rfl rfl ?_
      refine ln_lit (vs := []) Tryz.underlying22 tiuint8 rfl (by decide) rfl rfl rfl rfl rfl rfl (fun b3 => ?_)
      refine ln_gt rfl rfl rfl (pv_move rfl) rfl ?_
      refine ln_gE rfl rfl rfl ?_
      refine ln_objrow (i := 0) (m := 0) (sz := 1) rfl rfl (by decide) ?_
      refine ln_append (i := 0) rfl Tryz.underlying22 tiuint8 rfl (by decide) rfl rfl (RS.src hdv) (by first | omega | (simp only [maxLen]; omega)) (by first | omega | (simp only [maxLen]; omega)) rfl (k' := D.length) (xs' := u8s D) (by omega) (by simp [flat]) (fun v4 hv4 => ?_)
      refine ln_gt rfl rfl rfl (pv_move rfl) rfl ?_
      refine ln_gE rfl rfl rfl ?_
      refine ln_append (i := 0) rfl Tryz.underlying22 tiuint8 rfl (by decide) rfl rfl (RS.src hR2) (by first | omega | (simp only [maxLen]; omega)) (by first | omega | (simp only [maxLen]; omega)) rfl (k' := (D ++ writeB F_WriteTxnMarkersResponse 1 ((versionN n 2 : Nat) : Int) x).length) (xs' := u8s (D ++ writeB F_WriteTxnMarkersResponse 1 ((versionN n 2 : Nat) : Int) x)) (by rw [List.length_append]) (by simp [u8s]) (fun v5 hv5 => ?_)
      refine ln_free1 (fun q h => h.elim) (fun s9 hs9 hK => ?_)
      have hrow : RSv s9 _ (D ++ writeB F_WriteTxnMarkersResponse 1 ((versionN n 2 : Nat) : Int) x) := Known.rs hK (u8s_one _)
      clear hK
      have hx := hx.mv hs9
      have hdv := hdv.mv hs9
      have hVm := hVm.mv hs9
      have hFm := hFm.mv hs9
      have hR2 := hR2.mv hs9
      have hV := hV.mv hs9
      refine ln_gE rfl rfl rfl ?_
      refine ln_callS en_17 rfl (fun u hu => by have h := spec_Same u _ _ _ _ (RSv.mv hV hu) (RSv.mv hrow hu) (by rw [show partB F_WriteTxnMarkersResponse ((versionN n 2 : Nat) : Int) (flexB 1 ((versionN n 2 : Nat) : Int)) x = writeB F_WriteTxnMarkersResponse 1 ((versionN n 2 : Nat) : Int) x from rfl, List.length_append]; omega); rwa [show partB F_WriteTxnMarkersResponse ((versionN n 2 : Nat) : Int) (flexB 1 ((versionN n 2 : Nat) : Int)) x = writeB F_WriteTxnMarkersResponse 1 ((versionN n 2 : Nat) : Int) x from rfl, decide_eq_true rfl] at h) rfl ?_
      refine ln_pv (pv_pick rfl (fun _ => rfl) (fun _ => rfl)) rfl ?_
      refine ln_pv (pv_assign rfl) rfl ?_
      refine ln_cd ?_
      refine cd_ret ?_
      refine at_retA rfl rfl (fun w hS => ?_)
      rfl
theorem fn_WriteTxnMarkersResponse (t : Vw) (n : Nat) (x : Tre) (cs : List Value) (D : List UInt8) (dv : Value) (hn : n < 256) (hdv : RSv t dv D) (hD : D.length ≤ 1048576) (hx : RT t x cs) (hw : wt x ≤ 1048576) : CS Tryz.prog 8 [.int .u8 (n : Int), dv, .agg cs.toArray] t (.bool true) := by
  have hok := ok_F_WriteTxnMarkersResponse
  exact law_WriteTxnMarkersResponse t n x cs D dv hn hdv hD hx hx.keys (smT_wt x (by omega)) (writeB_len _ _ _ x hok.1 hx.keys hw (of_decide_eq_true (by kernel_rfl)))
end K
end Go.Proofs.YtkcdocdldebeoaaGreatDoorR
