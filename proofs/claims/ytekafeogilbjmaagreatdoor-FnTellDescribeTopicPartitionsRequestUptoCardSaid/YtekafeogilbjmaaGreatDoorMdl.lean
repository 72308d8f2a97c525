import Derived.Test.YtekafeogilbjmaaGreatDoorTn
import Derived.Test.YtekafeogilbjmaaGreatDoorTk
import Derived.Test.YtekafeogilbjmaaGreatDoorW4
import Derived.Test.YtekafeogilbjmaaGreatDoorMdt
import Derived.Test.YtekafeogilbjmaaGreatDoorP4
import Derived.Test.YtekafeogilbjmaaGreatDoorS10
set_option linter.unusedVariables false
set_option linter.unusedSimpArgs false
namespace Go.Proofs.YtekafeogilbjmaaGreatDoor
namespace K
open Go Go.Lib
theorem df_DescribeTopicPartitionsRequest (z0 z1 z2 z3 z4 : Value) : DfC 145 [z0, z1, z2, z3, z4] [z0, z1, .int .i32 2000, z3, z4] := by
  intro mk b o hT t hok hav
  refine ct_enter Tryz.func145 rfl Tryz.ntmps145 rfl hok hav (by rw [hT.blk]; simp) ?_
  refine cd_sr ?_
  refine ln_pv (pv_move rfl) rfl ?_
  refine ln_pv (pv_nilCheck rfl) rfl ?_
  refine ln_pv (pv_fieldAddr (off := 2) Tryz.underlying143 rfl tiint32.size rfl rfl rfl) rfl ?_
  refine ln_storeG1 (i := 0) (off := 2) (v := .int .i32 2000) hT rfl rfl rfl rfl rfl tiint32.size (Nat.le_of_ble_eq_true rfl) ?_
  refine ln_cd ?_
  refine cd_sr ?_
  refine ln_pv (pv_move rfl) rfl ?_
  refine ln_pv (pv_nilCheck rfl) rfl ?_
  refine ln_pv (pv_fieldAddr (off := 3) Tryz.underlying143 rfl tiPt_kmsg_DescribeTopicPartitionsRequestCursor.size rfl rfl rfl) rfl ?_
  refine ln_pv (pv_assign rfl) rfl ?_
  refine ln_cd ?_
  refine cd_region ?_
  refine ln_pv (pv_move rfl) rfl ?_
  refine ln_nil ?_
  exact at_retT0 (i := 0) rfl rfl (fun w hS => ⟨rfl, rfl⟩)
theorem df_DescribeTopicPartitionsRequestTopic (z0 z1 : Value) : DfC 208 [z0, z1] [z0, z1] := by
  intro mk b o hT t hok hav
  refine ct_enter Tryz.func208 rfl Tryz.ntmps208 rfl hok hav (by rw [hT.blk]; simp) ?_
  refine cd_skip ?_
  exact at_retT0 (i := 0) rfl rfl (fun w hS => ⟨rfl, rfl⟩)
theorem df_DescribeTopicPartitionsRequestCursor (z0 z1 z2 : Value) : DfC 209 [z0, z1, z2] [z0, z1, z2] := by
  intro mk b o hT t hok hav
  refine ct_enter Tryz.func209 rfl Tryz.ntmps209 rfl hok hav (by rw [hT.blk]; simp) ?_
  refine cd_skip ?_
  exact at_retT0 (i := 0) rfl rfl (fun w hS => ⟨rfl, rfl⟩)
theorem read_DescribeTopicPartitionsRequest (t : Vw) (b : Nat) (v : Int) (x : Tre) (sv : Value) (hsv : RSv t sv (partB F_DescribeTopicPartitionsRequest v (flexB 0 v) x)) (hk : keysT x) (h0 : 0 ≤ v) (h1 : v ≤ 0) (hok : (MsgBox b 143 (.int .i16 v :: ([.slice none 0 0, .int .i32 2000, .pointer none, .map none] : List Value))).ok t.w) (hav : ∀ q ∈ (MsgBox b 143 (.int .i16 v :: ([.slice none 0 0, .int .i32 2000, .pointer none, .map none] : List Value))).blk, t.av q) : CT Tryz.prog 146 [.pointer (some ⟨b, 0, none⟩), sv, .bool false] t (MsgBox b 143 (.int .i16 v :: ([.slice none 0 0, .int .i32 2000, .pointer none, .map none] : List Value))) fun u r e' => r = .nilIface ∧ ∃ cells, e' = MsgBox b 143 (.int .i16 v :: cells) ∧ RMp u F_DescribeTopicPartitionsRequest (imT F_DescribeTopicPartitionsRequest v (flexB 0 v) x) cells := by
  have hv0 := h0
  have hnt : ntFs F_DescribeTopicPartitionsRequest = true := by kernel_rfl
  generalize hqd : flexB 0 v = q at *
  have hq0 : decide (v ≥ 0) = q := by rw [← hqd]; simp [flexB]
  obtain ⟨adS, cS, rfl, hcS⟩ := RSv.shape hsv
  refine ct_enter Tryz.func146 rfl Tryz.ntmps146 rfl hok hav (by simp [Ent.blk]) ?_
  refine cd_sq ?_
  refine rg_const rfl ?_
  refine at_cd ?_
  refine cd_sr ?_
  refine ln_pv (pv_move rfl) rfl ?_
  refine ln_callT (i := 0) (vals := [.pointer (some ⟨b, 0, none⟩)]) en_145 rfl rfl (fun u hu hok hav => df_DescribeTopicPartitionsRequest _ _ _ _ _ (fun w => .obj b (.cells w.toArray 143)) b 0 (Tgt.obj b 143 5) u hok hav) rfl ?_
  rintro u1 _ _ ht1 ⟨ux1, ⟨rfl, rfl⟩, hx1⟩
  refine ln_cd ?_
  refine cd_sr ?_
  refine ln_pv (pv_move rfl) rfl ?_
  refine ln_pv (pv_struct [(0, 1), (1, 1)] (l := [_, _]) rfl Tryz.underlying199 tipub_kmsg_inner_kbin_Reader (by kernel_rfl) rfl rfl) rfl ?_
  refine ln_alloc (l := [.slice none 0 0, .bool false]) tipub_kmsg_inner_kbin_Reader rfl rfl (fun br => ?_)
  refine ln_storeW (i := 0) (vs := [_, .bool false]) rfl rfl rfl rfl tipub_kmsg_inner_kbin_Reader.size rfl (by simp) ?_
  refine ln_cd ?_
  refine cd_sr ?_
  refine ln_pv (pv_move rfl) rfl ?_
  refine ln_pv (pv_nilCheck rfl) rfl ?_
  refine ln_pv (pv_fieldAddr (off := 0) (r := 0) Tryz.underlying143 rfl tiint16.size rfl rfl rfl) rfl ?_
  refine ln_pv (pv_ldo (i := 1) (v := .int .i16 v) rfl Tryz.underlying46 rfl rfl rfl) rfl ?_
  refine ln_pv (pv_assign rfl) rfl ?_
  refine ln_cd ?_
  refine cd_sq ?_
  refine rg_blank rfl rfl ?_
  refine at_cd ?_
  refine cd_sr ?_
  refine ln_pv (pv_move rfl) rfl ?_
  refine ln_pv (pv_geq rfl rfl) rfl ?_
  refine ln_pv (pv_assign rfl) rfl ?_
  rw [hq0]
  refine ln_cd ?_
  refine cd_sq ?_
  refine rg_blank rfl rfl ?_
  refine at_cd ?_
  refine cd_sr ?_
  refine ln_pv (pv_move rfl) rfl ?_
  refine ln_pv (pv_assign rfl) rfl ?_
  refine ln_cd ?_
  refine cd_sub_ (L' := [(10, .pointer (some ⟨b, 0, none⟩)), (9, .bool q), (8, .int .i16 v), (7, .pointer (some ⟨br, 0, none⟩)), (2, .bool false)]) (.put rfl (.put rfl (.put rfl (.put rfl (.put rfl .nil))))) ?_
  obtain ⟨mk, hmk⟩ : ∃ mk : List Value → Ent, mk = fun w => MsgBox b 143 (.int .i16 v :: w) := ⟨_, rfl⟩
  have hT : Tgt mk b 1 4 := by rw [hmk]; exact Tgt.behind b 143 _ 4
  refine cd_eqH (H' := [RdE br _, mk ([] ++ ([.slice none 0 0, .int .i32 2000, .pointer none, .map none] : List Value))]) (by rw [hmk]; rfl) ?_
  have hR : Rs u1 [.mk 11 0 (-1) (-1) (-1) 0 10 F_sDescribeTopicPartitionsRequestTopic, .mk 3 0 (-1) (-1) (-1) 2000 0 [], .mk 10 0 (-1) 0 (-1) 0 0 F_sDescribeTopicPartitionsRequestCursor] [] v q x (imT F_DescribeTopicPartitionsRequest v q x) (tgsB q x ++ []) _ [] := Rs.start (F := F_DescribeTopicPartitionsRequest) (RSv.part hnt (by rw [List.append_nil]; exact RSv.mv hsv ht1)) hnt
  refine cd_sq ?_
  refine st_list (zc := ([.string .empty, .map none] : List Value)) hR (hasB_all hv0) (by decide) rfl rfl rfl hT rfl Tryz.underlying143 rfl tiSl_kmsg_DescribeTopicPartitionsRequestTopic.size rfl (po_eq (show 1 = 1 + fszs _ by kernel_rfl)) tiSl_kmsg_DescribeTopicPartitionsRequestTopic.size Tryz.underlying140 Tryz.underlying21 tipub_kmsg_DescribeTopicPartitionsRequestTopic rfl rfl (by kernel_rfl) (by decide) (by decide) (fun q hq => .inl (by simpa [Ent.blk] using hq)) (fun z => part_pos (plain_pos (by decide) (by decide) (by decide) (hasB_all hv0))) rfl rfl rfl rfl rfl rfl rfl rfl rfl rfl rfl rfl rfl (keysT.at_ hk _) (fun gb1 cap1 m1 i1 x1 u1 v1 xs1 rest1 N1 X1 hi1 hm1 hk1 ht1 hxl1 hv1 kb1 => ?_) (fun uu1 vv1 done1 hh1 hR => ?_)
  · skip
    have hnt1 : ntFs F_sDescribeTopicPartitionsRequestTopic = true := by kernel_rfl
    have hvp1 := RSv.el hnt1 hv1
    refine cd_sq ?_
    refine rg_ix rfl rfl hi1 Tryz.underlying140 tipub_kmsg_DescribeTopicPartitionsRequestTopic.size rfl ?_
    refine at_cd ?_
    obtain ⟨mk1, hmk1⟩ : ∃ mk : List Value → Ent, mk = fun w => .row (.slice (some ⟨gb1, 0, none⟩) m1 cap1) 147 2 m1 (xs1 ++ (w ++ (List.replicate (m1 - (i1 + 1)) ([.string .empty, .map none] : List Value)).flatten)) := ⟨_, rfl⟩
    have hT1 : Tgt mk1 gb1 (0 + i1 * 2) 2 := by rw [hmk1]; exact (Tgt.row gb1 cap1 m1 2 147).mid _ _ _ _ (list_fits hi1 hxl1 rfl) (by rw [hxl1])
    refine cd_eqH (H' := RdE _ v1 :: mk1 ([.string .empty, .map none] : List Value) :: _) (by rw [hmk1]) ?_
    refine cd_sq ?_
    refine rg_dflt (z2 := ([.string .empty, .map none] : List Value)) rfl en_208 (df_DescribeTopicPartitionsRequestTopic _ _) hT1 rfl (fun u2 ht2 => ?_)
    refine at_cd ?_
    refine cd_sq ?_
    refine rg_move rfl rfl ?_
    refine at_cd ?_
    have hR : Rs u2 [.mk 8 0 (-1) (-1) (-1) 0 0 []] [] _ q x1 (.mk 0 [] false (imL F_sDescribeTopicPartitionsRequestTopic _ q x1 0) (imU F_sDescribeTopicPartitionsRequestTopic q x1.u)) (tgsB q x1 ++ rest1) v1 [] := Rs.start (F := F_sDescribeTopicPartitionsRequestTopic) (RSv.mv hvp1 ht2) hnt1
    refine cd_eqH (H' := RdE _ v1 :: mk1 ([] ++ ([.string .empty, .map none] : List Value)) :: _) rfl ?_
    refine cd_sq ?_
    refine cd_sq ?_
    refine rg_const rfl ?_
    refine at_cd ?_
    refine st_str (z := .string .empty) hR (hasB_all hv0) rfl rfl rfl en_200 en_201 (fun h => Fc.of (by decide) (by decide) (by decide) (sc_cstr _ h _)) (fun h => Fc.of (by decide) (by decide) (by decide) (sc_str _ h _)) rfl hT1 rfl Tryz.underlying147 rfl tistring.size rfl (po_eq (show 0 = 0 + fszs _ by kernel_rfl)) tistring.size rfl rfl rfl rfl rfl (fun u3 v3 done3 ht3 hR => ?_)
    refine at_cd ?_
    refine st_tags (F := F_sDescribeTopicPartitionsRequestTopic) hnt1 hR (keysT.open hk1).1 rfl rfl rfl hT1 rfl Tryz.underlying147 rfl tipub_kmsg_Tags.size rfl (po_eq (show 1 = 0 + fszs _ by kernel_rfl)) tipub_kmsg_Tags.size rfl rfl (fun u4 v4 cs4 ht4 hv hM => ?_)
    refine at_eqH (H' := RdE _ _ :: .row (.slice (some ⟨gb1, 0, none⟩) m1 cap1) 147 2 m1 (xs1 ++ (_ ++ (List.replicate (m1 - (i1 + 1)) ([.string .empty, .map none] : List Value)).flatten)) :: _) (by rw [hmk1]) ?_
    exact at_sub (.skip rfl (.skip rfl .rfl')) (kb1 _ _ _ ((ht2.trans ht3).trans ht4) (REl_part hM) hv)
  refine at_cd ?_
  refine cd_sq ?_
  refine st_num (z := .int .i32 2000) hR (hasB_all hv0) rfl en_179 (Fc.num (by decide) (by decide) (by decide) (fun null => sc_i32 null _ _)) rfl hT rfl Tryz.underlying143 rfl tiint32.size rfl (po_eq (show 2 = 1 + fszs _ by kernel_rfl)) tiint32.size rfl rfl (fun u5 v5 done5 ht5 hR => ?_)
  refine at_cd ?_
  refine cd_sq ?_
  have hP6 := hR.has (hasB_all hv0)
  rcases ptr_cases (by decide) (by omega) hP6 with ⟨hz6, hP6⟩ | ⟨hz6, hP6⟩
  · skip
    refine cd_sq ?_
    refine rg_call rfl en_196 (fun u _ => rd_Int8 u 255) hP6 rfl (fun uA6 uxA6 vA6 cA6 htA6 _ hcA6 hvA6 => ?_)
    subst hcA6
    refine at_cd ?_
    refine cd_sr ?_
    refine ln_pv (pv_move rfl) rfl ?_
    refine ln_pv (pv_ff (pv_neq rfl rfl) (fun h => h rfl)) rfl ?_
    refine ln_pv (pv_move rfl) rfl ?_
    refine ln_gf rfl rfl rfl rfl rfl ?_
    refine ln_pv (pv_pick rfl (fun _ => rfl) (fun _ => rfl)) rfl ?_
    refine ln_cd ?_
    refine cd_ff rfl ?_
    refine cd_skip ?_
    have hR := hR.step htA6 hvA6.1 (ptr_null (hasB_all hv0) (by decide) (by omega) hz6)
    obtain ⟨doneN6, hdN6⟩ : ∃ l, l = done5 ++ [.pointer none] := ⟨_, rfl⟩
    rw [← hdN6] at hR
    refine at_assoc ?_
    rw [← hdN6]
    refine at_cd ?_
    refine cd_sq ?_
    refine st_tags (F := F_DescribeTopicPartitionsRequest) hnt hR (keysT.open hk).1 rfl rfl rfl hT rfl Tryz.underlying143 rfl tipub_kmsg_Tags.size rfl (po_eq (show 4 = 1 + fszs _ by kernel_rfl)) tipub_kmsg_Tags.size rfl rfl (fun u7 v7 cs7 ht7 hv hM => ?_)
    refine at_cd ?_
    refine cd_sr ?_
    refine ln_callT (i := 0) (vals := [.pointer (some ⟨br, 0, none⟩)]) en_183 rfl rfl (fun u hu hok hav => rd_Complete u br _ hok hav) rfl ?_
    rintro u9 _ _ ht9 ⟨ux9, ⟨rfl, rfl⟩, hx9⟩
    refine ln_pv (pv_assign rfl) rfl ?_
    refine ln_cd ?_
    refine cd_ret ?_
    exact at_retT (i := 1) rfl rfl rfl (fun w hS => ⟨rfl, _, by rw [hmk], (hM.mv ht9).mv (hS.trFinT _ _)⟩)
  · skip
    refine cd_sq ?_
    refine rg_call rfl en_196 (fun u _ => rd_Int8 u 1) hP6 rfl (fun uA6 uxA6 vA6 cA6 htA6 _ hcA6 hvA6 => ?_)
    subst hcA6
    refine at_cd ?_
    refine cd_sr ?_
    refine ln_pv (pv_move rfl) rfl ?_
    refine ln_pv (pv_tt (pv_neq rfl rfl) (by decide)) rfl ?_
    refine ln_pv (pv_move rfl) rfl ?_
    refine ln_gE rfl rfl rfl ?_
    refine ln_callT (i := 0) (vals := [.pointer (some ⟨br, 0, none⟩)]) en_182 rfl rfl (fun u hu hok hav => rd_Ok u br _ hok hav) rfl ?_
    rintro uB6 _ _ htB6 ⟨_, ⟨rfl, rfl⟩, _⟩
    refine ln_pv (pv_pick rfl (fun _ => rfl) (fun _ => rfl)) rfl ?_
    refine ln_cd ?_
    refine cd_tt rfl ?_
    have hdl6 := hR.len
    refine cd_sr ?_
    refine ln_pv (pv_move rfl) rfl ?_
    refine ln_alloc (l := ([.string .empty, .int .i32 0, .map none] : List Value)) tipub_kmsg_DescribeTopicPartitionsRequestCursor rfl rfl (fun bP6 => ?_)
    refine ln_pv (pv_nilCheck rfl) rfl ?_
    refine ln_pv (pv_fieldAddr (r := 1 + (done5).length) Tryz.underlying143 rfl tiPt_kmsg_DescribeTopicPartitionsRequestCursor.size rfl rfl (by rw [hR.len]; exact po_eq (show 3 = 1 + fszs _ by kernel_rfl))) rfl ?_
    refine ln_storeG1 (i := 2) (off := (done5).length) (v := .pointer (some ⟨bP6, 0, none⟩)) hT rfl (by rw [List.length_append, hR.len]; kernel_rfl) rfl rfl rfl tiPt_kmsg_DescribeTopicPartitionsRequestCursor.size (by rw [hR.len]; exact Nat.le_of_ble_eq_true (by kernel_rfl)) ?_
    refine ln_cd ?_
    obtain ⟨doneN6, hdN6⟩ : ∃ l, l = done5 ++ [Value.pointer (some ⟨bP6, 0, none⟩)] := ⟨_, rfl⟩
    have hdlN6 : doneN6.length = (done5).length + 1 := by rw [hdN6]; simp
    obtain ⟨mkP6, hmkP6⟩ : ∃ mk : List Value → Ent, mk = fun w => .obj bP6 (.cells w.toArray 222) := ⟨_, rfl⟩
    have hTP6 : Tgt mkP6 bP6 0 3 := by rw [hmkP6]; exact Tgt.obj bP6 _ 3
    refine cd_perm (List.Perm.swap _ _ _) ?_
    refine cd_eqH (H' := RdE _ _ :: mkP6 ([.string .empty, .int .i32 0, .map none] : List Value) :: mk (doneN6 ++ ([.map none] : List Value)) :: _) (by rw [hmkP6, hdN6, ← set_done]; rfl) ?_
    refine cd_sr ?_
    refine ln_pv (pv_move rfl) rfl ?_
    refine ln_pv (pv_nilCheck rfl) rfl ?_
    refine ln_pv (pv_fieldAddr (r := 1 + (done5).length) Tryz.underlying143 rfl tiPt_kmsg_DescribeTopicPartitionsRequestCursor.size rfl rfl (by rw [hR.len]; exact po_eq (show 3 = 1 + fszs _ by kernel_rfl))) rfl ?_
    refine ln_pv (pv_ldG1 (i := 2) (off := (done5).length) (v := .pointer (some ⟨bP6, 0, none⟩)) hT rfl (by rw [List.length_append, hdlN6, hR.len]; kernel_rfl) Tryz.underlying141 rfl rfl (by rw [hdN6]; simp)) rfl ?_
    refine ln_pv (pv_assign rfl) rfl ?_
    refine ln_cd ?_
    refine cd_sq ?_
    refine rg_dflt (z2 := ([.string .empty, .int .i32 0, .map none] : List Value)) rfl en_209 (df_DescribeTopicPartitionsRequestCursor _ _ _) hTP6 rfl (fun u8 ht8 => ?_)
    refine at_cd ?_
    refine cd_sq ?_
    refine rg_move rfl rfl ?_
    refine at_cd ?_
    have hRo6 := hR
    have hnt6 : ntFs F_sDescribeTopicPartitionsRequestCursor = true := by kernel_rfl
    have hk6 : keysT (x.at_ 2) := hk.at_ 2
    have hR : Rs u8 [.mk 8 0 (-1) (-1) (-1) 0 0 [], .mk 3 0 (-1) (-1) (-1) 0 0 []] [] _ q (x.at_ 2) (.mk 0 [] false (imL F_sDescribeTopicPartitionsRequestCursor _ q (x.at_ 2) 0) (imU F_sDescribeTopicPartitionsRequestCursor q (x.at_ 2).u)) (tgsB q (x.at_ 2) ++ _) _ [] := Rs.start (F := F_sDescribeTopicPartitionsRequestCursor) (RSv.part hnt6 (RSv.mv hvA6.1 (htB6.trans ht8))) hnt6
    refine cd_eqH (H' := RdE _ _ :: mkP6 ([] ++ ([.string .empty, .int .i32 0, .map none] : List Value)) :: mk (doneN6 ++ ([.map none] : List Value)) :: _) rfl ?_
    have hz6 : (x.at_ 2).z = false := hz6
    obtain ⟨xP6, hxP6⟩ : ∃ z, z = (x.at_ 2) := ⟨_, rfl⟩
    rw [← hxP6] at hR hk6 hz6
    refine cd_sq ?_
    refine cd_sq ?_
    refine rg_const rfl ?_
    refine at_cd ?_
    refine st_str (z := .string .empty) hR (hasB_all hv0) rfl rfl rfl en_200 en_201 (fun h => Fc.of (by decide) (by decide) (by decide) (sc_cstr _ h _)) (fun h => Fc.of (by decide) (by decide) (by decide) (sc_str _ h _)) rfl hTP6 rfl Tryz.underlying222 rfl tistring.size rfl (po_eq (show 0 = 0 + fszs _ by kernel_rfl)) tistring.size rfl rfl rfl rfl rfl (fun u9 v9 done9 ht9 hR => ?_)
    refine at_cd ?_
    refine cd_sq ?_
    refine st_num (z := .int .i32 0) hR (hasB_all hv0) rfl en_179 (Fc.num (by decide) (by decide) (by decide) (fun null => sc_i32 null _ _)) rfl hTP6 rfl Tryz.underlying222 rfl tiint32.size rfl (po_eq (show 1 = 0 + fszs _ by kernel_rfl)) tiint32.size rfl rfl (fun u10 v10 done10 ht10 hR => ?_)
    refine at_cd ?_
    refine st_tags (F := F_sDescribeTopicPartitionsRequestCursor) hnt6 hR (keysT.open hk6).1 rfl rfl rfl hTP6 rfl Tryz.underlying222 rfl tipub_kmsg_Tags.size rfl (po_eq (show 2 = 0 + fszs _ by kernel_rfl)) tipub_kmsg_Tags.size rfl rfl (fun u11 v11 cs11 ht11 hv hM => ?_)
    refine at_freeP (hO_push hT (fun q hq => .inl (by simpa [Ent.blk] using hq)) _) (fun uF6 htF6 hKF6 => ?_)
    rw [hmkP6] at hKF6
    have hKF6 : OB uF6 bP6 _ := hKF6
    subst hxP6
    have hR := hRo6.step ((((((htA6.trans htB6).trans ht8).trans ht9).trans ht10).trans ht11).trans htF6) (RSv.mv hv htF6) (ptr_some (hasB_all hv0) (by decide) hz6 hKF6.rc (RMp.mv hM htF6))
    rw [← hdN6] at hR
    refine at_cd ?_
    refine cd_sq ?_
    refine st_tags (F := F_DescribeTopicPartitionsRequest) hnt hR (keysT.open hk).1 rfl rfl rfl hT rfl Tryz.underlying143 rfl tipub_kmsg_Tags.size rfl (po_eq (show 4 = 1 + fszs _ by kernel_rfl)) tipub_kmsg_Tags.size rfl rfl (fun u12 v12 cs12 ht12 hv hM => ?_)
    refine at_cd ?_
    refine cd_sr ?_
    refine ln_callT (i := 0) (vals := [.pointer (some ⟨br, 0, none⟩)]) en_183 rfl rfl (fun u hu hok hav => rd_Complete u br _ hok hav) rfl ?_
    rintro u9 _ _ ht9 ⟨ux9, ⟨rfl, rfl⟩, hx9⟩
    refine ln_pv (pv_assign rfl) rfl ?_
    refine ln_cd ?_
    refine cd_ret ?_
    exact at_retT (i := 1) rfl rfl rfl (fun w hS => ⟨rfl, _, by rw [hmk], (hM.mv ht9).mv (hS.trFinT _ _)⟩)
theorem newp_DescribeTopicPartitionsRequest (t : Vw) (hok : HF [] t.w) (hav : ∀ q ∈ blks [], t.av q) (hnd : (blks []).Nodup) : CH Tryz.prog 77 [] t [] fun u r E' => ∃ b, r = .pointer (some ⟨b, 0, none⟩) ∧ E' = [MsgBox b 143 [.int .i16 0, .slice none 0 0, .int .i32 2000, .pointer none, .map none]] := by
  refine ch_enter Tryz.func77 rfl Tryz.ntmps77 rfl hok hav hnd ?_
  refine cd_sr ?_
  refine ln_pv (pv_assign rfl) rfl ?_
  refine ln_cd ?_
  refine cd_sr ?_
  refine ln_alloc tipub_kmsg_DescribeTopicPartitionsRequest rfl rfl (fun b => ?_)
  refine ln_cd ?_
  refine cd_sr ?_
  refine ln_callT (i := 0) en_145 rfl rfl (fun u hu hok hav => df_DescribeTopicPartitionsRequest _ _ _ _ _ (fun w => .obj b (.cells w.toArray 143)) b 0 (Tgt.obj b 143 5) u hok hav) rfl ?_
  rintro u1 _ _ ht1 ⟨_, ⟨rfl, rfl⟩, _⟩
  refine ln_cd ?_
  refine cd_sr ?_
  refine ln_pv (pv_assign rfl) rfl ?_
  refine ln_cd ?_
  refine cd_ret ?_
  exact at_retHq [MsgBox b 143 [.int .i16 0, .slice none 0 0, .int .i32 2000, .pointer none, .map none]] (List.Sublist.refl _) rfl rfl (fun w hS => ⟨b, rfl, rfl⟩)
theorem setd_DescribeTopicPartitionsRequest (t : Vw) (b : Nat) (v : Int) (hok : (MsgBox b 143 [.int .i16 0, .slice none 0 0, .int .i32 2000, .pointer none, .map none]).ok t.w) (hav : ∀ q ∈ (MsgBox b 143 [.int .i16 0, .slice none 0 0, .int .i32 2000, .pointer none, .map none]).blk, t.av q) : CT Tryz.prog 81 [.pointer (some ⟨b, 0, none⟩), .int .i16 v] t (MsgBox b 143 [.int .i16 0, .slice none 0 0, .int .i32 2000, .pointer none, .map none]) fun u r e' => e' = MsgBox b 143 [.int .i16 v, .slice none 0 0, .int .i32 2000, .pointer none, .map none] := by
  refine ct_enter Tryz.func81 rfl Tryz.ntmps81 rfl hok hav (by simp [Ent.blk]) ?_
  refine cd_region ?_
  refine ln_pv (pv_move rfl) rfl ?_
  refine ln_pv (pv_move rfl) rfl ?_
  refine ln_pv (pv_nilCheck rfl) rfl ?_
  refine ln_pv (pv_fieldAddr (off := 0) (r := 0) Tryz.underlying143 rfl (tiint16).size rfl rfl rfl) rfl ?_
  refine ln_store1 (i := 0) rfl rfl rfl rfl (tiint16).size rfl ?_
  refine ln_nil ?_
  exact at_retT0 (i := 0) rfl rfl (fun w hS => rfl)
theorem readf_DescribeTopicPartitionsRequest (t : Vw) (b : Nat) (v : Int) (x : Tre) (sv : Value) (hsv : RSv t sv (partB F_DescribeTopicPartitionsRequest v (flexB 0 v) x)) (hk : keysT x) (h0 : 0 ≤ v) (h1 : v ≤ 0) (hok : (MsgBox b 143 (.int .i16 v :: ([.slice none 0 0, .int .i32 2000, .pointer none, .map none] : List Value))).ok t.w) (hav : ∀ q ∈ (MsgBox b 143 (.int .i16 v :: ([.slice none 0 0, .int .i32 2000, .pointer none, .map none] : List Value))).blk, t.av q) : CT Tryz.prog 82 [.pointer (some ⟨b, 0, none⟩), sv] t (MsgBox b 143 (.int .i16 v :: ([.slice none 0 0, .int .i32 2000, .pointer none, .map none] : List Value))) fun u r e' => r = .nilIface ∧ ∃ cells, e' = MsgBox b 143 (.int .i16 v :: cells) ∧ RMp u F_DescribeTopicPartitionsRequest (imT F_DescribeTopicPartitionsRequest v (flexB 0 v) x) cells := by
  refine ct_enter Tryz.func82 rfl Tryz.ntmps82 rfl hok hav (by simp [Ent.blk]) ?_
  refine cd_sr ?_
  refine ln_pv (pv_assign rfl) rfl ?_
  refine ln_cd ?_
  refine cd_sr ?_
  refine ln_pv (pv_move rfl) rfl ?_
  refine ln_pv (pv_move rfl) rfl ?_
  refine ln_callT (i := 0) en_146 rfl rfl (fun u hu hok hav => read_DescribeTopicPartitionsRequest u b v x sv (RSv.mv hsv hu) hk h0 h1 hok hav) rfl ?_
  rintro u2 _ _ ht2 ⟨ux, ⟨rfl, cells, rfl, hM⟩, hx⟩
  refine ln_pv (pv_assign rfl) rfl ?_
  refine ln_cd ?_
  refine cd_ret ?_
  exact at_retT (i := 0) rfl rfl rfl (fun w hS => ⟨rfl, cells, rfl, (hM.mv hx).mv (hS.trFinT _ _)⟩)
theorem tellx_DescribeTopicPartitionsRequest (t : Vw) (v : Int) (x : Tre) (sv : Value) (hsv : RSv t sv (partB F_DescribeTopicPartitionsRequest v (flexB 0 v) x)) (hk : keysT x) (h0 : 0 ≤ v) (h1 : v ≤ 0) (hB : (partB F_DescribeTopicPartitionsRequest v (flexB 0 v) x).length ≤ 1099511627776) : CA Tryz.prog 30 [.int .i64 v, sv] t fun u r => ∃ (ds : List Value), r = .tuple #[.agg ds.toArray, .bool true] ∧ RT u (tlT F_DescribeTopicPartitionsRequest (imT F_DescribeTopicPartitionsRequest v (flexB 0 v) x)) ds := by
  refine ca_enter Tryz.func30 rfl Tryz.ntmps30 rfl ?_
  refine cd_sr ?_
  refine ln_alloc (l := [_, _, _, _, _]) tiimpl_Tree rfl rfl (fun br => ?_)
  refine ln_pv (pv_assign rfl) rfl ?_
  refine ln_cd ?_
  refine cd_sr ?_
  refine ln_callH (E := []) (H0 := [_]) (List.Perm.refl _) en_77 rfl (fun u hu hok hav hnd => newp_DescribeTopicPartitionsRequest u hok hav hnd) rfl ?_
  rintro u1 _ _ ht1 ⟨_, ⟨b, rfl, rfl⟩, _⟩
  refine ln_pv (pv_assign rfl) rfl ?_
  refine ln_cd ?_
  refine cd_sr ?_
  refine ln_pv (pv_move rfl) rfl ?_
  refine ln_pv (pv_move rfl) rfl ?_
  refine ln_pv (pv_conv' Tryz.underlying3 Tryz.underlying46 rfl (r := v) (wrap_i16_in (by omega) (by omega))) rfl ?_
  refine ln_callT (i := 0) en_81 rfl rfl (fun u hu hok hav => setd_DescribeTopicPartitionsRequest u b v hok hav) rfl ?_
  rintro u2 _ _ ht2 ⟨_, rfl, _⟩
  refine ln_cd ?_
  have hsv := hsv.mv (ht1.trans ht2)
  refine cd_seq ?_
  refine cd_sr ?_
  refine ln_pv (pv_move rfl) rfl ?_
  refine ln_pv (pv_move rfl) rfl ?_
  refine ln_nilrow 5 1 ?_
  refine ln_append (i := 0) rfl Tryz.underlying22 tiuint8 rfl (by decide) rfl rfl (RS.src hsv) (by simp only [maxLen]; omega) (by omega) rfl (k' := (partB F_DescribeTopicPartitionsRequest v (flexB 0 v) x).length) (xs' := u8s (partB F_DescribeTopicPartitionsRequest v (flexB 0 v) x)) (by omega) (by simp) (fun va hva => ?_)
  refine ln_free1 (fun q h => h.elim) (fun s3 ht3 hK => ?_)
  have hs3 : RSv s3 va (partB F_DescribeTopicPartitionsRequest v (flexB 0 v) x) := Known.rs hK (u8s_one _)
  clear hK
  refine ln_callT (i := 0) en_82 rfl rfl (fun u hu hok hav => readf_DescribeTopicPartitionsRequest u b v x _ (RSv.mv hs3 hu) hk h0 h1 hok hav) rfl ?_
  rintro u4 _ _ ht4 ⟨ux4, ⟨rfl, cells, rfl, hM⟩, hx4⟩
  have hM := hM.mv hx4
  refine ln_pv (pv_neqI Tryz.underlying55 rfl) rfl ?_
  refine ln_cd ?_
  refine cd_ff rfl ?_
  refine cd_skip ?_
  refine at_cd ?_
  refine cd_free1 (fun q h => h.elim) (fun s9 hs9 hK => ?_)
  have hob : OB s9 b (.cells (.int .i16 v :: cells).toArray 143) := hK
  clear hK
  have hM := hM.mv hs9
  refine cd_sr ?_
  refine ln_pv (pv_move rfl) rfl ?_
  refine ln_callA en_83 rfl (fun u hu => tell_DescribeTopicPartitionsRequest u b v (imT F_DescribeTopicPartitionsRequest v (flexB 0 v) x) cells (hob.mv hu).rc (hM.mv hu) (tgT_im _ _ _ hk)) rfl (fun u7 v7 ht7 hR7 => ?_)
  obtain ⟨ds, rfl, hds⟩ := hR7
  refine ln_storeW (i := 0) rfl rfl rfl rfl tiimpl_Tree.size hds.len hds.cells ?_
  refine ln_pv (pv_assign rfl) rfl ?_
  refine ln_cd ?_
  refine cd_ret ?_
  exact at_retCA2 (i := 0) rfl rfl rfl rfl Tryz.underlying37 rfl tiimpl_Tree.size hds.len (fun w hS => ⟨ds, rfl, hds.mv hS.trFin⟩)
theorem law_DescribeTopicPartitionsRequest (t : Vw) (n : Nat) (x : Tre) (cs : List Value) (hn8 : n < 256) (hx : RT t x cs) (hkx : keysT x) (hsm : smT x) (hB : (writeB F_DescribeTopicPartitionsRequest 0 ((versionN n 0 : Nat) : Int) x).length < 1099511627776) : CS Tryz.prog 6 [.int .u8 (n : Int), .agg cs.toArray] t (.bool true) := by
  obtain ⟨sS, sL, sU, rfl, hn, hS, ⟨lc, hL, hLs⟩, hU⟩ := hx.open
  obtain ⟨adS, cS, rfl, hleS⟩ := hS.shape
  obtain ⟨adL, cL, rfl, hleL⟩ := hL.shape
  have hU0 := hU
  obtain ⟨uc, hU1, hUs⟩ := hU0
  obtain ⟨hz1, hz2, hz3, hz4⟩ := hsm.open
  have hok := ok_F_DescribeTopicPartitionsRequest
  have hvn : versionN n 0 ≤ 0 := by have := Nat.mod_lt n (show 0 < 0 + 1 by omega); unfold versionN; omega
  refine CA.cs ?_
  refine ca_enter Tryz.func6 rfl Tryz.ntmps6 rfl ?_
  cases hft : fits1 x with
  | false =>
    refine cd_sr ?_
    refine ln_box rfl rfl rfl (fun b1 => ?_)
    refine ln_pv (pv_assign rfl) rfl ?_
    refine ln_cd ?_
    refine cd_seq ?_
    refine cd_sr ?_
    refine ln_pv (pv_ldO (i := 0) rfl Tryz.underlying26 rfl (tispec_Tree).size rfl rfl) rfl ?_
    refine ln_callS en_13 rfl (fun u hu => by have h := laws_zzFits1 u x _ (RT.mv hx hu) (by omega); rwa [hft] at h) rfl ?_
    refine ln_pv (pv_not rfl) rfl ?_
    refine ln_cd ?_
    refine cd_tt rfl ?_
    refine cd_sr ?_
    refine ln_pv (pv_assign rfl) rfl ?_
    refine ln_cd ?_
    refine cd_ret ?_
    refine at_retA rfl rfl (fun w hS => ?_)
    rfl
  | true =>
    refine cd_sr ?_
    refine ln_box rfl rfl rfl (fun b1 => ?_)
    refine ln_pv (pv_assign rfl) rfl ?_
    refine ln_cd ?_
    refine cd_seq ?_
    refine cd_sr ?_
    refine ln_pv (pv_ldO (i := 0) rfl Tryz.underlying26 rfl (tispec_Tree).size rfl rfl) rfl ?_
    refine ln_callS en_13 rfl (fun u hu => by have h := laws_zzFits1 u x _ (RT.mv hx hu) (by omega); rwa [hft] at h) rfl ?_
    refine ln_pv (pv_not rfl) rfl ?_
    refine ln_cd ?_
    refine cd_ff rfl ?_
    refine cd_skip ?_
    refine at_cd ?_
    refine cd_sr ?_
    refine ln_callS en_28 rfl (fun u hu => max_DescribeTopicPartitionsRequest u) rfl ?_
    refine ln_pv (pv_assign rfl) rfl ?_
    refine ln_cd ?_
    refine cd_seq ?_
    refine cd_sr ?_
    refine ln_pv (pv_move rfl) rfl ?_
    refine ln_pv (pv_ff (pv_lss rfl rfl) (by omega)) rfl ?_
    refine ln_cd ?_
    refine cd_ff rfl ?_
    refine cd_skip ?_
    refine at_cd ?_
    refine cd_sr ?_
    refine ln_callA en_29 rfl (fun u hu => sch_F_DescribeTopicPartitionsRequest u) rfl (fun u1 v1 ht1 hR1 => ?_)
    have hx := hx.mv ht1
    obtain ⟨sv, lcm, rfl, hVm, hFm⟩ := hR1
    refine ln_pv (pv_move rfl) rfl ?_
    refine ln_pv (pv_move rfl) rfl ?_
    refine ln_callS en_16 rfl (fun u hu => laws_version u n 0 hn8 (by omega)) rfl ?_
    refine ln_alloc tispec_Message rfl rfl (fun b2 => ?_)
    refine ln_storeW (i := 0) rfl rfl rfl rfl (tispec_Message).size rfl (by simp [(RS.one hVm)]) ?_
    refine ln_pv (pv_assign rfl) rfl ?_
    refine ln_cd ?_
    refine cd_sr ?_
    refine ln_pv (pv_move rfl) rfl ?_
    refine ln_pv (pv_ldO (i := 0) rfl Tryz.underlying31 rfl (tispec_Message).size rfl rfl) rfl ?_
    refine ln_pv (pv_move rfl) rfl ?_
    refine ln_pv (pv_ldO (i := 1) rfl Tryz.underlying26 rfl (tispec_Tree).size rfl rfl) rfl ?_
    refine ln_callA en_18 rfl (fun u hu => spec_Write F_DescribeTopicPartitionsRequest 0 hok.1 hok.2.2 u _ _ _ ((versionN n 0 : Nat) : Int) x (RS.mv hVm hu) (RFs.mv hFm hu) (RT.mv hx hu) hsm hB) rfl (fun u2 v2 ht2 hR2 => ?_)
    have hx := hx.mv ht2
    have hVm := hVm.mv ht2
    have hFm := hFm.mv ht2
    refine ln_callA en_30 rfl (fun u hu => tellx_DescribeTopicPartitionsRequest u ((versionN n 0 : Nat) : Int) x _ (RSv.mv hR2 hu) hkx (by omega) (by omega) (by rw [show partB F_DescribeTopicPartitionsRequest ((versionN n 0 : Nat) : Int) (flexB 0 ((versionN n 0 : Nat) : Int)) x = writeB F_DescribeTopicPartitionsRequest 0 ((versionN n 0 : Nat) : Int) x from rfl]; omega)) rfl (fun u3 v3 ht3 hR3 => ?_)
    have hx := hx.mv ht3
    have hVm := hVm.mv ht3
    have hFm := hFm.mv ht3
    have hR2 := hR2.mv ht3
    obtain ⟨ds, rfl, hT⟩ := hR3
    refine ln_pv (pv_move rfl) rfl ?_
    refine ln_pv (pv_extract rfl rfl) rfl ?_
    refine ln_pv (pv_extract rfl rfl) rfl ?_
    refine ln_alloc tiimpl_Tree rfl rfl (fun b3 => ?_)
    refine ln_storeW (i := 0) rfl rfl rfl rfl (tiimpl_Tree).size hT.len hT.cells ?_
    refine ln_pv (pv_assign rfl) rfl ?_
    refine ln_cd ?_
    refine cd_dr' [0, 1, 2] [1, 2, 3, 4, 5, 6, 8, 9, 12, 13] [0, 1, 2, 3, 4, 5, 6, 8, 9, 7, 10, 11, 12, 13] mixed (by kernel_rfl) ?_
    refine lo_eff rfl rfl ?_
    refine ln_pv (pv_move rfl) rfl ?_
    refine lo_back (sk_js (Tr.refl _) [0, 1, 2] rfl) ?_
    refine lo_pv rfl rfl (sk_js (Tr.refl _) [0, 1, 2] rfl) (pv_move rfl) rfl ?_
    refine lo_gt rfl rfl (sk_js (Tr.refl _) [0, 1, 2] rfl) rfl rfl rfl (pv_fieldAddr (off := 0) (r := 0) Tryz.underlying31 rfl (tiSl_spec_Field).size rfl rfl rfl) rfl ?_
    refine lo_gt rfl rfl (sk_js (Tr.refl _) [0, 1, 2] rfl) rfl rfl rfl (pv_ldo (i := 1) rfl Tryz.underlying29 rfl rfl rfl) rfl ?_
    refine lo_gt rfl rfl (sk_js (Tr.refl _) [0, 1, 2] rfl) rfl rfl rfl (pv_move rfl) rfl ?_
    refine lo_gt rfl rfl (sk_js (Tr.refl _) [0, 1, 2] rfl) rfl rfl rfl (pv_ldO (i := 1) rfl Tryz.underlying31 rfl (tispec_Message).size rfl rfl) rfl ?_
    refine lo_gt rfl rfl (sk_js (Tr.refl _) [0, 1, 2] rfl) rfl rfl rfl (pv_move rfl) rfl ?_
    refine lo_gt rfl rfl (sk_js (Tr.refl _) [0, 1, 2] rfl) rfl rfl rfl (pv_ldO (i := 2) rfl Tryz.underlying26 rfl (tispec_Tree).size rfl rfl) rfl ?_
    refine lo_gt rfl rfl (sk_js (Tr.refl _) [0, 1, 2] rfl) rfl rfl rfl (pv_ldO (i := 0) rfl Tryz.underlying37 rfl (tiimpl_Tree).size rfl hT.len) rfl ?_
    refine lo_eff rfl rfl ?_
    refine ln_gE rfl rfl rfl ?_
    refine ln_callS en_20 rfl (fun u hu => spec_Flexible u _ _ _ 0 ((versionN n 0 : Nat) : Int) (RS.mv hVm hu)) rfl ?_
    refine lo_back (sk_js (Tr.refl _) [0, 1, 2] rfl) ?_
    refine lo_eff rfl rfl ?_
    refine ln_gE rfl rfl rfl ?_
    refine ln_callA en_21 rfl (fun u hu => laws_got (tlT F_DescribeTopicPartitionsRequest (imT F_DescribeTopicPartitionsRequest ((versionN n 0 : Nat) : Int) (flexB 0 ((versionN n 0 : Nat) : Int)) x)) u _ (RT.mv hT hu) (smT_tlT hok.1 (by decide) (tgT_im _ _ _ hkx))) rfl (fun u4 v4 ht4 hR4 => ?_)
    have hx := hx.mv ht4
    have hVm := hVm.mv ht4
    have hFm := hFm.mv ht4
    have hR2 := hR2.mv ht4
    have hT := hT.mv ht4
    obtain ⟨dg, rfl, hG⟩ := hR4
    refine lo_back (sk_js ht4 [0, 1, 2] rfl) ?_
    refine lo_eff rfl rfl ?_
    refine ln_gE rfl rfl rfl ?_
    refine ln_callS en_19 rfl (fun u hu => spec_Told F_DescribeTopicPartitionsRequest hok.1 (by kernel_rfl) (by decide) u _ _ _ _ _ _ x _ (RS.mv hVm hu) (RFs.mv hFm hu) (RT.mv hx hu) hsm (RT.mv hG hu) (smT_tlT hok.1 (by decide) (tgT_im _ _ _ hkx)) (toT_im F_DescribeTopicPartitionsRequest _ _ (by kernel_rfl) hx.nT)) rfl ?_
    refine lo_back (sk_js ht4 [0, 1, 2] rfl) ?_
    refine lo_pv rfl rfl (sk_js ht4 [0, 1, 2] rfl) (pv_pick rfl (fun _ => rfl) (fun _ => rfl)) rfl ?_
    refine lo_pv rfl rfl (sk_js ht4 [0, 1, 2] rfl) (pv_assign rfl) rfl ?_
    refine lo_cd ?_
    refine cd_ret ?_
    refine at_retA rfl rfl (fun w hS => ?_)
    rfl
theorem fn_DescribeTopicPartitionsRequest (t : Vw) (n : Nat) (x : Tre) (cs : List Value) (hn : n < 256) (hx : RT t x cs) (hw : wt x ≤ 1048576) : CS Tryz.prog 6 [.int .u8 (n : Int), .agg cs.toArray] t (.bool true) := by
  have hok := ok_F_DescribeTopicPartitionsRequest
  exact law_DescribeTopicPartitionsRequest t n x cs hn hx hx.keys (smT_wt x (by omega)) (writeB_len _ _ _ x hok.1 hx.keys hw (of_decide_eq_true (by kernel_rfl)))
end K
end Go.Proofs.YtekafeogilbjmaaGreatDoor
