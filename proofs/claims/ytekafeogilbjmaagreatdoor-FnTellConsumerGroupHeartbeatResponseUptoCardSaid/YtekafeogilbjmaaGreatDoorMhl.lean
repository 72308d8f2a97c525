import Derived.Test.YtekafeogilbjmaaGreatDoorTn
import Derived.Test.YtekafeogilbjmaaGreatDoorTk
import Derived.Test.YtekafeogilbjmaaGreatDoorW4
import Derived.Test.YtekafeogilbjmaaGreatDoorMht
import Derived.Test.YtekafeogilbjmaaGreatDoorP4
import Derived.Test.YtekafeogilbjmaaGreatDoorS10
set_option linter.unusedVariables false
set_option linter.unusedSimpArgs false
namespace Go.Proofs.YtekafeogilbjmaaGreatDoor
namespace K
open Go Go.Lib
theorem df_ConsumerGroupHeartbeatResponse (z0 z1 z2 z3 z4 z5 z6 z7 z8 : Value) : DfC 164 [z0, z1, z2, z3, z4, z5, z6, z7, z8] [z0, z1, z2, z3, z4, z5, z6, z7, z8] := by
  intro mk b o hT t hok hav
  refine ct_enter Tryz.func164 rfl Tryz.ntmps164 rfl hok hav (by rw [hT.blk]; simp) ?_
  refine cd_sr ?_
  refine ln_pv (pv_move rfl) rfl ?_
  refine ln_pv (pv_nilCheck rfl) rfl ?_
  refine ln_pv (pv_fieldAddr (off := 7) Tryz.underlying176 rfl tiPt_kmsg_ConsumerGroupHeartbeatResponseAssignment.size rfl rfl rfl) rfl ?_
  refine ln_pv (pv_assign rfl) rfl ?_
  refine ln_cd ?_
  refine cd_region ?_
  refine ln_pv (pv_move rfl) rfl ?_
  refine ln_nil ?_
  exact at_retT0 (i := 0) rfl rfl (fun w hS => ⟨rfl, rfl⟩)
theorem df_ConsumerGroupHeartbeatResponseAssignment (z0 z1 : Value) : DfC 220 [z0, z1] [z0, z1] := by
  intro mk b o hT t hok hav
  refine ct_enter Tryz.func220 rfl Tryz.ntmps220 rfl hok hav (by rw [hT.blk]; simp) ?_
  refine cd_skip ?_
  exact at_retT0 (i := 0) rfl rfl (fun w hS => ⟨rfl, rfl⟩)
theorem df_ConsumerGroupHeartbeatResponseAssignmentTopic (z0 z1 z2 z3 z4 z5 z6 z7 z8 z9 z10 z11 z12 z13 z14 z15 z16 z17 : Value) : DfC 221 [z0, z1, z2, z3, z4, z5, z6, z7, z8, z9, z10, z11, z12, z13, z14, z15, z16, z17] [z0, z1, z2, z3, z4, z5, z6, z7, z8, z9, z10, z11, z12, z13, z14, z15, z16, z17] := by
  intro mk b o hT t hok hav
  refine ct_enter Tryz.func221 rfl Tryz.ntmps221 rfl hok hav (by rw [hT.blk]; simp) ?_
  refine cd_skip ?_
  exact at_retT0 (i := 0) rfl rfl (fun w hS => ⟨rfl, rfl⟩)
theorem read_ConsumerGroupHeartbeatResponse (t : Vw) (b : Nat) (v : Int) (x : Tre) (sv : Value) (hsv : RSv t sv (partB F_ConsumerGroupHeartbeatResponse v (flexB 0 v) x)) (hk : keysT x) (h0 : 0 ≤ v) (h1 : v ≤ 1) (hok : (MsgBox b 176 (.int .i16 v :: ([.int .i32 0, .int .i16 0, .pointer none, .pointer none, .int .i32 0, .int .i32 0, .pointer none, .map none] : List Value))).ok t.w) (hav : ∀ q ∈ (MsgBox b 176 (.int .i16 v :: ([.int .i32 0, .int .i16 0, .pointer none, .pointer none, .int .i32 0, .int .i32 0, .pointer none, .map none] : List Value))).blk, t.av q) : CT Tryz.prog 166 [.pointer (some ⟨b, 0, none⟩), sv, .bool false] t (MsgBox b 176 (.int .i16 v :: ([.int .i32 0, .int .i16 0, .pointer none, .pointer none, .int .i32 0, .int .i32 0, .pointer none, .map none] : List Value))) fun u r e' => r = .nilIface ∧ ∃ cells, e' = MsgBox b 176 (.int .i16 v :: cells) ∧ RMp u F_ConsumerGroupHeartbeatResponse (imT F_ConsumerGroupHeartbeatResponse v (flexB 0 v) x) cells := by
  have hv0 := h0
  have hnt : ntFs F_ConsumerGroupHeartbeatResponse = true := by kernel_rfl
  generalize hqd : flexB 0 v = q at *
  have hq0 : decide (v ≥ 0) = q := by rw [← hqd]; simp [flexB]
  obtain ⟨adS, cS, rfl, hcS⟩ := RSv.shape hsv
  refine ct_enter Tryz.func166 rfl Tryz.ntmps166 rfl hok hav (by simp [Ent.blk]) ?_
  refine cd_sq ?_
  refine rg_const rfl ?_
  refine at_cd ?_
  refine cd_sr ?_
  refine ln_pv (pv_move rfl) rfl ?_
  refine ln_callT (i := 0) (vals := [.pointer (some ⟨b, 0, none⟩)]) en_164 rfl rfl (fun u hu hok hav => df_ConsumerGroupHeartbeatResponse _ _ _ _ _ _ _ _ _ (fun w => .obj b (.cells w.toArray 176)) b 0 (Tgt.obj b 176 9) u hok hav) rfl ?_
  rintro u1 _ _ ht1 ⟨ux1, ⟨rfl, rfl⟩, hx1⟩
  refine ln_cd ?_
  refine cd_sr ?_
  refine ln_pv (pv_move rfl) rfl ?_
  refine ln_pv (pv_struct [(0, 1), (1, 1)] (l := [_, _]) rfl Tryz.underlying199 tipub_kmsg_inner_kbin_Reader (by kernel_rfl) rfl rfl) rfl ?_
  refine ln_alloc (l := [.slice none 0 0, .bool false]) tipub_kmsg_inner_kbin_Reader rfl rfl (fun br => ?_)
  refine ln_storeW (i := 0) (vs := [_, .bool false]) rfl rfl rfl rfl tipub_kmsg_inner_kbin_Reader.size rfl (by simp) ?_
  refine ln_cd ?_
  refine cd_sr ?_
  refine ln_pv (pv_move rfl) rfl ?_
  refine ln_pv (pv_nilCheck rfl) rfl ?_
  refine ln_pv (pv_fieldAddr (off := 0) (r := 0) Tryz.underlying176 rfl tiint16.size rfl rfl rfl) rfl ?_
  refine ln_pv (pv_ldo (i := 1) (v := .int .i16 v) rfl Tryz.underlying46 rfl rfl rfl) rfl ?_
  refine ln_pv (pv_assign rfl) rfl ?_
  refine ln_cd ?_
  refine cd_sq ?_
  refine rg_blank rfl rfl ?_
  refine at_cd ?_
  refine cd_sr ?_
  refine ln_pv (pv_move rfl) rfl ?_
  refine ln_pv (pv_geq rfl rfl) rfl ?_
  refine ln_pv (pv_assign rfl) rfl ?_
  rw [hq0]
  refine ln_cd ?_
  refine cd_sq ?_
  refine rg_blank rfl rfl ?_
  refine at_cd ?_
  refine cd_sr ?_
  refine ln_pv (pv_move rfl) rfl ?_
  refine ln_pv (pv_assign rfl) rfl ?_
  refine ln_cd ?_
  refine cd_sub_ (L' := [(10, .pointer (some ⟨b, 0, none⟩)), (9, .bool q), (8, .int .i16 v), (7, .pointer (some ⟨br, 0, none⟩)), (2, .bool false)]) (.put rfl (.put rfl (.put rfl (.put rfl (.put rfl .nil))))) ?_
  obtain ⟨mk, hmk⟩ : ∃ mk : List Value → Ent, mk = fun w => MsgBox b 176 (.int .i16 v :: w) := ⟨_, rfl⟩
  have hT : Tgt mk b 1 8 := by rw [hmk]; exact Tgt.behind b 176 _ 8
  refine cd_eqH (H' := [RdE br _, mk ([] ++ ([.int .i32 0, .int .i16 0, .pointer none, .pointer none, .int .i32 0, .int .i32 0, .pointer none, .map none] : List Value))]) (by rw [hmk]; rfl) ?_
  have hR : Rs u1 [.mk 3 0 (-1) (-1) (-1) 0 0 [], .mk 2 0 (-1) (-1) (-1) 0 0 [], .mk 8 0 (-1) 0 (-1) 0 0 [], .mk 8 0 (-1) 0 (-1) 0 0 [], .mk 3 0 (-1) (-1) (-1) 0 0 [], .mk 3 0 (-1) (-1) (-1) 0 0 [], .mk 10 0 (-1) 0 (-1) 0 0 F_sConsumerGroupHeartbeatResponseAssignment] [] v q x (imT F_ConsumerGroupHeartbeatResponse v q x) (tgsB q x ++ []) _ [] := Rs.start (F := F_ConsumerGroupHeartbeatResponse) (RSv.part hnt (by rw [List.append_nil]; exact RSv.mv hsv ht1)) hnt
  refine cd_sq ?_
  refine st_num (z := .int .i32 0) hR (hasB_all hv0) rfl en_179 (Fc.num (by decide) (by decide) (by decide) (fun null => sc_i32 null _ _)) rfl hT rfl Tryz.underlying176 rfl tiint32.size rfl (po_eq (show 1 = 1 + fszs _ by kernel_rfl)) tiint32.size rfl rfl (fun u1 v1 done1 ht1 hR => ?_)
  refine at_cd ?_
  refine cd_sq ?_
  refine st_num (z := .int .i16 0) hR (hasB_all hv0) rfl en_185 (Fc.num (by decide) (by decide) (by decide) (fun null => sc_i16 null _ _)) rfl hT rfl Tryz.underlying176 rfl tiint16.size rfl (po_eq (show 2 = 1 + fszs _ by kernel_rfl)) tiint16.size rfl rfl (fun u2 v2 done2 ht2 hR => ?_)
  refine at_cd ?_
  refine cd_sq ?_
  refine cd_sq ?_
  refine rg_const rfl ?_
  refine at_cd ?_
  refine st_txt (z := .pointer none) hR (hasB_all hv0) rfl rfl rfl en_187 en_189 (fun h => fc_ctxt (by decide) h) (fun h => fc_txt (by decide) h) rfl hT rfl Tryz.underlying176 rfl tiPt_string.size rfl (po_eq (show 3 = 1 + fszs _ by kernel_rfl)) tiPt_string.size rfl rfl rfl rfl rfl rfl (fun u3 v3 done3 ht3 hR => ?_)
  refine at_cd ?_
  refine cd_sq ?_
  refine cd_sq ?_
  refine rg_const rfl ?_
  refine at_cd ?_
  refine st_txt (z := .pointer none) hR (hasB_all hv0) rfl rfl rfl en_187 en_189 (fun h => fc_ctxt (by decide) h) (fun h => fc_txt (by decide) h) rfl hT rfl Tryz.underlying176 rfl tiPt_string.size rfl (po_eq (show 4 = 1 + fszs _ by kernel_rfl)) tiPt_string.size rfl rfl rfl rfl rfl rfl (fun u4 v4 done4 ht4 hR => ?_)
  refine at_cd ?_
  refine cd_sq ?_
  refine st_num (z := .int .i32 0) hR (hasB_all hv0) rfl en_179 (Fc.num (by decide) (by decide) (by decide) (fun null => sc_i32 null _ _)) rfl hT rfl Tryz.underlying176 rfl tiint32.size rfl (po_eq (show 5 = 1 + fszs _ by kernel_rfl)) tiint32.size rfl rfl (fun u5 v5 done5 ht5 hR => ?_)
  refine at_cd ?_
  refine cd_sq ?_
  refine st_num (z := .int .i32 0) hR (hasB_all hv0) rfl en_179 (Fc.num (by decide) (by decide) (by decide) (fun null => sc_i32 null _ _)) rfl hT rfl Tryz.underlying176 rfl tiint32.size rfl (po_eq (show 6 = 1 + fszs _ by kernel_rfl)) tiint32.size rfl rfl (fun u6 v6 done6 ht6 hR => ?_)
  refine at_cd ?_
  refine cd_sq ?_
  have hP7 := hR.has (hasB_all hv0)
  rcases ptr_cases (by decide) (by omega) hP7 with ⟨hz7, hP7⟩ | ⟨hz7, hP7⟩
  · skip
    refine cd_sq ?_
    refine rg_call rfl en_196 (fun u _ => rd_Int8 u 255) hP7 rfl (fun uA7 uxA7 vA7 cA7 htA7 _ hcA7 hvA7 => ?_)
    subst hcA7
    refine at_cd ?_
    refine cd_sr ?_
    refine ln_pv (pv_move rfl) rfl ?_
    refine ln_pv (pv_ff (pv_neq rfl rfl) (fun h => h rfl)) rfl ?_
    refine ln_pv (pv_move rfl) rfl ?_
    refine ln_gf rfl rfl rfl rfl rfl ?_
    refine ln_pv (pv_pick rfl (fun _ => rfl) (fun _ => rfl)) rfl ?_
    refine ln_cd ?_
    refine cd_ff rfl ?_
    refine cd_skip ?_
    have hR := hR.step htA7 hvA7.1 (ptr_null (hasB_all hv0) (by decide) (by omega) hz7)
    obtain ⟨doneN7, hdN7⟩ : ∃ l, l = done6 ++ [.pointer none] := ⟨_, rfl⟩
    rw [← hdN7] at hR
    refine at_assoc ?_
    rw [← hdN7]
    refine at_cd ?_
    refine cd_sq ?_
    refine st_tags (F := F_ConsumerGroupHeartbeatResponse) hnt hR (keysT.open hk).1 rfl rfl rfl hT rfl Tryz.underlying176 rfl tipub_kmsg_Tags.size rfl (po_eq (show 8 = 1 + fszs _ by kernel_rfl)) tipub_kmsg_Tags.size rfl rfl (fun u8 v8 cs8 ht8 hv hM => ?_)
    refine at_cd ?_
    refine cd_sr ?_
    refine ln_callT (i := 0) (vals := [.pointer (some ⟨br, 0, none⟩)]) en_183 rfl rfl (fun u hu hok hav => rd_Complete u br _ hok hav) rfl ?_
    rintro u9 _ _ ht9 ⟨ux9, ⟨rfl, rfl⟩, hx9⟩
    refine ln_pv (pv_assign rfl) rfl ?_
    refine ln_cd ?_
    refine cd_ret ?_
    exact at_retT (i := 1) rfl rfl rfl (fun w hS => ⟨rfl, _, by rw [hmk], (hM.mv ht9).mv (hS.trFinT _ _)⟩)
  · skip
    refine cd_sq ?_
    refine rg_call rfl en_196 (fun u _ => rd_Int8 u 1) hP7 rfl (fun uA7 uxA7 vA7 cA7 htA7 _ hcA7 hvA7 => ?_)
    subst hcA7
    refine at_cd ?_
    refine cd_sr ?_
    refine ln_pv (pv_move rfl) rfl ?_
    refine ln_pv (pv_tt (pv_neq rfl rfl) (by decide)) rfl ?_
    refine ln_pv (pv_move rfl) rfl ?_
    refine ln_gE rfl rfl rfl ?_
    refine ln_callT (i := 0) (vals := [.pointer (some ⟨br, 0, none⟩)]) en_182 rfl rfl (fun u hu hok hav => rd_Ok u br _ hok hav) rfl ?_
    rintro uB7 _ _ htB7 ⟨_, ⟨rfl, rfl⟩, _⟩
    refine ln_pv (pv_pick rfl (fun _ => rfl) (fun _ => rfl)) rfl ?_
    refine ln_cd ?_
    refine cd_tt rfl ?_
    have hdl7 := hR.len
    refine cd_sr ?_
    refine ln_pv (pv_move rfl) rfl ?_
    refine ln_alloc (l := ([.slice none 0 0, .map none] : List Value)) tipub_kmsg_ConsumerGroupHeartbeatResponseAssignment rfl rfl (fun bP7 => ?_)
    refine ln_pv (pv_nilCheck rfl) rfl ?_
    refine ln_pv (pv_fieldAddr (r := 1 + (done6).length) Tryz.underlying176 rfl tiPt_kmsg_ConsumerGroupHeartbeatResponseAssignment.size rfl rfl (by rw [hR.len]; exact po_eq (show 7 = 1 + fszs _ by kernel_rfl))) rfl ?_
    refine ln_storeG1 (i := 2) (off := (done6).length) (v := .pointer (some ⟨bP7, 0, none⟩)) hT rfl (by rw [List.length_append, hR.len]; kernel_rfl) rfl rfl rfl tiPt_kmsg_ConsumerGroupHeartbeatResponseAssignment.size (by rw [hR.len]; exact Nat.le_of_ble_eq_true (by kernel_rfl)) ?_
    refine ln_cd ?_
    obtain ⟨doneN7, hdN7⟩ : ∃ l, l = done6 ++ [Value.pointer (some ⟨bP7, 0, none⟩)] := ⟨_, rfl⟩
    have hdlN7 : doneN7.length = (done6).length + 1 := by rw [hdN7]; simp
    obtain ⟨mkP7, hmkP7⟩ : ∃ mk : List Value → Ent, mk = fun w => .obj bP7 (.cells w.toArray 227) := ⟨_, rfl⟩
    have hTP7 : Tgt mkP7 bP7 0 2 := by rw [hmkP7]; exact Tgt.obj bP7 _ 2
    refine cd_perm (List.Perm.swap _ _ _) ?_
    refine cd_eqH (H' := RdE _ _ :: mkP7 ([.slice none 0 0, .map none] : List Value) :: mk (doneN7 ++ ([.map none] : List Value)) :: _) (by rw [hmkP7, hdN7, ← set_done]; rfl) ?_
    refine cd_sr ?_
    refine ln_pv (pv_move rfl) rfl ?_
    refine ln_pv (pv_nilCheck rfl) rfl ?_
    refine ln_pv (pv_fieldAddr (r := 1 + (done6).length) Tryz.underlying176 rfl tiPt_kmsg_ConsumerGroupHeartbeatResponseAssignment.size rfl rfl (by rw [hR.len]; exact po_eq (show 7 = 1 + fszs _ by kernel_rfl))) rfl ?_
    refine ln_pv (pv_ldG1 (i := 2) (off := (done6).length) (v := .pointer (some ⟨bP7, 0, none⟩)) hT rfl (by rw [List.length_append, hdlN7, hR.len]; kernel_rfl) Tryz.underlying174 rfl rfl (by rw [hdN7]; simp)) rfl ?_
    refine ln_pv (pv_assign rfl) rfl ?_
    refine ln_cd ?_
    refine cd_sq ?_
    refine rg_dflt (z2 := ([.slice none 0 0, .map none] : List Value)) rfl en_220 (df_ConsumerGroupHeartbeatResponseAssignment _ _) hTP7 rfl (fun u9 ht9 => ?_)
    refine at_cd ?_
    refine cd_sq ?_
    refine rg_move rfl rfl ?_
    refine at_cd ?_
    have hRo7 := hR
    have hnt7 : ntFs F_sConsumerGroupHeartbeatResponseAssignment = true := by kernel_rfl
    have hk7 : keysT (x.at_ 6) := hk.at_ 6
    have hR : Rs u9 [.mk 11 0 (-1) (-1) (-1) 0 10 F_sConsumerGroupHeartbeatResponseAssignmentTopic] [] _ q (x.at_ 6) (.mk 0 [] false (imL F_sConsumerGroupHeartbeatResponseAssignment _ q (x.at_ 6) 0) (imU F_sConsumerGroupHeartbeatResponseAssignment q (x.at_ 6).u)) (tgsB q (x.at_ 6) ++ _) _ [] := Rs.start (F := F_sConsumerGroupHeartbeatResponseAssignment) (RSv.part hnt7 (RSv.mv hvA7.1 (htB7.trans ht9))) hnt7
    refine cd_eqH (H' := RdE _ _ :: mkP7 ([] ++ ([.slice none 0 0, .map none] : List Value)) :: mk (doneN7 ++ ([.map none] : List Value)) :: _) rfl ?_
    have hz7 : (x.at_ 6).z = false := hz7
    obtain ⟨xP7, hxP7⟩ : ∃ z, z = (x.at_ 6) := ⟨_, rfl⟩
    rw [← hxP7] at hR hk7 hz7
    refine cd_sq ?_
    refine st_list (zc := ([.int .u8 0, .int .u8 0, .int .u8 0, .int .u8 0, .int .u8 0, .int .u8 0, .int .u8 0, .int .u8 0, .int .u8 0, .int .u8 0, .int .u8 0, .int .u8 0, .int .u8 0, .int .u8 0, .int .u8 0, .int .u8 0, .slice none 0 0, .map none] : List Value)) hR (hasB_all hv0) (by decide) rfl rfl rfl hTP7 rfl Tryz.underlying227 rfl tiSl_kmsg_ConsumerGroupHeartbeatResponseAssignmentTopic.size rfl (po_eq (show 0 = 0 + fszs _ by kernel_rfl)) tiSl_kmsg_ConsumerGroupHeartbeatResponseAssignmentTopic.size Tryz.underlying225 Tryz.underlying21 tipub_kmsg_ConsumerGroupHeartbeatResponseAssignmentTopic rfl rfl (by kernel_rfl) (by decide) (by decide) (fun q hq => .inr (hO_push hT (fun q hq => .inl (by simpa [Ent.blk] using hq)) _ q hq)) (fun z => part_pos (plain_pos (by decide) (by decide) (by decide) (hasB_all hv0))) rfl rfl rfl rfl rfl rfl rfl rfl rfl rfl rfl rfl rfl (keysT.at_ hk7 _) (fun gb10 cap10 m10 i10 x10 u10 v10 xs10 rest10 N10 X10 hi10 hm10 hk10 ht10 hxl10 hv10 kb10 => ?_) (fun uu10 vv10 done10 hh10 hR => ?_)
    · skip
      have hnt10 : ntFs F_sConsumerGroupHeartbeatResponseAssignmentTopic = true := by kernel_rfl
      have hvp10 := RSv.el hnt10 hv10
      refine cd_sq ?_
      refine rg_ix rfl rfl hi10 Tryz.underlying225 tipub_kmsg_ConsumerGroupHeartbeatResponseAssignmentTopic.size rfl ?_
      refine at_cd ?_
      obtain ⟨mk10, hmk10⟩ : ∃ mk : List Value → Ent, mk = fun w => .row (.slice (some ⟨gb10, 0, none⟩) m10 cap10) 230 18 m10 (xs10 ++ (w ++ (List.replicate (m10 - (i10 + 1)) ([.int .u8 0, .int .u8 0, .int .u8 0, .int .u8 0, .int .u8 0, .int .u8 0, .int .u8 0, .int .u8 0, .int .u8 0, .int .u8 0, .int .u8 0, .int .u8 0, .int .u8 0, .int .u8 0, .int .u8 0, .int .u8 0, .slice none 0 0, .map none] : List Value)).flatten)) := ⟨_, rfl⟩
      have hT10 : Tgt mk10 gb10 (0 + i10 * 18) 18 := by rw [hmk10]; exact (Tgt.row gb10 cap10 m10 18 230).mid _ _ _ _ (list_fits hi10 hxl10 rfl) (by rw [hxl10])
      refine cd_eqH (H' := RdE _ v10 :: mk10 ([.int .u8 0, .int .u8 0, .int .u8 0, .int .u8 0, .int .u8 0, .int .u8 0, .int .u8 0, .int .u8 0, .int .u8 0, .int .u8 0, .int .u8 0, .int .u8 0, .int .u8 0, .int .u8 0, .int .u8 0, .int .u8 0, .slice none 0 0, .map none] : List Value) :: _) (by rw [hmk10]) ?_
      refine cd_sq ?_
      refine rg_dflt (z2 := ([.int .u8 0, .int .u8 0, .int .u8 0, .int .u8 0, .int .u8 0, .int .u8 0, .int .u8 0, .int .u8 0, .int .u8 0, .int .u8 0, .int .u8 0, .int .u8 0, .int .u8 0, .int .u8 0, .int .u8 0, .int .u8 0, .slice none 0 0, .map none] : List Value)) rfl en_221 (df_ConsumerGroupHeartbeatResponseAssignmentTopic _ _ _ _ _ _ _ _ _ _ _ _ _ _ _ _ _ _) hT10 rfl (fun u11 ht11 => ?_)
      refine at_cd ?_
      refine cd_sq ?_
      refine rg_move rfl rfl ?_
      refine at_cd ?_
      have hR : Rs u11 [.mk 7 0 (-1) (-1) (-1) 0 0 [], .mk 11 0 (-1) (-1) (-1) 0 3 []] [] _ q x10 (.mk 0 [] false (imL F_sConsumerGroupHeartbeatResponseAssignmentTopic _ q x10 0) (imU F_sConsumerGroupHeartbeatResponseAssignmentTopic q x10.u)) (tgsB q x10 ++ rest10) v10 [] := Rs.start (F := F_sConsumerGroupHeartbeatResponseAssignmentTopic) (RSv.mv hvp10 ht11) hnt10
      refine cd_eqH (H' := RdE _ v10 :: mk10 ([] ++ ([.int .u8 0, .int .u8 0, .int .u8 0, .int .u8 0, .int .u8 0, .int .u8 0, .int .u8 0, .int .u8 0, .int .u8 0, .int .u8 0, .int .u8 0, .int .u8 0, .int .u8 0, .int .u8 0, .int .u8 0, .int .u8 0, .slice none 0 0, .map none] : List Value)) :: _) rfl ?_
      refine cd_sq ?_
      refine st_uuid (zc := List.replicate 16 (.int .u8 0)) (zs := [.slice none 0 0, .map none]) rfl hR (hasB_all hv0) rfl en_204 (uuid_length _) (fun u => by rw [uu_B]; exact rd_Uuid u _ (uuid_length _)) (fun u => uu_M u) rfl hT10 rfl rfl Tryz.underlying230 rfl ti_16_uint8.size rfl (po_eq (show 0 = 0 + fszs _ by kernel_rfl)) ti_16_uint8 rfl Tryz.underlying136 rfl (fun u12 v12 done12 ht12 hR => ?_)
      refine at_cd ?_
      refine cd_sq ?_
      refine st_list (zc := ([.int .i32 0] : List Value)) hR (hasB_all hv0) (by decide) rfl rfl rfl hT10 rfl Tryz.underlying230 rfl tiSl_int32.size rfl (po_eq (show 16 = 0 + fszs _ by kernel_rfl)) tiSl_int32.size Tryz.underlying128 Tryz.underlying21 tiint32 rfl rfl (by kernel_rfl) (by decide) (by decide) (fun q hq => .inr (hO_push hTP7 (fun q hq => .inr (hO_push hT (fun q hq => .inl (by simpa [Ent.blk] using hq)) _ q hq)) _ q hq)) (fun z => by simp only [valueB]; rw [if_neg (by decide)]; exact scalar_pos _ _ _ _) rfl rfl rfl rfl rfl rfl rfl rfl rfl rfl rfl rfl rfl (keysT.at_ hk10 _) (fun gb13 cap13 m13 i13 x13 u13 v13 xs13 rest13 N13 X13 hi13 hm13 hk13 ht13 hxl13 hv13 kb13 => ?_) (fun uu13 vv13 done13 hh13 hR => ?_)
      · skip
        refine st_elem (ez := 1) (by decide) rfl en_179 (sc_i32 false _ _) hv13 rfl rfl hi13 (by rw [hxl13]) (by simp) Tryz.underlying128 tiint32.size rfl rfl (fun u v c ht hE hv => ?_)
        exact kb13 _ _ _ ht hE hv
      refine at_cd ?_
      refine st_tags (F := F_sConsumerGroupHeartbeatResponseAssignmentTopic) hnt10 hR (keysT.open hk10).1 rfl rfl rfl hT10 rfl Tryz.underlying230 rfl tipub_kmsg_Tags.size rfl (po_eq (show 17 = 0 + fszs _ by kernel_rfl)) tipub_kmsg_Tags.size rfl rfl (fun u14 v14 cs14 ht14 hv hM => ?_)
      refine at_eqH (H' := RdE _ _ :: .row (.slice (some ⟨gb10, 0, none⟩) m10 cap10) 230 18 m10 (xs10 ++ (_ ++ (List.replicate (m10 - (i10 + 1)) ([.int .u8 0, .int .u8 0, .int .u8 0, .int .u8 0, .int .u8 0, .int .u8 0, .int .u8 0, .int .u8 0, .int .u8 0, .int .u8 0, .int .u8 0, .int .u8 0, .int .u8 0, .int .u8 0, .int .u8 0, .int .u8 0, .slice none 0 0, .map none] : List Value)).flatten)) :: _) (by rw [hmk10]) ?_
      exact at_sub (.skip rfl (.skip rfl .rfl')) (kb10 _ _ _ (((ht11.trans ht12).trans hh13).trans ht14) (REl_part hM) hv)
    refine at_cd ?_
    refine st_tags (F := F_sConsumerGroupHeartbeatResponseAssignment) hnt7 hR (keysT.open hk7).1 rfl rfl rfl hTP7 rfl Tryz.underlying227 rfl tipub_kmsg_Tags.size rfl (po_eq (show 1 = 0 + fszs _ by kernel_rfl)) tipub_kmsg_Tags.size rfl rfl (fun u15 v15 cs15 ht15 hv hM => ?_)
    refine at_freeP (hO_push hT (fun q hq => .inl (by simpa [Ent.blk] using hq)) _) (fun uF7 htF7 hKF7 => ?_)
    rw [hmkP7] at hKF7
    have hKF7 : OB uF7 bP7 _ := hKF7
    subst hxP7
    have hR := hRo7.step (((((htA7.trans htB7).trans ht9).trans hh10).trans ht15).trans htF7) (RSv.mv hv htF7) (ptr_some (hasB_all hv0) (by decide) hz7 hKF7.rc (RMp.mv hM htF7))
    rw [← hdN7] at hR
    refine at_cd ?_
    refine cd_sq ?_
    refine st_tags (F := F_ConsumerGroupHeartbeatResponse) hnt hR (keysT.open hk).1 rfl rfl rfl hT rfl Tryz.underlying176 rfl tipub_kmsg_Tags.size rfl (po_eq (show 8 = 1 + fszs _ by kernel_rfl)) tipub_kmsg_Tags.size rfl rfl (fun u16 v16 cs16 ht16 hv hM => ?_)
    refine at_cd ?_
    refine cd_sr ?_
    refine ln_callT (i := 0) (vals := [.pointer (some ⟨br, 0, none⟩)]) en_183 rfl rfl (fun u hu hok hav => rd_Complete u br _ hok hav) rfl ?_
    rintro u9 _ _ ht9 ⟨ux9, ⟨rfl, rfl⟩, hx9⟩
    refine ln_pv (pv_assign rfl) rfl ?_
    refine ln_cd ?_
    refine cd_ret ?_
    exact at_retT (i := 1) rfl rfl rfl (fun w hS => ⟨rfl, _, by rw [hmk], (hM.mv ht9).mv (hS.trFinT _ _)⟩)
theorem newp_ConsumerGroupHeartbeatResponse (t : Vw) (hok : HF [] t.w) (hav : ∀ q ∈ blks [], t.av q) (hnd : (blks []).Nodup) : CH Tryz.prog 102 [] t [] fun u r E' => ∃ b, r = .pointer (some ⟨b, 0, none⟩) ∧ E' = [MsgBox b 176 [.int .i16 0, .int .i32 0, .int .i16 0, .pointer none, .pointer none, .int .i32 0, .int .i32 0, .pointer none, .map none]] := by
  refine ch_enter Tryz.func102 rfl Tryz.ntmps102 rfl hok hav hnd ?_
  refine cd_sr ?_
  refine ln_pv (pv_assign rfl) rfl ?_
  refine ln_cd ?_
  refine cd_sr ?_
  refine ln_alloc tipub_kmsg_ConsumerGroupHeartbeatResponse rfl rfl (fun b => ?_)
  refine ln_cd ?_
  refine cd_sr ?_
  refine ln_callT (i := 0) en_164 rfl rfl (fun u hu hok hav => df_ConsumerGroupHeartbeatResponse _ _ _ _ _ _ _ _ _ (fun w => .obj b (.cells w.toArray 176)) b 0 (Tgt.obj b 176 9) u hok hav) rfl ?_
  rintro u1 _ _ ht1 ⟨_, ⟨rfl, rfl⟩, _⟩
  refine ln_cd ?_
  refine cd_sr ?_
  refine ln_pv (pv_assign rfl) rfl ?_
  refine ln_cd ?_
  refine cd_ret ?_
  exact at_retHq [MsgBox b 176 [.int .i16 0, .int .i32 0, .int .i16 0, .pointer none, .pointer none, .int .i32 0, .int .i32 0, .pointer none, .map none]] (List.Sublist.refl _) rfl rfl (fun w hS => ⟨b, rfl, rfl⟩)
theorem setd_ConsumerGroupHeartbeatResponse (t : Vw) (b : Nat) (v : Int) (hok : (MsgBox b 176 [.int .i16 0, .int .i32 0, .int .i16 0, .pointer none, .pointer none, .int .i32 0, .int .i32 0, .pointer none, .map none]).ok t.w) (hav : ∀ q ∈ (MsgBox b 176 [.int .i16 0, .int .i32 0, .int .i16 0, .pointer none, .pointer none, .int .i32 0, .int .i32 0, .pointer none, .map none]).blk, t.av q) : CT Tryz.prog 105 [.pointer (some ⟨b, 0, none⟩), .int .i16 v] t (MsgBox b 176 [.int .i16 0, .int .i32 0, .int .i16 0, .pointer none, .pointer none, .int .i32 0, .int .i32 0, .pointer none, .map none]) fun u r e' => e' = MsgBox b 176 [.int .i16 v, .int .i32 0, .int .i16 0, .pointer none, .pointer none, .int .i32 0, .int .i32 0, .pointer none, .map none] := by
  refine ct_enter Tryz.func105 rfl Tryz.ntmps105 rfl hok hav (by simp [Ent.blk]) ?_
  refine cd_region ?_
  refine ln_pv (pv_move rfl) rfl ?_
  refine ln_pv (pv_move rfl) rfl ?_
  refine ln_pv (pv_nilCheck rfl) rfl ?_
  refine ln_pv (pv_fieldAddr (off := 0) (r := 0) Tryz.underlying176 rfl (tiint16).size rfl rfl rfl) rfl ?_
  refine ln_store1 (i := 0) rfl rfl rfl rfl (tiint16).size rfl ?_
  refine ln_nil ?_
  exact at_retT0 (i := 0) rfl rfl (fun w hS => rfl)
theorem readf_ConsumerGroupHeartbeatResponse (t : Vw) (b : Nat) (v : Int) (x : Tre) (sv : Value) (hsv : RSv t sv (partB F_ConsumerGroupHeartbeatResponse v (flexB 0 v) x)) (hk : keysT x) (h0 : 0 ≤ v) (h1 : v ≤ 1) (hok : (MsgBox b 176 (.int .i16 v :: ([.int .i32 0, .int .i16 0, .pointer none, .pointer none, .int .i32 0, .int .i32 0, .pointer none, .map none] : List Value))).ok t.w) (hav : ∀ q ∈ (MsgBox b 176 (.int .i16 v :: ([.int .i32 0, .int .i16 0, .pointer none, .pointer none, .int .i32 0, .int .i32 0, .pointer none, .map none] : List Value))).blk, t.av q) : CT Tryz.prog 106 [.pointer (some ⟨b, 0, none⟩), sv] t (MsgBox b 176 (.int .i16 v :: ([.int .i32 0, .int .i16 0, .pointer none, .pointer none, .int .i32 0, .int .i32 0, .pointer none, .map none] : List Value))) fun u r e' => r = .nilIface ∧ ∃ cells, e' = MsgBox b 176 (.int .i16 v :: cells) ∧ RMp u F_ConsumerGroupHeartbeatResponse (imT F_ConsumerGroupHeartbeatResponse v (flexB 0 v) x) cells := by
  refine ct_enter Tryz.func106 rfl Tryz.ntmps106 rfl hok hav (by simp [Ent.blk]) ?_
  refine cd_sr ?_
  refine ln_pv (pv_assign rfl) rfl ?_
  refine ln_cd ?_
  refine cd_sr ?_
  refine ln_pv (pv_move rfl) rfl ?_
  refine ln_pv (pv_move rfl) rfl ?_
  refine ln_callT (i := 0) en_166 rfl rfl (fun u hu hok hav => read_ConsumerGroupHeartbeatResponse u b v x sv (RSv.mv hsv hu) hk h0 h1 hok hav) rfl ?_
  rintro u2 _ _ ht2 ⟨ux, ⟨rfl, cells, rfl, hM⟩, hx⟩
  refine ln_pv (pv_assign rfl) rfl ?_
  refine ln_cd ?_
  refine cd_ret ?_
  exact at_retT (i := 0) rfl rfl rfl (fun w hS => ⟨rfl, cells, rfl, (hM.mv hx).mv (hS.trFinT _ _)⟩)
theorem tellx_ConsumerGroupHeartbeatResponse (t : Vw) (v : Int) (x : Tre) (sv : Value) (hsv : RSv t sv (partB F_ConsumerGroupHeartbeatResponse v (flexB 0 v) x)) (hk : keysT x) (h0 : 0 ≤ v) (h1 : v ≤ 1) (hB : (partB F_ConsumerGroupHeartbeatResponse v (flexB 0 v) x).length ≤ 1099511627776) : CA Tryz.prog 42 [.int .i64 v, sv] t fun u r => ∃ (ds : List Value), r = .tuple #[.agg ds.toArray, .bool true] ∧ RT u (tlT F_ConsumerGroupHeartbeatResponse (imT F_ConsumerGroupHeartbeatResponse v (flexB 0 v) x)) ds := by
  refine ca_enter Tryz.func42 rfl Tryz.ntmps42 rfl ?_
  refine cd_sr ?_
  refine ln_alloc (l := [_, _, _, _, _]) tiimpl_Tree rfl rfl (fun br => ?_)
  refine ln_pv (pv_assign rfl) rfl ?_
  refine ln_cd ?_
  refine cd_sr ?_
  refine ln_callH (E := []) (H0 := [_]) (List.Perm.refl _) en_102 rfl (fun u hu hok hav hnd => newp_ConsumerGroupHeartbeatResponse u hok hav hnd) rfl ?_
  rintro u1 _ _ ht1 ⟨_, ⟨b, rfl, rfl⟩, _⟩
  refine ln_pv (pv_assign rfl) rfl ?_
  refine ln_cd ?_
  refine cd_sr ?_
  refine ln_pv (pv_move rfl) rfl ?_
  refine ln_pv (pv_move rfl) rfl ?_
  refine ln_pv (pv_conv' Tryz.underlying3 Tryz.underlying46 rfl (r := v) (wrap_i16_in (by omega) (by omega))) rfl ?_
  refine ln_callT (i := 0) en_105 rfl rfl (fun u hu hok hav => setd_ConsumerGroupHeartbeatResponse u b v hok hav) rfl ?_
  rintro u2 _ _ ht2 ⟨_, rfl, _⟩
  refine ln_cd ?_
  have hsv := hsv.mv (ht1.trans ht2)
  refine cd_seq ?_
  refine cd_sr ?_
  refine ln_pv (pv_move rfl) rfl ?_
  refine ln_pv (pv_move rfl) rfl ?_
  refine ln_nilrow 5 1 ?_
  refine ln_append (i := 0) rfl Tryz.underlying22 tiuint8 rfl (by decide) rfl rfl (RS.src hsv) (by simp only [maxLen]; omega) (by omega) rfl (k' := (partB F_ConsumerGroupHeartbeatResponse v (flexB 0 v) x).length) (xs' := u8s (partB F_ConsumerGroupHeartbeatResponse v (flexB 0 v) x)) (by omega) (by simp) (fun va hva => ?_)
  refine ln_free1 (fun q h => h.elim) (fun s3 ht3 hK => ?_)
  have hs3 : RSv s3 va (partB F_ConsumerGroupHeartbeatResponse v (flexB 0 v) x) := Known.rs hK (u8s_one _)
  clear hK
  refine ln_callT (i := 0) en_106 rfl rfl (fun u hu hok hav => readf_ConsumerGroupHeartbeatResponse u b v x _ (RSv.mv hs3 hu) hk h0 h1 hok hav) rfl ?_
  rintro u4 _ _ ht4 ⟨ux4, ⟨rfl, cells, rfl, hM⟩, hx4⟩
  have hM := hM.mv hx4
  refine ln_pv (pv_neqI Tryz.underlying55 rfl) rfl ?_
  refine ln_cd ?_
  refine cd_ff rfl ?_
  refine cd_skip ?_
  refine at_cd ?_
  refine cd_free1 (fun q h => h.elim) (fun s9 hs9 hK => ?_)
  have hob : OB s9 b (.cells (.int .i16 v :: cells).toArray 176) := hK
  clear hK
  have hM := hM.mv hs9
  refine cd_sr ?_
  refine ln_pv (pv_move rfl) rfl ?_
  refine ln_callA en_107 rfl (fun u hu => tell_ConsumerGroupHeartbeatResponse u b v (imT F_ConsumerGroupHeartbeatResponse v (flexB 0 v) x) cells (hob.mv hu).rc (hM.mv hu) (tgT_im _ _ _ hk)) rfl (fun u7 v7 ht7 hR7 => ?_)
  obtain ⟨ds, rfl, hds⟩ := hR7
  refine ln_storeW (i := 0) rfl rfl rfl rfl tiimpl_Tree.size hds.len hds.cells ?_
  refine ln_pv (pv_assign rfl) rfl ?_
  refine ln_cd ?_
  refine cd_ret ?_
  exact at_retCA2 (i := 0) rfl rfl rfl rfl Tryz.underlying37 rfl tiimpl_Tree.size hds.len (fun w hS => ⟨ds, rfl, hds.mv hS.trFin⟩)
theorem law_ConsumerGroupHeartbeatResponse (t : Vw) (n : Nat) (x : Tre) (cs : List Value) (hn8 : n < 256) (hx : RT t x cs) (hkx : keysT x) (hsm : smT x) (hB : (writeB F_ConsumerGroupHeartbeatResponse 0 ((versionN n 1 : Nat) : Int) x).length < 1099511627776) : CS Tryz.prog 10 [.int .u8 (n : Int), .agg cs.toArray] t (.bool true) := by
  obtain ⟨sS, sL, sU, rfl, hn, hS, ⟨lc, hL, hLs⟩, hU⟩ := hx.open
  obtain ⟨adS, cS, rfl, hleS⟩ := hS.shape
  obtain ⟨adL, cL, rfl, hleL⟩ := hL.shape
  have hU0 := hU
  obtain ⟨uc, hU1, hUs⟩ := hU0
  obtain ⟨hz1, hz2, hz3, hz4⟩ := hsm.open
  have hok := ok_F_ConsumerGroupHeartbeatResponse
  have hvn : versionN n 1 ≤ 1 := by have := Nat.mod_lt n (show 0 < 1 + 1 by omega); unfold versionN; omega
  refine CA.cs ?_
  refine ca_enter Tryz.func10 rfl Tryz.ntmps10 rfl ?_
  cases hft : fits1 x with
  | false =>
    refine cd_sr ?_
    refine ln_box rfl rfl rfl (fun b1 => ?_)
    refine ln_pv (pv_assign rfl) rfl ?_
    refine ln_cd ?_
    refine cd_seq ?_
    refine cd_sr ?_
    refine ln_pv (pv_ldO (i := 0) rfl Tryz.underlying26 rfl (tispec_Tree).size rfl rfl) rfl ?_
    refine ln_callS en_13 rfl (fun u hu => by have h := laws_zzFits1 u x _ (RT.mv hx hu) (by omega); rwa [hft] at h) rfl ?_
    refine ln_pv (pv_not rfl) rfl ?_
    refine ln_cd ?_
    refine cd_tt rfl ?_
    refine cd_sr ?_
    refine ln_pv (pv_assign rfl) rfl ?_
    refine ln_cd ?_
    refine cd_ret ?_
    refine at_retA rfl rfl (fun w hS => ?_)
    rfl
  | true =>
    refine cd_sr ?_
    refine ln_box rfl rfl rfl (fun b1 => ?_)
    refine ln_pv (pv_assign rfl) rfl ?_
    refine ln_cd ?_
    refine cd_seq ?_
    refine cd_sr ?_
    refine ln_pv (pv_ldO (i := 0) rfl Tryz.underlying26 rfl (tispec_Tree).size rfl rfl) rfl ?_
    refine ln_callS en_13 rfl (fun u hu => by have h := laws_zzFits1 u x _ (RT.mv hx hu) (by omega); rwa [hft] at h) rfl ?_
    refine ln_pv (pv_not rfl) rfl ?_
    refine ln_cd ?_
    refine cd_ff rfl ?_
    refine cd_skip ?_
    refine at_cd ?_
    refine cd_sr ?_
    refine ln_callS en_40 rfl (fun u hu => max_ConsumerGroupHeartbeatResponse u) rfl ?_
    refine ln_pv (pv_assign rfl) rfl ?_
    refine ln_cd ?_
    refine cd_seq ?_
    refine cd_sr ?_
    refine ln_pv (pv_move rfl) rfl ?_
    refine ln_pv (pv_ff (pv_lss rfl rfl) (by omega)) rfl ?_
    refine ln_cd ?_
    refine cd_ff rfl ?_
    refine cd_skip ?_
    refine at_cd ?_
    refine cd_sr ?_
    refine ln_callA en_41 rfl (fun u hu => sch_F_ConsumerGroupHeartbeatResponse u) rfl (fun u1 v1 ht1 hR1 => ?_)
    have hx := hx.mv ht1
    obtain ⟨sv, lcm, rfl, hVm, hFm⟩ := hR1
    refine ln_pv (pv_move rfl) rfl ?_
    refine ln_pv (pv_move rfl) rfl ?_
    refine ln_callS en_16 rfl (fun u hu => laws_version u n 1 hn8 (by omega)) rfl ?_
    refine ln_alloc tispec_Message rfl rfl (fun b2 => ?_)
    refine ln_storeW (i := 0) rfl rfl rfl rfl (tispec_Message).size rfl (by simp [(RS.one hVm)]) ?_
    refine ln_pv (pv_assign rfl) rfl ?_
    refine ln_cd ?_
    refine cd_sr ?_
    refine ln_pv (pv_move rfl) rfl ?_
    refine ln_pv (pv_ldO (i := 0) rfl Tryz.underlying31 rfl (tispec_Message).size rfl rfl) rfl ?_
    refine ln_pv (pv_move rfl) rfl ?_
    refine ln_pv (pv_ldO (i := 1) rfl Tryz.underlying26 rfl (tispec_Tree).size rfl rfl) rfl ?_
    refine ln_callA en_18 rfl (fun u hu => spec_Write F_ConsumerGroupHeartbeatResponse 0 hok.1 hok.2.2 u _ _ _ ((versionN n 1 : Nat) : Int) x (RS.mv hVm hu) (RFs.mv hFm hu) (RT.mv hx hu) hsm hB) rfl (fun u2 v2 ht2 hR2 => ?_)
    have hx := hx.mv ht2
    have hVm := hVm.mv ht2
    have hFm := hFm.mv ht2
    refine ln_callA en_42 rfl (fun u hu => tellx_ConsumerGroupHeartbeatResponse u ((versionN n 1 : Nat) : Int) x _ (RSv.mv hR2 hu) hkx (by omega) (by omega) (by rw [show partB F_ConsumerGroupHeartbeatResponse ((versionN n 1 : Nat) : Int) (flexB 0 ((versionN n 1 : Nat) : Int)) x = writeB F_ConsumerGroupHeartbeatResponse 0 ((versionN n 1 : Nat) : Int) x from rfl]; omega)) rfl (fun u3 v3 ht3 hR3 => ?_)
    have hx := hx.mv ht3
    have hVm := hVm.mv ht3
    have hFm := hFm.mv ht3
    have hR2 := hR2.mv ht3
    obtain ⟨ds, rfl, hT⟩ := hR3
    refine ln_pv (pv_move rfl) rfl ?_
    refine ln_pv (pv_extract rfl rfl) rfl ?_
    refine ln_pv (pv_extract rfl rfl) rfl ?_
    refine ln_alloc tiimpl_Tree rfl rfl (fun b3 => ?_)
    refine ln_storeW (i := 0) rfl rfl rfl rfl (tiimpl_Tree).size hT.len hT.cells ?_
    refine ln_pv (pv_assign rfl) rfl ?_
    refine ln_cd ?_
    refine cd_dr' [0, 1, 2] [1, 2, 3, 4, 5, 6, 8, 9, 12, 13] [0, 1, 2, 3, 4, 5, 6, 8, 9, 7, 10, 11, 12, 13] mixed (by kernel_rfl) ?_
    refine lo_eff rfl rfl ?_
    refine ln_pv (pv_move rfl) rfl ?_
    refine lo_back (sk_js (Tr.refl _) [0, 1, 2] rfl) ?_
    refine lo_pv rfl rfl (sk_js (Tr.refl _) [0, 1, 2] rfl) (pv_move rfl) rfl ?_
    refine lo_gt rfl rfl (sk_js (Tr.refl _) [0, 1, 2] rfl) rfl rfl rfl (pv_fieldAddr (off := 0) (r := 0) Tryz.underlying31 rfl (tiSl_spec_Field).size rfl rfl rfl) rfl ?_
    refine lo_gt rfl rfl (sk_js (Tr.refl _) [0, 1, 2] rfl) rfl rfl rfl (pv_ldo (i := 1) rfl Tryz.underlying29 rfl rfl rfl) rfl ?_
    refine lo_gt rfl rfl (sk_js (Tr.refl _) [0, 1, 2] rfl) rfl rfl rfl (pv_move rfl) rfl ?_
    refine lo_gt rfl rfl (sk_js (Tr.refl _) [0, 1, 2] rfl) rfl rfl rfl (pv_ldO (i := 1) rfl Tryz.underlying31 rfl (tispec_Message).size rfl rfl) rfl ?_
    refine lo_gt rfl rfl (sk_js (Tr.refl _) [0, 1, 2] rfl) rfl rfl rfl (pv_move rfl) rfl ?_
    refine lo_gt rfl rfl (sk_js (Tr.refl _) [0, 1, 2] rfl) rfl rfl rfl (pv_ldO (i := 2) rfl Tryz.underlying26 rfl (tispec_Tree).size rfl rfl) rfl ?_
    refine lo_gt rfl rfl (sk_js (Tr.refl _) [0, 1, 2] rfl) rfl rfl rfl (pv_ldO (i := 0) rfl Tryz.underlying37 rfl (tiimpl_Tree).size rfl hT.len) rfl ?_
    refine lo_eff rfl rfl ?_
    refine ln_gE rfl rfl rfl ?_
    refine ln_callS en_20 rfl (fun u hu => spec_Flexible u _ _ _ 0 ((versionN n 1 : Nat) : Int) (RS.mv hVm hu)) rfl ?_
    refine lo_back (sk_js (Tr.refl _) [0, 1, 2] rfl) ?_
    refine lo_eff rfl rfl ?_
    refine ln_gE rfl rfl rfl ?_
    refine ln_callA en_21 rfl (fun u hu => laws_got (tlT F_ConsumerGroupHeartbeatResponse (imT F_ConsumerGroupHeartbeatResponse ((versionN n 1 : Nat) : Int) (flexB 0 ((versionN n 1 : Nat) : Int)) x)) u _ (RT.mv hT hu) (smT_tlT hok.1 (by decide) (tgT_im _ _ _ hkx))) rfl (fun u4 v4 ht4 hR4 => ?_)
    have hx := hx.mv ht4
    have hVm := hVm.mv ht4
    have hFm := hFm.mv ht4
    have hR2 := hR2.mv ht4
    have hT := hT.mv ht4
    obtain ⟨dg, rfl, hG⟩ := hR4
    refine lo_back (sk_js ht4 [0, 1, 2] rfl) ?_
    refine lo_eff rfl rfl ?_
    refine ln_gE rfl rfl rfl ?_
    refine ln_callS en_19 rfl (fun u hu => spec_Told F_ConsumerGroupHeartbeatResponse hok.1 (by kernel_rfl) (by decide) u _ _ _ _ _ _ x _ (RS.mv hVm hu) (RFs.mv hFm hu) (RT.mv hx hu) hsm (RT.mv hG hu) (smT_tlT hok.1 (by decide) (tgT_im _ _ _ hkx)) (toT_im F_ConsumerGroupHeartbeatResponse _ _ (by kernel_rfl) hx.nT)) rfl ?_
    refine lo_back (sk_js ht4 [0, 1, 2] rfl) ?_
    refine lo_pv rfl rfl (sk_js ht4 [0, 1, 2] rfl) (pv_pick rfl (fun _ => rfl) (fun _ => rfl)) rfl ?_
    refine lo_pv rfl rfl (sk_js ht4 [0, 1, 2] rfl) (pv_assign rfl) rfl ?_
    refine lo_cd ?_
    refine cd_ret ?_
    refine at_retA rfl rfl (fun w hS => ?_)
    rfl
theorem fn_ConsumerGroupHeartbeatResponse (t : Vw) (n : Nat) (x : Tre) (cs : List Value) (hn : n < 256) (hx : RT t x cs) (hw : wt x ≤ 1048576) : CS Tryz.prog 10 [.int .u8 (n : Int), .agg cs.toArray] t (.bool true) := by
  have hok := ok_F_ConsumerGroupHeartbeatResponse
  exact law_ConsumerGroupHeartbeatResponse t n x cs hn hx hx.keys (smT_wt x (by omega)) (writeB_len _ _ _ x hok.1 hx.keys hw (of_decide_eq_true (by kernel_rfl)))
end K
end Go.Proofs.YtekafeogilbjmaaGreatDoor
