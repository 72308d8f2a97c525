import Derived.Test.YtepbicjadambbaaDoorW4
import Derived.Test.YtepbicjadambbaaDoorMap
import Derived.Test.YtepbicjadambbaaDoorP4
import Derived.Test.YtepbicjadambbaaDoorS10
set_option linter.unusedVariables false
set_option linter.unusedSimpArgs false
namespace Go.Proofs.YtepbicjadambbaaDoor
namespace K
open Go Go.Lib
theorem df_OffsetDeleteRequest (z0 z1 z2 : Value) : DfC 24 [z0, z1, z2] [z0, z1, z2] := by
  intro mk b o hT t hok hav
  refine ct_enter Tryd.func24 rfl Tryd.ntmps24 rfl hok hav (by rw [hT.blk]; simp) ?_
  refine cd_skip ?_
  exact at_retT0 (i := 0) rfl rfl (fun w hS => ⟨rfl, rfl⟩)
theorem df_OffsetDeleteRequestTopic (z0 z1 : Value) : DfC 48 [z0, z1] [z0, z1] := by
  intro mk b o hT t hok hav
  refine ct_enter Tryd.func48 rfl Tryd.ntmps48 rfl hok hav (by rw [hT.blk]; simp) ?_
  refine cd_skip ?_
  exact at_retT0 (i := 0) rfl rfl (fun w hS => ⟨rfl, rfl⟩)
theorem df_OffsetDeleteRequestTopicPartition (z0 : Value) : DfC 49 [z0] [z0] := by
  intro mk b o hT t hok hav
  refine ct_enter Tryd.func49 rfl Tryd.ntmps49 rfl hok hav (by rw [hT.blk]; simp) ?_
  refine cd_skip ?_
  exact at_retT0 (i := 0) rfl rfl (fun w hS => ⟨rfl, rfl⟩)
theorem read_OffsetDeleteRequest (t : Vw) (b : Nat) (v : Int) (x : Tre) (sv : Value) (hsv : RSv t sv (partB F_OffsetDeleteRequest v (flexB (-1) v) x)) (hk : keysT x) (h0 : 0 ≤ v) (h1 : v ≤ 0) (hok : (MsgBox b 65 (.int .i16 v :: ([.string .empty, .slice none 0 0] : List Value))).ok t.w) (hav : ∀ q ∈ (MsgBox b 65 (.int .i16 v :: ([.string .empty, .slice none 0 0] : List Value))).blk, t.av q) : CT Tryd.prog 34 [.pointer (some ⟨b, 0, none⟩), sv, .bool false] t (MsgBox b 65 (.int .i16 v :: ([.string .empty, .slice none 0 0] : List Value))) fun u r e' => r = .nilIface ∧ ∃ cells, e' = MsgBox b 65 (.int .i16 v :: cells) ∧ RMp u F_OffsetDeleteRequest (imT F_OffsetDeleteRequest v (flexB (-1) v) x) cells := by
  have hv0 := h0
  have hnt : ntFs F_OffsetDeleteRequest = true := by kernel_rfl
  generalize hqd : flexB (-1) v = q at *
  obtain ⟨adS, cS, rfl, hcS⟩ := RSv.shape hsv
  refine ct_enter Tryd.func34 rfl Tryd.ntmps34 rfl hok hav (by simp [Ent.blk]) ?_
  refine cd_sq ?_
  refine rg_const rfl ?_
  refine at_cd ?_
  refine cd_sr ?_
  refine ln_pv (pv_move rfl) rfl ?_
  refine ln_callT (i := 0) (vals := [.pointer (some ⟨b, 0, none⟩)]) en_24 rfl rfl (fun u hu hok hav => df_OffsetDeleteRequest _ _ _ (fun w => .obj b (.cells w.toArray 65)) b 0 (Tgt.obj b 65 3) u hok hav) rfl ?_
  rintro u1 _ _ ht1 ⟨ux1, ⟨rfl, rfl⟩, hx1⟩
  refine ln_cd ?_
  refine cd_sr ?_
  refine ln_pv (pv_move rfl) rfl ?_
  refine ln_pv (pv_struct [(0, 1), (1, 1)] (l := [_, _]) rfl Tryd.underlying90 tipub_kmsg_inner_kbin_Reader (by kernel_rfl) rfl rfl) rfl ?_
  refine ln_alloc (l := [.slice none 0 0, .bool false]) tipub_kmsg_inner_kbin_Reader rfl rfl (fun br => ?_)
  refine ln_storeW (i := 0) (vs := [_, .bool false]) rfl rfl rfl rfl tipub_kmsg_inner_kbin_Reader.size rfl (by simp) ?_
  refine ln_cd ?_
  refine cd_sr ?_
  refine ln_pv (pv_move rfl) rfl ?_
  refine ln_pv (pv_nilCheck rfl) rfl ?_
  refine ln_pv (pv_fieldAddr (off := 0) (r := 0) Tryd.underlying65 rfl tiint16.size rfl rfl rfl) rfl ?_
  refine ln_pv (pv_ldo (i := 1) (v := .int .i16 v) rfl Tryd.underlying45 rfl rfl rfl) rfl ?_
  refine ln_pv (pv_assign rfl) rfl ?_
  refine ln_cd ?_
  refine cd_sq ?_
  refine rg_blank rfl rfl ?_
  refine at_cd ?_
  have hq0 : q = false := by rw [← hqd]; simp [flexB]
  refine cd_sr ?_
  refine ln_pv (pv_move rfl) rfl ?_
  refine ln_pv (pv_assign rfl) rfl ?_
  refine ln_cd ?_
  refine cd_sub_ (L' := [(9, .pointer (some ⟨b, 0, none⟩)), (8, .int .i16 v), (7, .pointer (some ⟨br, 0, none⟩)), (2, .bool false)]) (.put rfl (.put rfl (.put rfl (.put rfl .nil)))) ?_
  obtain ⟨mk, hmk⟩ : ∃ mk : List Value → Ent, mk = fun w => MsgBox b 65 (.int .i16 v :: w) := ⟨_, rfl⟩
  have hT : Tgt mk b 1 2 := by rw [hmk]; exact Tgt.behind b 65 _ 2
  refine cd_eqH (H' := [RdE br _, mk ([] ++ ([.string .empty, .slice none 0 0] : List Value))]) (by rw [hmk]; rfl) ?_
  have hR : Rs u1 [.mk 8 0 (-1) (-1) (-1) 0 0 [], .mk 11 0 (-1) (-1) (-1) 0 10 F_sOffsetDeleteRequestTopic] [] v q x (imT F_OffsetDeleteRequest v q x) (tgsB q x ++ []) _ [] := Rs.start (F := F_OffsetDeleteRequest) (RSv.part hnt (by rw [List.append_nil]; exact RSv.mv hsv ht1)) hnt
  refine cd_sq ?_
  refine cd_sq ?_
  refine rg_const rfl ?_
  refine at_cd ?_
  refine st_strF (z := .string .empty) hR (hasB_all hv0) rfl rfl en_44 (Fc.of (by decide) (by decide) (by decide) (sc_str _ hq0 _)) rfl hT rfl Tryd.underlying65 rfl tistring.size rfl (po_eq (show 1 = 1 + fszs _ by kernel_rfl)) tistring.size rfl rfl rfl (fun u1 v1 done1 ht1 hR => ?_)
  refine at_cd ?_
  refine cd_sq ?_
  refine st_listF (zc := ([.string .empty, .slice none 0 0] : List Value)) hR (hasB_all hv0) (by decide) rfl hq0 rfl hT rfl Tryd.underlying65 rfl tiSl_kmsg_OffsetDeleteRequestTopic.size rfl (po_eq (show 2 = 1 + fszs _ by kernel_rfl)) tiSl_kmsg_OffsetDeleteRequestTopic.size Tryd.underlying63 Tryd.underlying21 tipub_kmsg_OffsetDeleteRequestTopic rfl rfl (by kernel_rfl) (by decide) (by decide) (fun q hq => .inl (by simpa [Ent.blk] using hq)) (fun z => part_pos (plain_pos (by decide) (by decide) (by decide) (hasB_all hv0))) rfl rfl rfl rfl rfl rfl rfl rfl rfl rfl rfl (keysT.at_ hk _) (fun gb2 cap2 m2 i2 x2 u2 v2 xs2 rest2 N2 X2 hi2 hm2 hk2 ht2 hxl2 hv2 kb2 => ?_) (fun uu2 vv2 done2 hh2 hR => ?_)
  · skip
    have hnt2 : ntFs F_sOffsetDeleteRequestTopic = true := by kernel_rfl
    have hvp2 := RSv.el hnt2 hv2
    refine cd_sq ?_
    refine rg_ix rfl rfl hi2 Tryd.underlying63 tipub_kmsg_OffsetDeleteRequestTopic.size rfl ?_
    refine at_cd ?_
    obtain ⟨mk2, hmk2⟩ : ∃ mk : List Value → Ent, mk = fun w => .row (.slice (some ⟨gb2, 0, none⟩) m2 cap2) 98 2 m2 (xs2 ++ (w ++ (List.replicate (m2 - (i2 + 1)) ([.string .empty, .slice none 0 0] : List Value)).flatten)) := ⟨_, rfl⟩
    have hT2 : Tgt mk2 gb2 (0 + i2 * 2) 2 := by rw [hmk2]; exact (Tgt.row gb2 cap2 m2 2 98).mid _ _ _ _ (list_fits hi2 hxl2 rfl) (by rw [hxl2])
    refine cd_eqH (H' := RdE _ v2 :: mk2 ([.string .empty, .slice none 0 0] : List Value) :: _) (by rw [hmk2]) ?_
    refine cd_sq ?_
    refine rg_dflt (z2 := ([.string .empty, .slice none 0 0] : List Value)) rfl en_48 (df_OffsetDeleteRequestTopic _ _) hT2 rfl (fun u3 ht3 => ?_)
    refine at_cd ?_
    refine cd_sq ?_
    refine rg_move rfl rfl ?_
    refine at_cd ?_
    have hR : Rs u3 [.mk 8 0 (-1) (-1) (-1) 0 0 [], .mk 11 0 (-1) (-1) (-1) 0 10 F_sOffsetDeleteRequestTopicPartition] [] _ q x2 (.mk 0 [] false (imL F_sOffsetDeleteRequestTopic _ q x2 0) (imU F_sOffsetDeleteRequestTopic q x2.u)) (tgsB q x2 ++ rest2) v2 [] := Rs.start (F := F_sOffsetDeleteRequestTopic) (RSv.mv hvp2 ht3) hnt2
    refine cd_eqH (H' := RdE _ v2 :: mk2 ([] ++ ([.string .empty, .slice none 0 0] : List Value)) :: _) rfl ?_
    refine cd_sq ?_
    refine cd_sq ?_
    refine rg_const rfl ?_
    refine at_cd ?_
    refine st_strF (z := .string .empty) hR (hasB_all hv0) rfl rfl en_44 (Fc.of (by decide) (by decide) (by decide) (sc_str _ hq0 _)) rfl hT2 rfl Tryd.underlying98 rfl tistring.size rfl (po_eq (show 0 = 0 + fszs _ by kernel_rfl)) tistring.size rfl rfl rfl (fun u4 v4 done4 ht4 hR => ?_)
    refine at_cd ?_
    refine st_listF (zc := ([.int .i32 0] : List Value)) hR (hasB_all hv0) (by decide) rfl hq0 rfl hT2 rfl Tryd.underlying98 rfl tiSl_kmsg_OffsetDeleteRequestTopicPartition.size rfl (po_eq (show 1 = 0 + fszs _ by kernel_rfl)) tiSl_kmsg_OffsetDeleteRequestTopicPartition.size Tryd.underlying96 Tryd.underlying21 tipub_kmsg_OffsetDeleteRequestTopicPartition rfl rfl (by kernel_rfl) (by decide) (by decide) (fun q hq => .inr (hO_push hT (fun q hq => .inl (by simpa [Ent.blk] using hq)) _ q hq)) (fun z => part_pos (plain_pos (by decide) (by decide) (by decide) (hasB_all hv0))) rfl rfl rfl rfl rfl rfl rfl rfl rfl rfl rfl (keysT.at_ hk2 _) (fun gb5 cap5 m5 i5 x5 u5 v5 xs5 rest5 N5 X5 hi5 hm5 hk5 ht5 hxl5 hv5 kb5 => ?_) (fun uu5 vv5 done5 hh5 hR => ?_)
    · skip
      have hnt5 : ntFs F_sOffsetDeleteRequestTopicPartition = true := by kernel_rfl
      have hvp5 := RSv.el hnt5 hv5
      refine cd_sq ?_
      refine rg_ix rfl rfl hi5 Tryd.underlying96 tipub_kmsg_OffsetDeleteRequestTopicPartition.size rfl ?_
      refine at_cd ?_
      obtain ⟨mk5, hmk5⟩ : ∃ mk : List Value → Ent, mk = fun w => .row (.slice (some ⟨gb5, 0, none⟩) m5 cap5) 101 1 m5 (xs5 ++ (w ++ (List.replicate (m5 - (i5 + 1)) ([.int .i32 0] : List Value)).flatten)) := ⟨_, rfl⟩
      have hT5 : Tgt mk5 gb5 (0 + i5 * 1) 1 := by rw [hmk5]; exact (Tgt.row gb5 cap5 m5 1 101).mid _ _ _ _ (list_fits hi5 hxl5 rfl) (by rw [hxl5])
      refine cd_eqH (H' := RdE _ v5 :: mk5 ([.int .i32 0] : List Value) :: _) (by rw [hmk5]) ?_
      refine cd_sq ?_
      refine rg_dflt (z2 := ([.int .i32 0] : List Value)) rfl en_49 (df_OffsetDeleteRequestTopicPartition _) hT5 rfl (fun u6 ht6 => ?_)
      refine at_cd ?_
      refine cd_sq ?_
      refine rg_move rfl rfl ?_
      refine at_cd ?_
      have hR : Rs u6 [.mk 3 0 (-1) (-1) (-1) 0 0 []] [] _ q x5 (.mk 0 [] false (imL F_sOffsetDeleteRequestTopicPartition _ q x5 0) (imU F_sOffsetDeleteRequestTopicPartition q x5.u)) (tgsB q x5 ++ rest5) v5 [] := Rs.start (F := F_sOffsetDeleteRequestTopicPartition) (RSv.mv hvp5 ht6) hnt5
      refine cd_eqH (H' := RdE _ v5 :: mk5 ([] ++ ([.int .i32 0] : List Value)) :: _) rfl ?_
      refine st_num (z := .int .i32 0) hR (hasB_all hv0) rfl en_50 (Fc.num (by decide) (by decide) (by decide) (fun null => sc_i32 null _ _)) rfl hT5 rfl Tryd.underlying101 rfl tiint32.size rfl (po_eq (show 0 = 0 + fszs _ by kernel_rfl)) tiint32.size rfl rfl (fun u7 v7 done7 ht7 hR => ?_)
      obtain ⟨hv, hM⟩ := Rs.flat (F := F_sOffsetDeleteRequestTopicPartition) hq0 (Nat.le_of_ble_eq_true (by kernel_rfl)) hR
      refine at_eqH (H' := RdE _ _ :: .row (.slice (some ⟨gb5, 0, none⟩) m5 cap5) 101 1 m5 (xs5 ++ (_ ++ (List.replicate (m5 - (i5 + 1)) ([.int .i32 0] : List Value)).flatten)) :: _) (by rw [hmk5]) ?_
      exact at_sub (.skip rfl (.skip rfl .rfl')) (kb5 _ _ _ (ht6.trans ht7) (REl_part hM) hv)
    obtain ⟨hv, hM⟩ := Rs.flat (F := F_sOffsetDeleteRequestTopic) hq0 (Nat.le_of_ble_eq_true (by kernel_rfl)) hR
    refine at_eqH (H' := RdE _ _ :: .row (.slice (some ⟨gb2, 0, none⟩) m2 cap2) 98 2 m2 (xs2 ++ (_ ++ (List.replicate (m2 - (i2 + 1)) ([.string .empty, .slice none 0 0] : List Value)).flatten)) :: _) (by rw [hmk2]) ?_
    exact at_sub (.skip rfl (.skip rfl .rfl')) (kb2 _ _ _ ((ht3.trans ht4).trans hh5) (REl_part hM) hv)
  refine at_cd ?_
  obtain ⟨hv, hM⟩ := Rs.flat (F := F_OffsetDeleteRequest) hq0 (Nat.le_of_ble_eq_true (by kernel_rfl)) hR
  refine cd_sr ?_
  refine ln_callT (i := 0) (vals := [.pointer (some ⟨br, 0, none⟩)]) en_47 rfl rfl (fun u hu hok hav => rd_Complete u br _ hok hav) rfl ?_
  rintro u9 _ _ ht9 ⟨ux9, ⟨rfl, rfl⟩, hx9⟩
  refine ln_pv (pv_assign rfl) rfl ?_
  refine ln_cd ?_
  refine cd_ret ?_
  exact at_retT (i := 1) rfl rfl rfl (fun w hS => ⟨rfl, _, by rw [hmk], (hM.mv ht9).mv (hS.trFinT _ _)⟩)
theorem newp_OffsetDeleteRequest (t : Vw) (hok : HF [] t.w) (hav : ∀ q ∈ blks [], t.av q) (hnd : (blks []).Nodup) : CH Tryd.prog 15 [] t [] fun u r E' => ∃ b, r = .pointer (some ⟨b, 0, none⟩) ∧ E' = [MsgBox b 65 [.int .i16 0, .string .empty, .slice none 0 0]] := by
  refine ch_enter Tryd.func15 rfl Tryd.ntmps15 rfl hok hav hnd ?_
  refine cd_sr ?_
  refine ln_pv (pv_assign rfl) rfl ?_
  refine ln_cd ?_
  refine cd_sr ?_
  refine ln_alloc tipub_kmsg_OffsetDeleteRequest rfl rfl (fun b => ?_)
  refine ln_cd ?_
  refine cd_sr ?_
  refine ln_callT (i := 0) en_24 rfl rfl (fun u hu hok hav => df_OffsetDeleteRequest _ _ _ (fun w => .obj b (.cells w.toArray 65)) b 0 (Tgt.obj b 65 3) u hok hav) rfl ?_
  rintro u1 _ _ ht1 ⟨_, ⟨rfl, rfl⟩, _⟩
  refine ln_cd ?_
  refine cd_sr ?_
  refine ln_pv (pv_assign rfl) rfl ?_
  refine ln_cd ?_
  refine cd_ret ?_
  exact at_retHq [MsgBox b 65 [.int .i16 0, .string .empty, .slice none 0 0]] (List.Sublist.refl _) rfl rfl (fun w hS => ⟨b, rfl, rfl⟩)
theorem setd_OffsetDeleteRequest (t : Vw) (b : Nat) (v : Int) (hok : (MsgBox b 65 [.int .i16 0, .string .empty, .slice none 0 0]).ok t.w) (hav : ∀ q ∈ (MsgBox b 65 [.int .i16 0, .string .empty, .slice none 0 0]).blk, t.av q) : CT Tryd.prog 19 [.pointer (some ⟨b, 0, none⟩), .int .i16 v] t (MsgBox b 65 [.int .i16 0, .string .empty, .slice none 0 0]) fun u r e' => e' = MsgBox b 65 [.int .i16 v, .string .empty, .slice none 0 0] := by
  refine ct_enter Tryd.func19 rfl Tryd.ntmps19 rfl hok hav (by simp [Ent.blk]) ?_
  refine cd_region ?_
  refine ln_pv (pv_move rfl) rfl ?_
  refine ln_pv (pv_move rfl) rfl ?_
  refine ln_pv (pv_nilCheck rfl) rfl ?_
  refine ln_pv (pv_fieldAddr (off := 0) (r := 0) Tryd.underlying65 rfl (tiint16).size rfl rfl rfl) rfl ?_
  refine ln_store1 (i := 0) rfl rfl rfl rfl (tiint16).size rfl ?_
  refine ln_nil ?_
  exact at_retT0 (i := 0) rfl rfl (fun w hS => rfl)
theorem readf_OffsetDeleteRequest (t : Vw) (b : Nat) (v : Int) (x : Tre) (sv : Value) (hsv : RSv t sv (partB F_OffsetDeleteRequest v (flexB (-1) v) x)) (hk : keysT x) (h0 : 0 ≤ v) (h1 : v ≤ 0) (hok : (MsgBox b 65 (.int .i16 v :: ([.string .empty, .slice none 0 0] : List Value))).ok t.w) (hav : ∀ q ∈ (MsgBox b 65 (.int .i16 v :: ([.string .empty, .slice none 0 0] : List Value))).blk, t.av q) : CT Tryd.prog 20 [.pointer (some ⟨b, 0, none⟩), sv] t (MsgBox b 65 (.int .i16 v :: ([.string .empty, .slice none 0 0] : List Value))) fun u r e' => r = .nilIface ∧ ∃ cells, e' = MsgBox b 65 (.int .i16 v :: cells) ∧ RMp u F_OffsetDeleteRequest (imT F_OffsetDeleteRequest v (flexB (-1) v) x) cells := by
  refine ct_enter Tryd.func20 rfl Tryd.ntmps20 rfl hok hav (by simp [Ent.blk]) ?_
  refine cd_sr ?_
  refine ln_pv (pv_assign rfl) rfl ?_
  refine ln_cd ?_
  refine cd_sr ?_
  refine ln_pv (pv_move rfl) rfl ?_
  refine ln_pv (pv_move rfl) rfl ?_
  refine ln_callT (i := 0) en_34 rfl rfl (fun u hu hok hav => read_OffsetDeleteRequest u b v x sv (RSv.mv hsv hu) hk h0 h1 hok hav) rfl ?_
  rintro u2 _ _ ht2 ⟨ux, ⟨rfl, cells, rfl, hM⟩, hx⟩
  refine ln_pv (pv_assign rfl) rfl ?_
  refine ln_cd ?_
  refine cd_ret ?_
  exact at_retT (i := 0) rfl rfl rfl (fun w hS => ⟨rfl, cells, rfl, (hM.mv hx).mv (hS.trFinT _ _)⟩)
theorem key_OffsetDeleteRequest (t : Vw) (b : Nat) : CS Tryd.prog 82 [.pointer (some ⟨b, 0, none⟩)] t (.int .i16 47) := by
  refine CA.cs ?_
  refine ca_enter Tryd.func82 rfl Tryd.ntmps82 rfl ?_
  refine cd_sr ?_
  refine ln_pv (pv_assign rfl) rfl ?_
  refine ln_cd ?_
  refine cd_sr ?_
  refine ln_pv (pv_assign rfl) rfl ?_
  refine ln_cd ?_
  refine cd_ret ?_
  refine at_retA rfl rfl (fun w hS => ?_)
  rfl
theorem getv_OffsetDeleteRequest (t : Vw) (b : Nat) (v : Int) (cs : List Value) (hrc : RC t b 0 (.int .i16 v :: cs)) : CS Tryd.prog 80 [.pointer (some ⟨b, 0, none⟩)] t (.int .i16 v) := by
  refine CA.cs ?_
  refine ca_enter Tryd.func80 rfl Tryd.ntmps80 rfl ?_
  refine cd_sr ?_
  refine ln_pv (pv_assign rfl) rfl ?_
  refine ln_cd ?_
  refine cd_sr ?_
  refine ln_pv (pv_move rfl) rfl ?_
  refine ln_pv (pv_nilCheck rfl) rfl ?_
  refine ln_pv (pv_fieldAddr (off := 0)  Tryd.underlying65 rfl (tiint16).size rfl rfl rfl) rfl ?_
  refine ln_pv (pv_ldr (j := 0) hrc Tryd.underlying45 rfl rfl rfl) rfl ?_
  refine ln_pv (pv_assign rfl) rfl ?_
  refine ln_cd ?_
  refine cd_ret ?_
  refine at_retA rfl rfl (fun w hS => ?_)
  rfl
theorem isfl_OffsetDeleteRequest (t : Vw) (b : Nat) (v : Int) (cs : List Value) (hrc : RC t b 0 (.int .i16 v :: cs)) : CS Tryd.prog 81 [.pointer (some ⟨b, 0, none⟩)] t (.bool (flexB (-1) v)) := by
  refine CA.cs ?_
  refine ca_enter Tryd.func81 rfl Tryd.ntmps81 rfl ?_
  refine cd_sr ?_
  refine ln_pv (pv_assign rfl) rfl ?_
  refine ln_cd ?_
  refine cd_sr ?_
  refine ln_pv (pv_assign rfl) rfl ?_
  refine ln_cd ?_
  refine cd_ret ?_
  refine at_retA rfl rfl (fun w hS => ?_)
  simp [flexB]
theorem mt_Key_OffsetDeleteRequest : MtOf Tryd.prog 46 "Key" 82 := mt_of (b := true) (by kernel_rfl) Tryd.underlying46 rfl
theorem mt_GetVersion_OffsetDeleteRequest : MtOf Tryd.prog 46 "GetVersion" 80 := mt_of (b := true) (by kernel_rfl) Tryd.underlying46 rfl
theorem mt_IsFlexible_OffsetDeleteRequest : MtOf Tryd.prog 46 "IsFlexible" 81 := mt_of (b := true) (by kernel_rfl) Tryd.underlying46 rfl
theorem mt_AppendTo_OffsetDeleteRequest : MtOf Tryd.prog 46 "AppendTo" 79 := mt_of (b := true) (by kernel_rfl) Tryd.underlying46 rfl
theorem rq_OffsetDeleteRequest (t : Vw) (b : Nat) (v : Int) (x : Tre) (cells : List Value) (hob : OB t b (.cells (.int .i16 v :: cells).toArray 65)) (hM : RMp t F_OffsetDeleteRequest (imT F_OffsetDeleteRequest v (flexB (-1) v) x) cells) (hk : keysT x) (h0 : 0 ≤ v) (h1 : v ≤ 0) : Rq t 46 b 47 v (flexB (-1) v) (partB F_OffsetDeleteRequest v (flexB (-1) v) x) := by
  have him := partB_im (fs := F_OffsetDeleteRequest) (by kernel_rfl) (by kernel_rfl) v (flexB (-1) v) x
  have hfit := okP_im (fs := F_OffsetDeleteRequest) (by kernel_rfl) (by kernel_rfl) v (flexB (-1) v) x hk
  refine ⟨⟨_, mt_Key_OffsetDeleteRequest, en_82, fun u hu => key_OffsetDeleteRequest u b⟩, ⟨_, mt_GetVersion_OffsetDeleteRequest, en_80, fun u hu => getv_OffsetDeleteRequest u b v cells (hob.mv hu).rc⟩, ⟨_, mt_IsFlexible_OffsetDeleteRequest, en_81, fun u hu => isfl_OffsetDeleteRequest u b v cells (hob.mv hu).rc⟩, ⟨_, mt_AppendTo_OffsetDeleteRequest, en_79, fun u hu vd L0 hB hok hav => ?_⟩⟩
  have h := append_OffsetDeleteRequest u b v (imT F_OffsetDeleteRequest v (flexB (-1) v) x) cells vd L0 (hob.mv hu).rc (hM.mv hu) hfit h0 h1 (by rw [him]; exact hB) hok hav
  rwa [him] at h
theorem frame_OffsetDeleteRequest (t : Vw) (v num : Int) (has : Bool) (z : ByteArray) (x : Tre) (sv : Value) (hsv : RSv t sv (partB F_OffsetDeleteRequest v (flexB (-1) v) x)) (hk : keysT x) (h0 : 0 ≤ v) (h1 : v ≤ 0) (hz : z.size ≤ 32767) (hB : (partB F_OffsetDeleteRequest v (flexB (-1) v) x).length ≤ 1099511627776) : CA Tryd.prog 10 [.agg [.bool has, .string z].toArray, .int .i32 num, .int .i64 v, sv] t fun u r => ∃ rv, r = .tuple #[rv, .bool true] ∧ RSv u rv (frB 47 v num (idsB has z) (flexB (-1) v) (partB F_OffsetDeleteRequest v (flexB (-1) v) x)) := by
  refine ca_enter Tryd.func10 rfl Tryd.ntmps10 rfl ?_
  refine cd_sr ?_
  refine ln_box (l := [_, _]) rfl rfl rfl (fun bi => ?_)
  refine ln_pv (pv_assign rfl) rfl ?_
  refine ln_pv (pv_assign rfl) rfl ?_
  refine ln_cd ?_
  refine cd_sr ?_
  refine ln_callH (E := []) (H0 := [_]) (List.Perm.refl _) en_15 rfl (fun u hu hok hav hnd => newp_OffsetDeleteRequest u hok hav hnd) rfl ?_
  rintro u1 _ _ ht1 ⟨_, ⟨b, rfl, rfl⟩, _⟩
  refine ln_pv (pv_assign rfl) rfl ?_
  refine ln_cd ?_
  refine cd_sr ?_
  refine ln_pv (pv_move rfl) rfl ?_
  refine ln_pv (pv_move rfl) rfl ?_
  refine ln_pv (pv_conv' Tryd.underlying3 Tryd.underlying45 rfl (r := v) (wrap_i16_in (by omega) (by omega))) rfl ?_
  refine ln_callT (i := 0) en_19 rfl rfl (fun u hu hok hav => setd_OffsetDeleteRequest u b v hok hav) rfl ?_
  rintro u2 _ _ ht2 ⟨_, rfl, _⟩
  refine ln_cd ?_
  have hsv := hsv.mv (ht1.trans ht2)
  refine cd_seq ?_
  refine cd_sr ?_
  refine ln_pv (pv_move rfl) rfl ?_
  refine ln_pv (pv_move rfl) rfl ?_
  refine ln_nilrow 5 1 ?_
  refine ln_append (i := 0) rfl Tryd.underlying24 tiuint8 rfl (by decide) rfl rfl (RS.src hsv) (by simp only [maxLen]; omega) (by omega) rfl (k' := (partB F_OffsetDeleteRequest v (flexB (-1) v) x).length) (xs' := u8s (partB F_OffsetDeleteRequest v (flexB (-1) v) x)) (by omega) (by simp) (fun va hva => ?_)
  refine ln_free1 (fun q h => h.elim) (fun s3 ht3 hK => ?_)
  have hs3 : RSv s3 va (partB F_OffsetDeleteRequest v (flexB (-1) v) x) := Known.rs hK (u8s_one _)
  clear hK
  refine ln_callT (i := 0) en_20 rfl rfl (fun u hu hok hav => readf_OffsetDeleteRequest u b v x _ (RSv.mv hs3 hu) hk h0 h1 hok hav) rfl ?_
  rintro u4 _ _ ht4 ⟨ux4, ⟨rfl, cells, rfl, hM⟩, hx4⟩
  have hM := hM.mv hx4
  refine ln_pv (pv_neqI Tryd.underlying55 rfl) rfl ?_
  refine ln_cd ?_
  refine cd_ff rfl ?_
  refine cd_skip ?_
  refine at_cd ?_
  refine cd_free (fun s9 hs9 hK => ?_)
  have hob : OB s9 b (.cells (.int .i16 v :: cells).toArray 65) := hK _ (List.mem_of_getElem? (i := 0) rfl)
  have hoi : OB s9 bi (.cells [.bool has, .string z].toArray 23) := hK _ (List.mem_of_getElem? (i := 1) rfl)
  clear hK
  have hM := hM.mv hs9
  refine cd_sr ?_
  refine ln_pv (pv_ldR hoi.rc Tryd.underlying23 rfl tiimpl_Id.size rfl rfl) rfl ?_
  refine ln_pv (pv_move rfl) rfl ?_
  refine ln_pv (pv_ifaceP Tryd.underlying46 rfl) rfl ?_
  refine ln_pv (pv_move rfl) rfl ?_
  refine ln_callA en_21 rfl (fun u hu => framed u _ b 47 v num (flexB (-1) v) has z _ ((rq_OffsetDeleteRequest s9 b v x cells hob hM hk h0 h1).mv hu) (by decide) (by rw [strB_len]; exact hz) hB) rfl (fun u5 v5 ht5 hR5 => ?_)
  refine ln_pv (pv_assign rfl) rfl ?_
  refine ln_pv (pv_assign rfl) rfl ?_
  refine ln_cd ?_
  refine cd_ret ?_
  exact at_retA2 (K := 0) rfl rfl rfl (fun w hS => ⟨v5, rfl, RSv.mv hR5 hS.trFin⟩)
theorem law_OffsetDeleteRequest (t : Vw) (n : Nat) (has : Bool) (z : ByteArray) (num : Int) (x : Tre) (cs : List Value) (hn8 : n < 256) (hz : z.size ≤ 1048576) (hn0 : -2147483648 ≤ num) (hn1 : num ≤ 2147483647) (hx : RT t x cs) (hkx : keysT x) (hsm : smT x) (hB : (writeB F_OffsetDeleteRequest (-1) ((versionN n 0 : Nat) : Int) x).length < 1099511627776) : CS Tryd.prog 3 [.int .u8 (n : Int), .agg #[.bool has, .string z], .int .i32 num, .agg cs.toArray] t (.bool true) := by
  obtain ⟨sS, sL, sU, rfl, hn, hS, ⟨lc, hL, hLs⟩, hU⟩ := hx.open
  obtain ⟨adS, cS, rfl, hleS⟩ := hS.shape
  obtain ⟨adL, cL, rfl, hleL⟩ := hL.shape
  have hU0 := hU
  obtain ⟨uc, hU1, hUs⟩ := hU0
  obtain ⟨hz1, hz2, hz3, hz4⟩ := hsm.open
  have hok := ok_F_OffsetDeleteRequest
  have hvn : versionN n 0 ≤ 0 := by have := Nat.mod_lt n (show 0 < 0 + 1 by omega); unfold versionN; omega
  refine CA.cs ?_
  refine ca_enter Tryd.func3 rfl Tryd.ntmps3 rfl ?_
  cases hft : fits1 x with
  | false =>
    refine cd_sr ?_
    refine ln_box rfl rfl rfl (fun b1 => ?_)
    refine ln_box rfl rfl rfl (fun b2 => ?_)
    refine ln_pv (pv_assign rfl) rfl ?_
    refine ln_cd ?_
    refine cd_seq ?_
    refine cd_sr ?_
    refine ln_pv (pv_ldO (i := 1) rfl Tryd.underlying23 rfl (tiimpl_Id).size rfl rfl) rfl ?_
    refine ln_callS en_4 rfl (fun u hu => laws_zzFits4 u has z hz) rfl ?_
    refine ln_pv (pv_not rfl) rfl ?_
    refine ln_pv (pv_move rfl) rfl ?_
    refine ln_gt rfl rfl rfl (pv_ldO (i := 0) rfl Tryd.underlying28 rfl (tispec_Tree).size rfl rfl) rfl ?_
    refine ln_gE rfl rfl rfl ?_
    refine ln_callS en_5 rfl (fun u hu => by have h := laws_zzFits1 u x _ (RT.mv hx hu) (by omega); rwa [hft] at h) rfl ?_
    refine ln_gt rfl rfl rfl (pv_not rfl) rfl ?_
    refine ln_pv (pv_pick rfl (fun _ => rfl) (fun _ => rfl)) rfl ?_
    refine ln_cd ?_
    refine cd_tt rfl ?_
    refine cd_sr ?_
    refine ln_pv (pv_assign rfl) rfl ?_
    refine ln_cd ?_
    refine cd_ret ?_
    refine at_retA rfl rfl (fun w hS => ?_)
    rfl
  | true =>
    by_cases hbig : z.size > 32767
    · skip
      refine cd_sr ?_
      refine ln_box rfl rfl rfl (fun b1 => ?_)
      refine ln_box rfl rfl rfl (fun b2 => ?_)
      refine ln_pv (pv_assign rfl) rfl ?_
      refine ln_cd ?_
      refine cd_seq ?_
      refine cd_sr ?_
      refine ln_pv (pv_ldO (i := 1) rfl Tryd.underlying23 rfl (tiimpl_Id).size rfl rfl) rfl ?_
      refine ln_callS en_4 rfl (fun u hu => laws_zzFits4 u has z hz) rfl ?_
      refine ln_pv (pv_not rfl) rfl ?_
      refine ln_pv (pv_move rfl) rfl ?_
      refine ln_gt rfl rfl rfl (pv_ldO (i := 0) rfl Tryd.underlying28 rfl (tispec_Tree).size rfl rfl) rfl ?_
      refine ln_gE rfl rfl rfl ?_
      refine ln_callS en_5 rfl (fun u hu => by have h := laws_zzFits1 u x _ (RT.mv hx hu) (by omega); rwa [hft] at h) rfl ?_
      refine ln_gt rfl rfl rfl (pv_not rfl) rfl ?_
      refine ln_pv (pv_pick rfl (fun _ => rfl) (fun _ => rfl)) rfl ?_
      refine ln_cd ?_
      refine cd_ff rfl ?_
      refine cd_skip ?_
      refine at_cd ?_
      refine cd_sr ?_
      refine ln_callS en_6 rfl (fun u hu => max_OffsetDeleteRequest u) rfl ?_
      refine ln_pv (pv_assign rfl) rfl ?_
      refine ln_cd ?_
      refine cd_seq ?_
      refine cd_sr ?_
      refine ln_pv (pv_move rfl) rfl ?_
      refine ln_pv (pv_ff (pv_lss rfl rfl) (by omega)) rfl ?_
      refine ln_cd ?_
      refine cd_ff rfl ?_
      refine cd_skip ?_
      refine at_cd ?_
      refine cd_sr ?_
      refine ln_callA en_7 rfl (fun u hu => sch_F_OffsetDeleteRequest u) rfl (fun u1 v1 ht1 hR1 => ?_)
      have hx := hx.mv ht1
      obtain ⟨sv, lcm, rfl, hVm, hFm⟩ := hR1
      refine ln_pv (pv_move rfl) rfl ?_
      refine ln_pv (pv_move rfl) rfl ?_
      refine ln_callS en_8 rfl (fun u hu => laws_version u n 0 hn8 (by omega)) rfl ?_
      refine ln_alloc tispec_Message rfl rfl (fun b3 => ?_)
      refine ln_storeW (i := 0) rfl rfl rfl rfl (tispec_Message).size rfl (by simp [(RS.one hVm)]) ?_
      refine ln_pv (pv_assign rfl) rfl ?_
      refine ln_cd ?_
      refine cd_seq ?_
      refine cd_sr ?_
      refine ln_pv (pv_fieldAddr (off := 1) (r := 1) Tryd.underlying23 rfl (tistring).size rfl rfl rfl) rfl ?_
      refine ln_pv (pv_ldo (i := 2) rfl Tryd.underlying9 rfl rfl rfl) rfl ?_
      refine ln_pv (pv_len_str Tryd.underlying9 rfl) rfl ?_
      refine ln_pv (pv_tt (pv_gtr rfl rfl) (by omega)) rfl ?_
      refine ln_cd ?_
      refine cd_tt rfl ?_
      refine cd_sr ?_
      refine ln_pv (pv_assign rfl) rfl ?_
      refine ln_cd ?_
      refine cd_ret ?_
      refine at_retA rfl rfl (fun w hS => ?_)
      rfl
    · skip
      refine cd_sr ?_
      refine ln_box rfl rfl rfl (fun b1 => ?_)
      refine ln_box rfl rfl rfl (fun b2 => ?_)
      refine ln_pv (pv_assign rfl) rfl ?_
      refine ln_cd ?_
      refine cd_seq ?_
      refine cd_sr ?_
      refine ln_pv (pv_ldO (i := 1) rfl Tryd.underlying23 rfl (tiimpl_Id).size rfl rfl) rfl ?_
      refine ln_callS en_4 rfl (fun u hu => laws_zzFits4 u has z hz) rfl ?_
      refine ln_pv (pv_not rfl) rfl ?_
      refine ln_pv (pv_move rfl) rfl ?_
      refine ln_gt rfl rfl rfl (pv_ldO (i := 0) rfl Tryd.underlying28 rfl (tispec_Tree).size rfl rfl) rfl ?_
      refine ln_gE rfl rfl rfl ?_
      refine ln_callS en_5 rfl (fun u hu => by have h := laws_zzFits1 u x _ (RT.mv hx hu) (by omega); rwa [hft] at h) rfl ?_
      refine ln_gt rfl rfl rfl (pv_not rfl) rfl ?_
      refine ln_pv (pv_pick rfl (fun _ => rfl) (fun _ => rfl)) rfl ?_
      refine ln_cd ?_
      refine cd_ff rfl ?_
      refine cd_skip ?_
      refine at_cd ?_
      refine cd_sr ?_
      refine ln_callS en_6 rfl (fun u hu => max_OffsetDeleteRequest u) rfl ?_
      refine ln_pv (pv_assign rfl) rfl ?_
      refine ln_cd ?_
      refine cd_seq ?_
      refine cd_sr ?_
      refine ln_pv (pv_move rfl) rfl ?_
      refine ln_pv (pv_ff (pv_lss rfl rfl) (by omega)) rfl ?_
      refine ln_cd ?_
      refine cd_ff rfl ?_
      refine cd_skip ?_
      refine at_cd ?_
      refine cd_sr ?_
      refine ln_callA en_7 rfl (fun u hu => sch_F_OffsetDeleteRequest u) rfl (fun u1 v1 ht1 hR1 => ?_)
      have hx := hx.mv ht1
      obtain ⟨sv, lcm, rfl, hVm, hFm⟩ := hR1
      refine ln_pv (pv_move rfl) rfl ?_
      refine ln_pv (pv_move rfl) rfl ?_
      refine ln_callS en_8 rfl (fun u hu => laws_version u n 0 hn8 (by omega)) rfl ?_
      refine ln_alloc tispec_Message rfl rfl (fun b3 => ?_)
      refine ln_storeW (i := 0) rfl rfl rfl rfl (tispec_Message).size rfl (by simp [(RS.one hVm)]) ?_
      refine ln_pv (pv_assign rfl) rfl ?_
      refine ln_cd ?_
      refine cd_seq ?_
      refine cd_sr ?_
      refine ln_pv (pv_fieldAddr (off := 1) (r := 1) Tryd.underlying23 rfl (tistring).size rfl rfl rfl) rfl ?_
      refine ln_pv (pv_ldo (i := 2) rfl Tryd.underlying9 rfl rfl rfl) rfl ?_
      refine ln_pv (pv_len_str Tryd.underlying9 rfl) rfl ?_
      refine ln_pv (pv_ff (pv_gtr rfl rfl) (by omega)) rfl ?_
      refine ln_cd ?_
      refine cd_ff rfl ?_
      refine cd_skip ?_
      refine at_cd ?_
      refine cd_sr ?_
      refine ln_pv (pv_ldO (i := 0) rfl Tryd.underlying34 rfl (tispec_Message).size rfl rfl) rfl ?_
      refine ln_pv (pv_move rfl) rfl ?_
      refine ln_pv (pv_ldO (i := 1) rfl Tryd.underlying28 rfl (tispec_Tree).size rfl rfl) rfl ?_
      refine ln_callA en_9 rfl (fun u hu => spec_Write F_OffsetDeleteRequest (-1) hok.1 hok.2.2 u _ _ _ ((versionN n 0 : Nat) : Int) x (RS.mv hVm hu) (RFs.mv hFm hu) (RT.mv hx hu) hsm hB) rfl (fun u2 v2 ht2 hR2 => ?_)
      have hx := hx.mv ht2
      have hVm := hVm.mv ht2
      have hFm := hFm.mv ht2
      refine ln_pv (pv_assign rfl) rfl ?_
      refine ln_cd ?_
      refine cd_sr ?_
      refine ln_pv (pv_ldO (i := 2) rfl Tryd.underlying23 rfl (tiimpl_Id).size rfl rfl) rfl ?_
      refine ln_pv (pv_move rfl) rfl ?_
      refine ln_pv (pv_move rfl) rfl ?_
      refine ln_pv (pv_move rfl) rfl ?_
      refine ln_callA en_10 rfl (fun u hu => frame_OffsetDeleteRequest u ((versionN n 0 : Nat) : Int) num has z x _ (RSv.mv hR2 hu) hkx (by omega) (by omega) (by omega) (by rw [show partB F_OffsetDeleteRequest ((versionN n 0 : Nat) : Int) (flexB (-1) ((versionN n 0 : Nat) : Int)) x = writeB F_OffsetDeleteRequest (-1) ((versionN n 0 : Nat) : Int) x from rfl]; omega)) rfl (fun u3 v3 ht3 hR3 => ?_)
      have hx := hx.mv ht3
      have hVm := hVm.mv ht3
      have hFm := hFm.mv ht3
      have hR2 := hR2.mv ht3
      obtain ⟨rv, rfl, hV⟩ := hR3
      refine ln_pv (pv_move rfl) rfl ?_
      refine ln_pv (pv_extract rfl rfl) rfl ?_
      refine ln_pv (pv_extract rfl rfl) rfl ?_
      refine ln_pv (pv_assign rfl) rfl ?_
      refine ln_pv (pv_assign rfl) rfl ?_
      refine ln_cd ?_
      refine cd_dr3 [0, 1, 2] [1, 2, 3, 4, 5, 6, 7, 8, 10, 11, 13, 16, 17] [0, 1, 2, 3, 4, 5, 6, 7, 8, 10, 11, 13] 9 12 [12, 14, 15, 16, 17] [9, 14, 15, 16, 17] mixed (by kernel_rfl) ?_
      refine lo_eff rfl rfl ?_
      refine ln_pv (pv_move rfl) rfl ?_
      refine lo_back (sk_js (Tr.refl _) [0, 1, 2] rfl) ?_
      refine lo_pv rfl rfl (sk_js (Tr.refl _) [0, 1, 2] rfl) (pv_move rfl) rfl ?_
      refine lo_gt rfl rfl (sk_js (Tr.refl _) [0, 1, 2] rfl) rfl rfl rfl (pv_move rfl) rfl ?_
      refine lo_gt rfl rfl (sk_js (Tr.refl _) [0, 1, 2] rfl) rfl rfl rfl (pv_move rfl) rfl ?_
      refine lo_gt rfl rfl (sk_js (Tr.refl _) [0, 1, 2] rfl) rfl rfl rfl (pv_move rfl) rfl ?_
      refine lo_gt rfl rfl (sk_js (Tr.refl _) [0, 1, 2] rfl) rfl rfl rfl (pv_fieldAddr (off := 0) (r := 0) Tryd.underlying23 rfl (tibool).size rfl rfl rfl) rfl ?_
      refine lo_gt rfl rfl (sk_js (Tr.refl _) [0, 1, 2] rfl) rfl rfl rfl (pv_ldo (i := 2) rfl Tryd.underlying4 rfl rfl rfl) rfl ?_
      refine lo_gt rfl rfl (sk_js (Tr.refl _) [0, 1, 2] rfl) rfl rfl rfl (pv_fieldAddr (off := 1) (r := 1) Tryd.underlying23 rfl (tistring).size rfl rfl rfl) rfl ?_
      refine lo_gt rfl rfl (sk_js (Tr.refl _) [0, 1, 2] rfl) rfl rfl rfl (pv_ldo (i := 2) rfl Tryd.underlying9 rfl rfl rfl) rfl ?_
      refine lo_gt rfl rfl (sk_js (Tr.refl _) [0, 1, 2] rfl) rfl rfl rfl (pv_ldO (i := 0) rfl Tryd.underlying34 rfl (tispec_Message).size rfl rfl) rfl ?_
      refine lo_gt rfl rfl (sk_js (Tr.refl _) [0, 1, 2] rfl) rfl rfl rfl (pv_move rfl) rfl ?_
      refine lo_gt rfl rfl (sk_js (Tr.refl _) [0, 1, 2] rfl) rfl rfl rfl (pv_move rfl) rfl ?_
      refine lo_nil (at_two ?_ ?_)
      · skip
        refine lo_eff rfl rfl ?_
        refine ln_gE rfl rfl rfl ?_
        refine ln_s2b Tryd.underlying9 Tryd.underlying24 Tryd.underlying5 rfl rfl (fun bS4 cS4 zS4 fS4 hcS4 => ?_)
        refine ln_free1 (fun q h => h.elim) (fun sS4 htS4 hKS4 => ?_)
        have hsS4 := rs_of_obj hKS4 hcS4
        clear hKS4
        have hx := hx.mv htS4
        have hVm := hVm.mv htS4
        have hFm := hFm.mv htS4
        have hR2 := hR2.mv htS4
        have hV := hV.mv htS4
        refine lo_back (sk_js htS4 [0, 1, 2] rfl) ?_
        refine lo_eff rfl rfl ?_
        refine ln_gE rfl rfl rfl ?_
        refine ln_callS en_13 rfl (fun u hu => spec_Flexible u _ _ _ (-1) ((versionN n 0 : Nat) : Int) (RS.mv hVm hu)) rfl ?_
        refine lo_back (sk_js htS4 [0, 1, 2] rfl) ?_
        refine lo_eff rfl rfl ?_
        refine ln_gE rfl rfl rfl ?_
        refine ln_callA en_12 rfl (fun u hu => spec_Frame u 47 ((versionN n 0 : Nat) : Int) num has (flexB (-1) ((versionN n 0 : Nat) : Int)) _ _ (strB z) (writeB F_OffsetDeleteRequest (-1) ((versionN n 0 : Nat) : Int) x) (RSv.mv hsS4 hu) (RSv.mv hR2 hu) hn0 hn1 (by rw [strB_len]; omega) (by omega)) rfl (fun u5 v5 ht5 hR5 => ?_)
        have hx := hx.mv ht5
        have hVm := hVm.mv ht5
        have hFm := hFm.mv ht5
        have hR2 := hR2.mv ht5
        have hV := hV.mv ht5
        have hsS4 := hsS4.mv ht5
        refine lo_back (sk_js (htS4.trans ht5) [0, 1, 2] rfl) ?_
        refine lo_eff rfl rfl ?_
        refine ln_gE rfl rfl rfl ?_
        refine ln_callS en_11 rfl (fun u hu => by have h := spec_Same u _ _ (frB 47 ((versionN n 0 : Nat) : Int) num (idsB has z) (flexB (-1) ((versionN n 0 : Nat) : Int)) (writeB F_OffsetDeleteRequest (-1) ((versionN n 0 : Nat) : Int) x)) (frB 47 ((versionN n 0 : Nat) : Int) num (idsB has z) (flexB (-1) ((versionN n 0 : Nat) : Int)) (writeB F_OffsetDeleteRequest (-1) ((versionN n 0 : Nat) : Int) x)) (RSv.mv hV hu) (RSv.mv hR5 hu) (by have := frB_le (key := 47) (v := ((versionN n 0 : Nat) : Int)) (num := num) (has := has) (fl := flexB (-1) ((versionN n 0 : Nat) : Int)) (body := writeB F_OffsetDeleteRequest (-1) ((versionN n 0 : Nat) : Int) x) (z := z) (by omega); omega); rwa [decide_eq_true rfl] at h) rfl ?_
        refine lo_back (sk_js (htS4.trans ht5) [0, 1, 2] rfl) ?_
        refine lo_pv rfl rfl (sk_js (htS4.trans ht5) [0, 1, 2] rfl) (pv_pick rfl (fun _ => rfl) (fun _ => rfl)) rfl ?_
        refine lo_pv rfl rfl (sk_js (htS4.trans ht5) [0, 1, 2] rfl) (pv_assign rfl) rfl ?_
        refine lo_cd ?_
        refine cd_ret ?_
        refine at_retA rfl rfl (fun w hS => ?_)
        rfl
      · skip
        refine lo_eff rfl rfl ?_
        refine ln_gE rfl rfl rfl ?_
        refine ln_callS en_13 rfl (fun u hu => spec_Flexible u _ _ _ (-1) ((versionN n 0 : Nat) : Int) (RS.mv hVm hu)) rfl ?_
        refine lo_back (sk_js (Tr.refl _) [0, 1, 2] rfl) ?_
        refine lo_eff rfl rfl ?_
        refine ln_gE rfl rfl rfl ?_
        refine ln_s2b Tryd.underlying9 Tryd.underlying24 Tryd.underlying5 rfl rfl (fun bS6 cS6 zS6 fS6 hcS6 => ?_)
        refine ln_free1 (fun q h => h.elim) (fun sS6 htS6 hKS6 => ?_)
        have hsS6 := rs_of_obj hKS6 hcS6
        clear hKS6
        have hx := hx.mv htS6
        have hVm := hVm.mv htS6
        have hFm := hFm.mv htS6
        have hR2 := hR2.mv htS6
        have hV := hV.mv htS6
        refine lo_back (sk_js htS6 [0, 1, 2] rfl) ?_
        refine lo_eff rfl rfl ?_
        refine ln_gE rfl rfl rfl ?_
        refine ln_callA en_12 rfl (fun u hu => spec_Frame u 47 ((versionN n 0 : Nat) : Int) num has (flexB (-1) ((versionN n 0 : Nat) : Int)) _ _ (strB z) (writeB F_OffsetDeleteRequest (-1) ((versionN n 0 : Nat) : Int) x) (RSv.mv hsS6 hu) (RSv.mv hR2 hu) hn0 hn1 (by rw [strB_len]; omega) (by omega)) rfl (fun u7 v7 ht7 hR7 => ?_)
        have hx := hx.mv ht7
        have hVm := hVm.mv ht7
        have hFm := hFm.mv ht7
        have hR2 := hR2.mv ht7
        have hV := hV.mv ht7
        have hsS6 := hsS6.mv ht7
        refine lo_back (sk_js (htS6.trans ht7) [0, 1, 2] rfl) ?_
        refine lo_eff rfl rfl ?_
        refine ln_gE rfl rfl rfl ?_
        refine ln_callS en_11 rfl (fun u hu => by have h := spec_Same u _ _ (frB 47 ((versionN n 0 : Nat) : Int) num (idsB has z) (flexB (-1) ((versionN n 0 : Nat) : Int)) (writeB F_OffsetDeleteRequest (-1) ((versionN n 0 : Nat) : Int) x)) (frB 47 ((versionN n 0 : Nat) : Int) num (idsB has z) (flexB (-1) ((versionN n 0 : Nat) : Int)) (writeB F_OffsetDeleteRequest (-1) ((versionN n 0 : Nat) : Int) x)) (RSv.mv hV hu) (RSv.mv hR7 hu) (by have := frB_le (key := 47) (v := ((versionN n 0 : Nat) : Int)) (num := num) (has := has) (fl := flexB (-1) ((versionN n 0 : Nat) : Int)) (body := writeB F_OffsetDeleteRequest (-1) ((versionN n 0 : Nat) : Int) x) (z := z) (by omega); omega); rwa [decide_eq_true rfl] at h) rfl ?_
        refine lo_back (sk_js (htS6.trans ht7) [0, 1, 2] rfl) ?_
        refine lo_pv rfl rfl (sk_js (htS6.trans ht7) [0, 1, 2] rfl) (pv_pick rfl (fun _ => rfl) (fun _ => rfl)) rfl ?_
        refine lo_pv rfl rfl (sk_js (htS6.trans ht7) [0, 1, 2] rfl) (pv_assign rfl) rfl ?_
        refine lo_cd ?_
        refine cd_ret ?_
        refine at_retA rfl rfl (fun w hS => ?_)
        rfl
theorem fn_OffsetDeleteRequest (t : Vw) (n : Nat) (has : Bool) (z : ByteArray) (num : Int) (x : Tre) (cs : List Value) (hn : n < 256) (hz : z.size ≤ 1048576) (hn0 : -2147483648 ≤ num) (hn1 : num ≤ 2147483647) (hx : RT t x cs) (hw : wt x ≤ 1048576) : CS Tryd.prog 3 [.int .u8 (n : Int), .agg #[.bool has, .string z], .int .i32 num, .agg cs.toArray] t (.bool true) := by
  have hok := ok_F_OffsetDeleteRequest
  exact law_OffsetDeleteRequest t n has z num x cs hn hz hn0 hn1 hx hx.keys (smT_wt x (by omega)) (writeB_len _ _ _ x hok.1 hx.keys hw (of_decide_eq_true (by kernel_rfl)))
end K
end Go.Proofs.YtepbicjadambbaaDoor
