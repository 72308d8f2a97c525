import Derived.Test.YtpphedmelbfnmaaGreatDoorTn
import Derived.Test.YtpphedmelbfnmaaGreatDoorTm
import Derived.Test.YtpphedmelbfnmaaGreatDoorMbs
import Derived.Test.YtpphedmelbfnmaaGreatDoorMbt
import Derived.Test.YtpphedmelbfnmaaGreatDoorP4
import Derived.Test.YtpphedmelbfnmaaGreatDoorS10
set_option linter.unusedVariables false
set_option linter.unusedSimpArgs false
namespace Go.Proofs.YtpphedmelbfnmaaGreatDoor
namespace K
open Go Go.Lib
theorem df_JoinGroupRequest (z0 z1 z2 z3 z4 z5 z6 z7 z8 z9 : Value) : DfC 43 [z0, z1, z2, z3, z4, z5, z6, z7, z8, z9] [z0, z1, z2, .int .i32 (-1), z4, z5, z6, z7, z8, z9] := by
  intro mk b o hT t hok hav
  refine ct_enter Tryz.func43 rfl Tryz.ntmps43 rfl hok hav (by rw [hT.blk]; simp) ?_
  refine cd_region ?_
  refine ln_pv (pv_move rfl) rfl ?_
  refine ln_pv (pv_nilCheck rfl) rfl ?_
  refine ln_pv (pv_fieldAddr (off := 3) Tryz.underlying115 rfl tiint32.size rfl rfl rfl) rfl ?_
  refine ln_storeG1 (i := 0) (off := 3) (v := .int .i32 (-1)) hT rfl rfl rfl rfl rfl tiint32.size (Nat.le_of_ble_eq_true rfl) ?_
  refine ln_nil ?_
  exact at_retT0 (i := 0) rfl rfl (fun w hS => ⟨rfl, rfl⟩)
theorem df_JoinGroupRequestProtocol (z0 z1 z2 : Value) : DfC 113 [z0, z1, z2] [z0, z1, z2] := by
  intro mk b o hT t hok hav
  refine ct_enter Tryz.func113 rfl Tryz.ntmps113 rfl hok hav (by rw [hT.blk]; simp) ?_
  refine cd_skip ?_
  exact at_retT0 (i := 0) rfl rfl (fun w hS => ⟨rfl, rfl⟩)
theorem read_JoinGroupRequest (t : Vw) (b : Nat) (v : Int) (x : Tre) (sv : Value) (hsv : RSv t sv (partB F_JoinGroupRequest v (flexB 6 v) x)) (hk : keysT x) (h0 : 0 ≤ v) (h1 : v ≤ 9) (hok : (MsgBox b 115 (.int .i16 v :: ([.string .empty, .int .i32 0, .int .i32 (-1), .string .empty, .pointer none, .string .empty, .slice none 0 0, .pointer none, .map none] : List Value))).ok t.w) (hav : ∀ q ∈ (MsgBox b 115 (.int .i16 v :: ([.string .empty, .int .i32 0, .int .i32 (-1), .string .empty, .pointer none, .string .empty, .slice none 0 0, .pointer none, .map none] : List Value))).blk, t.av q) : CT Tryz.prog 72 [.pointer (some ⟨b, 0, none⟩), sv, .bool false] t (MsgBox b 115 (.int .i16 v :: ([.string .empty, .int .i32 0, .int .i32 (-1), .string .empty, .pointer none, .string .empty, .slice none 0 0, .pointer none, .map none] : List Value))) fun u r e' => r = .nilIface ∧ ∃ cells, e' = MsgBox b 115 (.int .i16 v :: cells) ∧ RMp u F_JoinGroupRequest (imT F_JoinGroupRequest v (flexB 6 v) x) cells := by
  have hv0 := h0
  have hnt : ntFs F_JoinGroupRequest = true := by kernel_rfl
  generalize hqd : flexB 6 v = q at *
  have hq0 : decide (v ≥ 6) = q := by rw [← hqd]; simp [flexB]
  obtain ⟨adS, cS, rfl, hcS⟩ := RSv.shape hsv
  refine ct_enter Tryz.func72 rfl Tryz.ntmps72 rfl hok hav (by simp [Ent.blk]) ?_
  refine cd_sq ?_
  refine rg_const rfl ?_
  refine at_cd ?_
  refine cd_sr ?_
  refine ln_pv (pv_move rfl) rfl ?_
  refine ln_callT (i := 0) (vals := [.pointer (some ⟨b, 0, none⟩)]) en_43 rfl rfl (fun u hu hok hav => df_JoinGroupRequest _ _ _ _ _ _ _ _ _ _ (fun w => .obj b (.cells w.toArray 115)) b 0 (Tgt.obj b 115 10) u hok hav) rfl ?_
  rintro u1 _ _ ht1 ⟨ux1, ⟨rfl, rfl⟩, hx1⟩
  refine ln_cd ?_
  refine cd_sr ?_
  refine ln_pv (pv_move rfl) rfl ?_
  refine ln_pv (pv_struct [(0, 1), (1, 1)] (l := [_, _]) rfl Tryz.underlying129 tipub_kmsg_inner_kbin_Reader (by kernel_rfl) rfl rfl) rfl ?_
  refine ln_alloc (l := [.slice none 0 0, .bool false]) tipub_kmsg_inner_kbin_Reader rfl rfl (fun br => ?_)
  refine ln_storeW (i := 0) (vs := [_, .bool false]) rfl rfl rfl rfl tipub_kmsg_inner_kbin_Reader.size rfl (by simp) ?_
  refine ln_cd ?_
  refine cd_sr ?_
  refine ln_pv (pv_move rfl) rfl ?_
  refine ln_pv (pv_nilCheck rfl) rfl ?_
  refine ln_pv (pv_fieldAddr (off := 0) (r := 0) Tryz.underlying115 rfl tiint16.size rfl rfl rfl) rfl ?_
  refine ln_pv (pv_ldo (i := 1) (v := .int .i16 v) rfl Tryz.underlying49 rfl rfl rfl) rfl ?_
  refine ln_pv (pv_assign rfl) rfl ?_
  refine ln_cd ?_
  refine cd_sq ?_
  refine rg_blank rfl rfl ?_
  refine at_cd ?_
  refine cd_sr ?_
  refine ln_pv (pv_move rfl) rfl ?_
  refine ln_pv (pv_geq rfl rfl) rfl ?_
  refine ln_pv (pv_assign rfl) rfl ?_
  rw [hq0]
  refine ln_cd ?_
  refine cd_sq ?_
  refine rg_blank rfl rfl ?_
  refine at_cd ?_
  refine cd_sr ?_
  refine ln_pv (pv_move rfl) rfl ?_
  refine ln_pv (pv_assign rfl) rfl ?_
  refine ln_cd ?_
  refine cd_sub_ (L' := [(10, .pointer (some ⟨b, 0, none⟩)), (9, .bool q), (8, .int .i16 v), (7, .pointer (some ⟨br, 0, none⟩)), (2, .bool false)]) (.put rfl (.put rfl (.put rfl (.put rfl (.put rfl .nil))))) ?_
  obtain ⟨mk, hmk⟩ : ∃ mk : List Value → Ent, mk = fun w => MsgBox b 115 (.int .i16 v :: w) := ⟨_, rfl⟩
  have hT : Tgt mk b 1 9 := by rw [hmk]; exact Tgt.behind b 115 _ 9
  refine cd_eqH (H' := [RdE br _, mk ([] ++ ([.string .empty, .int .i32 0, .int .i32 (-1), .string .empty, .pointer none, .string .empty, .slice none 0 0, .pointer none, .map none] : List Value))]) (by rw [hmk]; rfl) ?_
  have hR : Rs u1 [.mk 8 0 (-1) (-1) (-1) 0 0 [], .mk 3 0 (-1) (-1) (-1) 0 0 [], .mk 3 1 (-1) (-1) (-1) (-1) 0 [], .mk 8 0 (-1) (-1) (-1) 0 0 [], .mk 8 5 (-1) 5 (-1) 0 0 [], .mk 8 0 (-1) (-1) (-1) 0 0 [], .mk 11 0 (-1) (-1) (-1) 0 10 F_sJoinGroupRequestProtocol, .mk 8 8 (-1) 8 (-1) 0 0 []] [] v q x (imT F_JoinGroupRequest v q x) (tgsB q x ++ []) _ [] := Rs.start (F := F_JoinGroupRequest) (RSv.part hnt (by rw [List.append_nil]; exact RSv.mv hsv ht1)) hnt
  refine cd_sq ?_
  refine cd_sq ?_
  refine rg_const rfl ?_
  refine at_cd ?_
  refine st_str (z := .string .empty) hR (hasB_all hv0) rfl rfl rfl en_88 en_89 (fun h => Fc.of (by decide) (by decide) (by decide) (sc_cstr _ h _)) (fun h => Fc.of (by decide) (by decide) (by decide) (sc_str _ h _)) rfl hT rfl Tryz.underlying115 rfl tistring.size rfl (po_eq (show 1 = 1 + fszs _ by kernel_rfl)) tistring.size rfl rfl rfl rfl rfl (fun u1 v1 done1 ht1 hR => ?_)
  refine at_cd ?_
  refine cd_sq ?_
  refine st_num (z := .int .i32 0) hR (hasB_all hv0) rfl en_81 (Fc.num (by decide) (by decide) (by decide) (fun null => sc_i32 null _ _)) rfl hT rfl Tryz.underlying115 rfl tiint32.size rfl (po_eq (show 2 = 1 + fszs _ by kernel_rfl)) tiint32.size rfl rfl (fun u2 v2 done2 ht2 hR => ?_)
  refine at_cd ?_
  refine cd_sq ?_
  refine st_if (zc := ([.int .i32 (-1)] : List Value)) (zs := ([.string .empty, .pointer none, .string .empty, .slice none 0 0, .pointer none, .map none] : List Value)) rfl rfl hR (hasB_from) (fun u => df_i32 u (by decide)) rfl (fun u3 v3 done3 ht3 hR => ?_) (fun hh kk => ?_)
  rotate_left
  · skip
    exact st_num (z := .int .i32 (-1)) hR hh rfl en_81 (Fc.num (by decide) (by decide) (by decide) (fun null => sc_i32 null _ _)) rfl hT rfl Tryz.underlying115 rfl tiint32.size rfl (po_eq (show 3 = 1 + fszs _ by kernel_rfl)) tiint32.size rfl rfl kk
  refine at_cd ?_
  refine cd_sq ?_
  refine cd_sq ?_
  refine rg_const rfl ?_
  refine at_cd ?_
  refine st_str (z := .string .empty) hR (hasB_all hv0) rfl rfl rfl en_88 en_89 (fun h => Fc.of (by decide) (by decide) (by decide) (sc_cstr _ h _)) (fun h => Fc.of (by decide) (by decide) (by decide) (sc_str _ h _)) rfl hT rfl Tryz.underlying115 rfl tistring.size rfl (po_eq (show 4 = 1 + fszs _ by kernel_rfl)) tistring.size rfl rfl rfl rfl rfl (fun u4 v4 done4 ht4 hR => ?_)
  refine at_cd ?_
  refine cd_sq ?_
  refine st_if (zc := ([.pointer none] : List Value)) (zs := ([.string .empty, .slice none 0 0, .pointer none, .map none] : List Value)) rfl rfl hR (hasB_from) (fun u => df_txt u (by decide)) rfl (fun u5 v5 done5 ht5 hR => ?_) (fun hh kk => ?_)
  rotate_left
  · skip
    refine cd_sq ?_
    refine rg_const rfl ?_
    refine at_cd ?_
    exact st_txt (z := .pointer none) hR hh rfl rfl rfl en_98 en_100 (fun h => fc_ctxt (by decide) h) (fun h => fc_txt (by decide) h) rfl hT rfl Tryz.underlying115 rfl tiPt_string.size rfl (po_eq (show 5 = 1 + fszs _ by kernel_rfl)) tiPt_string.size rfl rfl rfl rfl rfl rfl kk
  refine at_cd ?_
  refine cd_sq ?_
  refine cd_sq ?_
  refine rg_const rfl ?_
  refine at_cd ?_
  refine st_str (z := .string .empty) hR (hasB_all hv0) rfl rfl rfl en_88 en_89 (fun h => Fc.of (by decide) (by decide) (by decide) (sc_cstr _ h _)) (fun h => Fc.of (by decide) (by decide) (by decide) (sc_str _ h _)) rfl hT rfl Tryz.underlying115 rfl tistring.size rfl (po_eq (show 6 = 1 + fszs _ by kernel_rfl)) tistring.size rfl rfl rfl rfl rfl (fun u6 v6 done6 ht6 hR => ?_)
  refine at_cd ?_
  refine cd_sq ?_
  refine st_list (zc := ([.string .empty, .slice none 0 0, .map none] : List Value)) hR (hasB_all hv0) (by decide) rfl rfl rfl hT rfl Tryz.underlying115 rfl tiSl_kmsg_JoinGroupRequestProtocol.size rfl (po_eq (show 7 = 1 + fszs _ by kernel_rfl)) tiSl_kmsg_JoinGroupRequestProtocol.size Tryz.underlying113 Tryz.underlying21 tipub_kmsg_JoinGroupRequestProtocol rfl rfl (by kernel_rfl) (by decide) (by decide) (fun q hq => .inl (by simpa [Ent.blk] using hq)) (fun z => part_pos (plain_pos (by decide) (by decide) (by decide) (hasB_all hv0))) rfl rfl rfl rfl rfl rfl rfl rfl rfl rfl rfl rfl rfl (keysT.at_ hk _) (fun gb7 cap7 m7 i7 x7 u7 v7 xs7 rest7 N7 X7 hi7 hm7 hk7 ht7 hxl7 hv7 kb7 => ?_) (fun uu7 vv7 done7 hh7 hR => ?_)
  · skip
    have hnt7 : ntFs F_sJoinGroupRequestProtocol = true := by kernel_rfl
    have hvp7 := RSv.el hnt7 hv7
    refine cd_sq ?_
    refine rg_ix rfl rfl hi7 Tryz.underlying113 tipub_kmsg_JoinGroupRequestProtocol.size rfl ?_
    refine at_cd ?_
    obtain ⟨mk7, hmk7⟩ : ∃ mk : List Value → Ent, mk = fun w => .row (.slice (some ⟨gb7, 0, none⟩) m7 cap7) 119 3 m7 (xs7 ++ (w ++ (List.replicate (m7 - (i7 + 1)) ([.string .empty, .slice none 0 0, .map none] : List Value)).flatten)) := ⟨_, rfl⟩
    have hT7 : Tgt mk7 gb7 (0 + i7 * 3) 3 := by rw [hmk7]; exact (Tgt.row gb7 cap7 m7 3 119).mid _ _ _ _ (list_fits hi7 hxl7 rfl) (by rw [hxl7])
    refine cd_eqH (H' := RdE _ v7 :: mk7 ([.string .empty, .slice none 0 0, .map none] : List Value) :: _) (by rw [hmk7]) ?_
    refine cd_sq ?_
    refine rg_dflt (z2 := ([.string .empty, .slice none 0 0, .map none] : List Value)) rfl en_113 (df_JoinGroupRequestProtocol _ _ _) hT7 rfl (fun u8 ht8 => ?_)
    refine at_cd ?_
    refine cd_sq ?_
    refine rg_move rfl rfl ?_
    refine at_cd ?_
    have hR : Rs u8 [.mk 8 0 (-1) (-1) (-1) 0 0 [], .mk 9 0 (-1) (-1) (-1) 0 0 []] [] _ q x7 (.mk 0 [] false (imL F_sJoinGroupRequestProtocol _ q x7 0) (imU F_sJoinGroupRequestProtocol q x7.u)) (tgsB q x7 ++ rest7) v7 [] := Rs.start (F := F_sJoinGroupRequestProtocol) (RSv.mv hvp7 ht8) hnt7
    refine cd_eqH (H' := RdE _ v7 :: mk7 ([] ++ ([.string .empty, .slice none 0 0, .map none] : List Value)) :: _) rfl ?_
    refine cd_sq ?_
    refine cd_sq ?_
    refine rg_const rfl ?_
    refine at_cd ?_
    refine st_str (z := .string .empty) hR (hasB_all hv0) rfl rfl rfl en_88 en_89 (fun h => Fc.of (by decide) (by decide) (by decide) (sc_cstr _ h _)) (fun h => Fc.of (by decide) (by decide) (by decide) (sc_str _ h _)) rfl hT7 rfl Tryz.underlying119 rfl tistring.size rfl (po_eq (show 0 = 0 + fszs _ by kernel_rfl)) tistring.size rfl rfl rfl rfl rfl (fun u9 v9 done9 ht9 hR => ?_)
    refine at_cd ?_
    refine cd_sq ?_
    refine cd_sq ?_
    refine rg_const rfl ?_
    refine at_cd ?_
    refine st_flex (z := .slice none 0 0) hR (hasB_all hv0) rfl rfl en_114 en_115 (fun h => Fc.of (by decide) (by decide) (by decide) (sc_coct _ h _)) (fun h => Fc.of (by decide) (by decide) (by decide) (sc_oct _ h _)) rfl hT7 rfl Tryz.underlying119 rfl tiSl_uint8.size rfl (po_eq (show 1 = 0 + fszs _ by kernel_rfl)) tiSl_uint8.size rfl rfl rfl rfl (fun u10 v10 done10 ht10 hR => ?_)
    refine at_cd ?_
    refine st_tags (F := F_sJoinGroupRequestProtocol) hnt7 hR (keysT.open hk7).1 rfl rfl rfl hT7 rfl Tryz.underlying119 rfl tipub_kmsg_Tags.size rfl (po_eq (show 2 = 0 + fszs _ by kernel_rfl)) tipub_kmsg_Tags.size rfl rfl (fun u11 v11 cs11 ht11 hv hM => ?_)
    refine at_eqH (H' := RdE _ _ :: .row (.slice (some ⟨gb7, 0, none⟩) m7 cap7) 119 3 m7 (xs7 ++ (_ ++ (List.replicate (m7 - (i7 + 1)) ([.string .empty, .slice none 0 0, .map none] : List Value)).flatten)) :: _) (by rw [hmk7]) ?_
    exact at_sub (.skip rfl (.skip rfl .rfl')) (kb7 _ _ _ (((ht8.trans ht9).trans ht10).trans ht11) (REl_part hM) hv)
  refine at_cd ?_
  refine cd_sq ?_
  refine st_if (zc := ([.pointer none] : List Value)) (zs := ([.map none] : List Value)) rfl rfl hR (hasB_from) (fun u => df_txt u (by decide)) rfl (fun u12 v12 done12 ht12 hR => ?_) (fun hh kk => ?_)
  rotate_left
  · skip
    refine cd_sq ?_
    refine rg_const rfl ?_
    refine at_cd ?_
    exact st_txt (z := .pointer none) hR hh rfl rfl rfl en_98 en_100 (fun h => fc_ctxt (by decide) h) (fun h => fc_txt (by decide) h) rfl hT rfl Tryz.underlying115 rfl tiPt_string.size rfl (po_eq (show 8 = 1 + fszs _ by kernel_rfl)) tiPt_string.size rfl rfl rfl rfl rfl rfl kk
  refine at_cd ?_
  refine cd_sq ?_
  refine st_tags (F := F_JoinGroupRequest) hnt hR (keysT.open hk).1 rfl rfl rfl hT rfl Tryz.underlying115 rfl tipub_kmsg_Tags.size rfl (po_eq (show 9 = 1 + fszs _ by kernel_rfl)) tipub_kmsg_Tags.size rfl rfl (fun u13 v13 cs13 ht13 hv hM => ?_)
  refine at_cd ?_
  refine cd_sr ?_
  refine ln_callT (i := 0) (vals := [.pointer (some ⟨br, 0, none⟩)]) en_91 rfl rfl (fun u hu hok hav => rd_Complete u br _ hok hav) rfl ?_
  rintro u9 _ _ ht9 ⟨ux9, ⟨rfl, rfl⟩, hx9⟩
  refine ln_pv (pv_assign rfl) rfl ?_
  refine ln_cd ?_
  refine cd_ret ?_
  exact at_retT (i := 1) rfl rfl rfl (fun w hS => ⟨rfl, _, by rw [hmk], (hM.mv ht9).mv (hS.trFinT _ _)⟩)
theorem newp_JoinGroupRequest (t : Vw) (hok : HF [] t.w) (hav : ∀ q ∈ blks [], t.av q) (hnd : (blks []).Nodup) : CH Tryz.prog 38 [] t [] fun u r E' => ∃ b, r = .pointer (some ⟨b, 0, none⟩) ∧ E' = [MsgBox b 115 [.int .i16 0, .string .empty, .int .i32 0, .int .i32 (-1), .string .empty, .pointer none, .string .empty, .slice none 0 0, .pointer none, .map none]] := by
  refine ch_enter Tryz.func38 rfl Tryz.ntmps38 rfl hok hav hnd ?_
  refine cd_sr ?_
  refine ln_pv (pv_assign rfl) rfl ?_
  refine ln_cd ?_
  refine cd_sr ?_
  refine ln_alloc tipub_kmsg_JoinGroupRequest rfl rfl (fun b => ?_)
  refine ln_cd ?_
  refine cd_sr ?_
  refine ln_callT (i := 0) en_43 rfl rfl (fun u hu hok hav => df_JoinGroupRequest _ _ _ _ _ _ _ _ _ _ (fun w => .obj b (.cells w.toArray 115)) b 0 (Tgt.obj b 115 10) u hok hav) rfl ?_
  rintro u1 _ _ ht1 ⟨_, ⟨rfl, rfl⟩, _⟩
  refine ln_cd ?_
  refine cd_sr ?_
  refine ln_pv (pv_assign rfl) rfl ?_
  refine ln_cd ?_
  refine cd_ret ?_
  exact at_retHq [MsgBox b 115 [.int .i16 0, .string .empty, .int .i32 0, .int .i32 (-1), .string .empty, .pointer none, .string .empty, .slice none 0 0, .pointer none, .map none]] (List.Sublist.refl _) rfl rfl (fun w hS => ⟨b, rfl, rfl⟩)
theorem setd_JoinGroupRequest (t : Vw) (b : Nat) (v : Int) (hok : (MsgBox b 115 [.int .i16 0, .string .empty, .int .i32 0, .int .i32 (-1), .string .empty, .pointer none, .string .empty, .slice none 0 0, .pointer none, .map none]).ok t.w) (hav : ∀ q ∈ (MsgBox b 115 [.int .i16 0, .string .empty, .int .i32 0, .int .i32 (-1), .string .empty, .pointer none, .string .empty, .slice none 0 0, .pointer none, .map none]).blk, t.av q) : CT Tryz.prog 41 [.pointer (some ⟨b, 0, none⟩), .int .i16 v] t (MsgBox b 115 [.int .i16 0, .string .empty, .int .i32 0, .int .i32 (-1), .string .empty, .pointer none, .string .empty, .slice none 0 0, .pointer none, .map none]) fun u r e' => e' = MsgBox b 115 [.int .i16 v, .string .empty, .int .i32 0, .int .i32 (-1), .string .empty, .pointer none, .string .empty, .slice none 0 0, .pointer none, .map none] := by
  refine ct_enter Tryz.func41 rfl Tryz.ntmps41 rfl hok hav (by simp [Ent.blk]) ?_
  refine cd_region ?_
  refine ln_pv (pv_move rfl) rfl ?_
  refine ln_pv (pv_move rfl) rfl ?_
  refine ln_pv (pv_nilCheck rfl) rfl ?_
  refine ln_pv (pv_fieldAddr (off := 0) (r := 0) Tryz.underlying115 rfl (tiint16).size rfl rfl rfl) rfl ?_
  refine ln_store1 (i := 0) rfl rfl rfl rfl (tiint16).size rfl ?_
  refine ln_nil ?_
  exact at_retT0 (i := 0) rfl rfl (fun w hS => rfl)
theorem readf_JoinGroupRequest (t : Vw) (b : Nat) (v : Int) (x : Tre) (sv : Value) (hsv : RSv t sv (partB F_JoinGroupRequest v (flexB 6 v) x)) (hk : keysT x) (h0 : 0 ≤ v) (h1 : v ≤ 9) (hok : (MsgBox b 115 (.int .i16 v :: ([.string .empty, .int .i32 0, .int .i32 (-1), .string .empty, .pointer none, .string .empty, .slice none 0 0, .pointer none, .map none] : List Value))).ok t.w) (hav : ∀ q ∈ (MsgBox b 115 (.int .i16 v :: ([.string .empty, .int .i32 0, .int .i32 (-1), .string .empty, .pointer none, .string .empty, .slice none 0 0, .pointer none, .map none] : List Value))).blk, t.av q) : CT Tryz.prog 42 [.pointer (some ⟨b, 0, none⟩), sv] t (MsgBox b 115 (.int .i16 v :: ([.string .empty, .int .i32 0, .int .i32 (-1), .string .empty, .pointer none, .string .empty, .slice none 0 0, .pointer none, .map none] : List Value))) fun u r e' => r = .nilIface ∧ ∃ cells, e' = MsgBox b 115 (.int .i16 v :: cells) ∧ RMp u F_JoinGroupRequest (imT F_JoinGroupRequest v (flexB 6 v) x) cells := by
  refine ct_enter Tryz.func42 rfl Tryz.ntmps42 rfl hok hav (by simp [Ent.blk]) ?_
  refine cd_sr ?_
  refine ln_pv (pv_assign rfl) rfl ?_
  refine ln_cd ?_
  refine cd_sr ?_
  refine ln_pv (pv_move rfl) rfl ?_
  refine ln_pv (pv_move rfl) rfl ?_
  refine ln_callT (i := 0) en_72 rfl rfl (fun u hu hok hav => read_JoinGroupRequest u b v x sv (RSv.mv hsv hu) hk h0 h1 hok hav) rfl ?_
  rintro u2 _ _ ht2 ⟨ux, ⟨rfl, cells, rfl, hM⟩, hx⟩
  refine ln_pv (pv_assign rfl) rfl ?_
  refine ln_cd ?_
  refine cd_ret ?_
  exact at_retT (i := 0) rfl rfl rfl (fun w hS => ⟨rfl, cells, rfl, (hM.mv hx).mv (hS.trFinT _ _)⟩)
set_option maxHeartbeats 2000000 in
theorem default_JoinGroupRequest (t : Vw) (v : Int) (x : Tre) (sv : Value) (hsv : RSv t sv (partB F_JoinGroupRequest v (flexB 6 v) x)) (hk : keysT x) (h0 : 0 ≤ v) (h1 : v ≤ 9) (hB : (partB F_JoinGroupRequest v (flexB 6 v) x).length ≤ 1099511627776) : CA Tryz.prog 20 [.int .i64 v, sv] t fun u r => ∃ (ds : List Value) (told : Tre), r = .tuple #[.agg ds.toArray, .bool true] ∧ RT u told ds ∧ smT told ∧ ∀ i, (hi : i < List.length F_JoinGroupRequest) → ¬ (F_JoinGroupRequest[i]'hi).dflt = 0 → (told.at_ i).n = numK (F_JoinGroupRequest[i]'hi).kind (F_JoinGroupRequest[i]'hi).dflt := by
  refine ca_enter Tryz.func20 rfl Tryz.ntmps20 rfl ?_
  refine cd_sr ?_
  refine ln_alloc (l := [_, _, _, _, _]) tiimpl_Tree rfl rfl (fun br => ?_)
  refine ln_pv (pv_assign rfl) rfl ?_
  refine ln_cd ?_
  refine cd_sr ?_
  refine ln_callH (E := []) (H0 := [_]) (List.Perm.refl _) en_38 rfl (fun u hu hok hav hnd => newp_JoinGroupRequest u hok hav hnd) rfl ?_
  rintro u1 _ _ ht1 ⟨_, ⟨b, rfl, rfl⟩, _⟩
  refine ln_pv (pv_assign rfl) rfl ?_
  refine ln_cd ?_
  refine cd_sr ?_
  refine ln_pv (pv_move rfl) rfl ?_
  refine ln_pv (pv_move rfl) rfl ?_
  refine ln_pv (pv_conv' Tryz.underlying3 Tryz.underlying49 rfl (r := v) (wrap_i16_in (by omega) (by omega))) rfl ?_
  refine ln_callT (i := 0) en_41 rfl rfl (fun u hu hok hav => setd_JoinGroupRequest u b v hok hav) rfl ?_
  rintro u2 _ _ ht2 ⟨_, rfl, _⟩
  refine ln_cd ?_
  have hsv := hsv.mv (ht1.trans ht2)
  refine cd_seq ?_
  refine cd_sr ?_
  refine ln_pv (pv_move rfl) rfl ?_
  refine ln_pv (pv_move rfl) rfl ?_
  refine ln_nilrow 5 1 ?_
  refine ln_append (i := 0) rfl Tryz.underlying22 tiuint8 rfl (by decide) rfl rfl (RS.src hsv) (by simp only [maxLen]; omega) (by omega) rfl (k' := (partB F_JoinGroupRequest v (flexB 6 v) x).length) (xs' := u8s (partB F_JoinGroupRequest v (flexB 6 v) x)) (by omega) (by simp) (fun va hva => ?_)
  refine ln_free1 (fun q h => h.elim) (fun s3 ht3 hK => ?_)
  have hs3 : RSv s3 va (partB F_JoinGroupRequest v (flexB 6 v) x) := Known.rs hK (u8s_one _)
  clear hK
  refine ln_callT (i := 0) en_42 rfl rfl (fun u hu hok hav => readf_JoinGroupRequest u b v x _ (RSv.mv hs3 hu) hk h0 h1 hok hav) rfl ?_
  rintro u4 _ _ ht4 ⟨ux4, ⟨rfl, cells, rfl, hM⟩, hx4⟩
  have hM := hM.mv hx4
  refine ln_pv (pv_neqI Tryz.underlying59 rfl) rfl ?_
  refine ln_cd ?_
  refine cd_ff rfl ?_
  refine cd_skip ?_
  refine at_cd ?_
  obtain ⟨fc1, mv1, hce1, hfl1, hTg1⟩ := hM
  simp only [F_JoinGroupRequest, RMl] at hfl1
  obtain ⟨x1_0, z1_0, e1_0, g1_0, x1_1, z1_1, e1_1, g1_1, x1_2, z1_2, e1_2, g1_2, x1_3, z1_3, e1_3, g1_3, x1_4, z1_4, e1_4, g1_4, x1_5, z1_5, e1_5, g1_5, x1_6, z1_6, e1_6, g1_6, x1_7, z1_7, e1_7, g1_7, hend1⟩ := hfl1
  obtain rfl := (RMf_str (by decide)).1 g1_0
  obtain rfl := RMf_i32.1 g1_1
  obtain rfl := RMf_i32.1 g1_2
  obtain rfl := (RMf_str (by decide)).1 g1_3
  obtain ⟨d1_4, rfl, Gg1_4⟩ := (RMf_txt (by decide)).1 g1_4
  obtain rfl := (RMf_str (by decide)).1 g1_5
  obtain ⟨_, rfl, Gg1_6⟩ := RMf_list.1 g1_6
  obtain ⟨ad1_6, cap1_6, rfl, hnil1_6, Hg1_6⟩ := Gg1_6.els
  obtain ⟨d1_7, rfl, Gg1_7⟩ := (RMf_txt (by decide)).1 g1_7
  subst hend1
  subst e1_7
  subst e1_6
  subst e1_5
  subst e1_4
  subst e1_3
  subst e1_2
  subst e1_1
  subst e1_0
  subst hce1
  refine cd_sr ?_
  refine ln_pv (pv_move rfl) rfl ?_
  refine ln_callT (i := 0) en_43 rfl rfl (fun u hu hok hav => df_JoinGroupRequest _ _ _ _ _ _ _ _ _ _ (fun w => .obj b (.cells w.toArray 115)) b 0 (Tgt.obj b 115 10) u hok hav) rfl ?_
  rintro u5 _ _ ht5 ⟨_, ⟨rfl, rfl⟩, _⟩
  refine ln_cd ?_
  have hM2 : RMp u4 F_JoinGroupRequest (.mk 0 [] false [(imT F_JoinGroupRequest v (flexB 6 v) x).at_ 0, (imT F_JoinGroupRequest v (flexB 6 v) x).at_ 1, dfF (.mk 3 1 (-1) (-1) (-1) (-1) 0 []), (imT F_JoinGroupRequest v (flexB 6 v) x).at_ 3, (imT F_JoinGroupRequest v (flexB 6 v) x).at_ 4, (imT F_JoinGroupRequest v (flexB 6 v) x).at_ 5, (imT F_JoinGroupRequest v (flexB 6 v) x).at_ 6, (imT F_JoinGroupRequest v (flexB 6 v) x).at_ 7] (imT F_JoinGroupRequest v (flexB 6 v) x).u) [.string ⟨((imT F_JoinGroupRequest v (flexB 6 v) x).at_ 0).s.toArray⟩, .int .i32 (IntKind.i32.wrap ((imT F_JoinGroupRequest v (flexB 6 v) x).at_ 1).n), .int .i32 (-1), .string ⟨((imT F_JoinGroupRequest v (flexB 6 v) x).at_ 3).s.toArray⟩, d1_4, .string ⟨((imT F_JoinGroupRequest v (flexB 6 v) x).at_ 5).s.toArray⟩, .slice ad1_6 (els ((imT F_JoinGroupRequest v (flexB 6 v) x).at_ 6)).length cap1_6, d1_7, mv1] := ⟨[.string ⟨((imT F_JoinGroupRequest v (flexB 6 v) x).at_ 0).s.toArray⟩, .int .i32 (IntKind.i32.wrap ((imT F_JoinGroupRequest v (flexB 6 v) x).at_ 1).n), .int .i32 (-1), .string ⟨((imT F_JoinGroupRequest v (flexB 6 v) x).at_ 3).s.toArray⟩, d1_4, .string ⟨((imT F_JoinGroupRequest v (flexB 6 v) x).at_ 5).s.toArray⟩, .slice ad1_6 (els ((imT F_JoinGroupRequest v (flexB 6 v) x).at_ 6)).length cap1_6, d1_7], mv1, rfl, by simp only [F_JoinGroupRequest, RMl]; exact ⟨[.string ⟨((imT F_JoinGroupRequest v (flexB 6 v) x).at_ 0).s.toArray⟩], _, rfl, g1_0, ⟨[.int .i32 (IntKind.i32.wrap ((imT F_JoinGroupRequest v (flexB 6 v) x).at_ 1).n)], _, rfl, g1_1, ⟨[.int .i32 (-1)], _, rfl, df_i32 _ (by decide), ⟨[.string ⟨((imT F_JoinGroupRequest v (flexB 6 v) x).at_ 3).s.toArray⟩], _, rfl, g1_3, ⟨[d1_4], _, rfl, g1_4, ⟨[.string ⟨((imT F_JoinGroupRequest v (flexB 6 v) x).at_ 5).s.toArray⟩], _, rfl, g1_5, ⟨[.slice ad1_6 (els ((imT F_JoinGroupRequest v (flexB 6 v) x).at_ 6)).length cap1_6], _, rfl, g1_6, ⟨[d1_7], _, rfl, g1_7, rfl⟩⟩⟩⟩⟩⟩⟩⟩, hTg1⟩
  have hM2 := hM2.mv ht5
  refine cd_free1 (fun q h => h.elim) (fun s9 hs9 hK => ?_)
  have hob : OB s9 b (.cells (.int .i16 v :: [.string ⟨((imT F_JoinGroupRequest v (flexB 6 v) x).at_ 0).s.toArray⟩, .int .i32 (IntKind.i32.wrap ((imT F_JoinGroupRequest v (flexB 6 v) x).at_ 1).n), .int .i32 (-1), .string ⟨((imT F_JoinGroupRequest v (flexB 6 v) x).at_ 3).s.toArray⟩, d1_4, .string ⟨((imT F_JoinGroupRequest v (flexB 6 v) x).at_ 5).s.toArray⟩, .slice ad1_6 (els ((imT F_JoinGroupRequest v (flexB 6 v) x).at_ 6)).length cap1_6, d1_7, mv1]).toArray 115) := hK
  clear hK
  have hM2 := hM2.mv hs9
  have htg := tgT_im F_JoinGroupRequest v (flexB 6 v) hk
  have htg2 : tgT F_JoinGroupRequest (.mk 0 [] false [(imT F_JoinGroupRequest v (flexB 6 v) x).at_ 0, (imT F_JoinGroupRequest v (flexB 6 v) x).at_ 1, dfF (.mk 3 1 (-1) (-1) (-1) (-1) 0 []), (imT F_JoinGroupRequest v (flexB 6 v) x).at_ 3, (imT F_JoinGroupRequest v (flexB 6 v) x).at_ 4, (imT F_JoinGroupRequest v (flexB 6 v) x).at_ 5, (imT F_JoinGroupRequest v (flexB 6 v) x).at_ 6, (imT F_JoinGroupRequest v (flexB 6 v) x).at_ 7] (imT F_JoinGroupRequest v (flexB 6 v) x).u) := ⟨htg.1, by
    have h := htg.2
    simp only [F_JoinGroupRequest, tgL] at h ⊢
    obtain ⟨q0, q1, q2, q3, q4, q5, q6, q7, _⟩ := h
    exact ⟨q0, q1, tgF_df _, q3, q4, q5, q6, q7, trivial⟩⟩
  refine cd_sr ?_
  refine ln_pv (pv_move rfl) rfl ?_
  refine ln_callA en_44 rfl (fun u hu => tell_JoinGroupRequest u b v (.mk 0 [] false [(imT F_JoinGroupRequest v (flexB 6 v) x).at_ 0, (imT F_JoinGroupRequest v (flexB 6 v) x).at_ 1, dfF (.mk 3 1 (-1) (-1) (-1) (-1) 0 []), (imT F_JoinGroupRequest v (flexB 6 v) x).at_ 3, (imT F_JoinGroupRequest v (flexB 6 v) x).at_ 4, (imT F_JoinGroupRequest v (flexB 6 v) x).at_ 5, (imT F_JoinGroupRequest v (flexB 6 v) x).at_ 6, (imT F_JoinGroupRequest v (flexB 6 v) x).at_ 7] (imT F_JoinGroupRequest v (flexB 6 v) x).u) [.string ⟨((imT F_JoinGroupRequest v (flexB 6 v) x).at_ 0).s.toArray⟩, .int .i32 (IntKind.i32.wrap ((imT F_JoinGroupRequest v (flexB 6 v) x).at_ 1).n), .int .i32 (-1), .string ⟨((imT F_JoinGroupRequest v (flexB 6 v) x).at_ 3).s.toArray⟩, d1_4, .string ⟨((imT F_JoinGroupRequest v (flexB 6 v) x).at_ 5).s.toArray⟩, .slice ad1_6 (els ((imT F_JoinGroupRequest v (flexB 6 v) x).at_ 6)).length cap1_6, d1_7, mv1] (hob.mv hu).rc (hM2.mv hu) htg2) rfl (fun u7 v7 ht7 hR7 => ?_)
  obtain ⟨ds, rfl, hds⟩ := hR7
  refine ln_storeW (i := 0) rfl rfl rfl rfl tiimpl_Tree.size hds.len hds.cells ?_
  refine ln_pv (pv_assign rfl) rfl ?_
  refine ln_cd ?_
  refine cd_ret ?_
  refine at_retCA2 (i := 0) rfl rfl rfl rfl Tryz.underlying42 rfl tiimpl_Tree.size hds.len (fun w hS => ⟨ds, _, rfl, hds.mv hS.trFin, smT_tlT ok_F_JoinGroupRequest.1 (by decide) htg2, fun i hi hd => ?_⟩)
  have hi : i < 8 := hi
  match i, hi with
  | 0, _ => first | exact absurd rfl hd | rfl | (simp [numK, Tre.at_, dfF, Tre.n]; done)
  | 1, _ => first | exact absurd rfl hd | rfl | (simp [numK, Tre.at_, dfF, Tre.n]; done)
  | 2, _ => first | exact absurd rfl hd | rfl | (simp [numK, Tre.at_, dfF, Tre.n]; done)
  | 3, _ => first | exact absurd rfl hd | rfl | (simp [numK, Tre.at_, dfF, Tre.n]; done)
  | 4, _ => first | exact absurd rfl hd | rfl | (simp [numK, Tre.at_, dfF, Tre.n]; done)
  | 5, _ => first | exact absurd rfl hd | rfl | (simp [numK, Tre.at_, dfF, Tre.n]; done)
  | 6, _ => first | exact absurd rfl hd | rfl | (simp [numK, Tre.at_, dfF, Tre.n]; done)
  | 7, _ => first | exact absurd rfl hd | rfl | (simp [numK, Tre.at_, dfF, Tre.n]; done)
theorem law_JoinGroupRequest (t : Vw) (n : Nat) (x : Tre) (cs : List Value) (hn8 : n < 256) (hx : RT t x cs) (hkx : keysT x) (hsm : smT x) (hB : (writeB F_JoinGroupRequest 6 ((versionN n 9 : Nat) : Int) x).length < 1099511627776) : CS Tryz.prog 5 [.int .u8 (n : Int), .agg cs.toArray] t (.bool true) := by
  obtain ⟨sS, sL, sU, rfl, hn, hS, ⟨lc, hL, hLs⟩, hU⟩ := hx.open
  obtain ⟨adS, cS, rfl, hleS⟩ := hS.shape
  obtain ⟨adL, cL, rfl, hleL⟩ := hL.shape
  have hU0 := hU
  obtain ⟨uc, hU1, hUs⟩ := hU0
  obtain ⟨hz1, hz2, hz3, hz4⟩ := hsm.open
  have hok := ok_F_JoinGroupRequest
  have hId : ∀ g ∈ F_JoinGroupRequest, I64 g.dflt := by unfold I64; decide
  have hvn : versionN n 9 ≤ 9 := by have := Nat.mod_lt n (show 0 < 9 + 1 by omega); unfold versionN; omega
  refine CA.cs ?_
  refine ca_enter Tryz.func5 rfl Tryz.ntmps5 rfl ?_
  cases hft : fits1 x with
  | false =>
    refine cd_sr ?_
    refine ln_box rfl rfl rfl (fun b1 => ?_)
    refine ln_pv (pv_assign rfl) rfl ?_
    refine ln_cd ?_
    refine cd_seq ?_
    refine cd_sr ?_
    refine ln_pv (pv_ldO (i := 0) rfl Tryz.underlying26 rfl (tispec_Tree).size rfl rfl) rfl ?_
    refine ln_callS en_6 rfl (fun u hu => by have h := laws_zzFits1 u x _ (RT.mv hx hu) (by omega); rwa [hft] at h) rfl ?_
    refine ln_pv (pv_not rfl) rfl ?_
    refine ln_cd ?_
    refine cd_tt rfl ?_
    refine cd_sr ?_
    refine ln_pv (pv_assign rfl) rfl ?_
    refine ln_cd ?_
    refine cd_ret ?_
    refine at_retA rfl rfl (fun w hS => ?_)
    rfl
  | true =>
    refine cd_sr ?_
    refine ln_box rfl rfl rfl (fun b1 => ?_)
    refine ln_pv (pv_assign rfl) rfl ?_
    refine ln_cd ?_
    refine cd_seq ?_
    refine cd_sr ?_
    refine ln_pv (pv_ldO (i := 0) rfl Tryz.underlying26 rfl (tispec_Tree).size rfl rfl) rfl ?_
    refine ln_callS en_6 rfl (fun u hu => by have h := laws_zzFits1 u x _ (RT.mv hx hu) (by omega); rwa [hft] at h) rfl ?_
    refine ln_pv (pv_not rfl) rfl ?_
    refine ln_cd ?_
    refine cd_ff rfl ?_
    refine cd_skip ?_
    refine at_cd ?_
    refine cd_sr ?_
    refine ln_callS en_18 rfl (fun u hu => max_JoinGroupRequest u) rfl ?_
    refine ln_pv (pv_assign rfl) rfl ?_
    refine ln_cd ?_
    refine cd_seq ?_
    refine cd_sr ?_
    refine ln_pv (pv_move rfl) rfl ?_
    refine ln_pv (pv_ff (pv_lss rfl rfl) (by omega)) rfl ?_
    refine ln_cd ?_
    refine cd_ff rfl ?_
    refine cd_skip ?_
    refine at_cd ?_
    refine cd_sr ?_
    refine ln_callA en_19 rfl (fun u hu => sch_F_JoinGroupRequest u) rfl (fun u1 v1 ht1 hR1 => ?_)
    have hx := hx.mv ht1
    obtain ⟨sv, lcm, rfl, hVm, hFm⟩ := hR1
    refine ln_pv (pv_move rfl) rfl ?_
    refine ln_pv (pv_move rfl) rfl ?_
    refine ln_callS en_9 rfl (fun u hu => laws_version u n 9 hn8 (by omega)) rfl ?_
    refine ln_alloc tispec_Message rfl rfl (fun b2 => ?_)
    refine ln_storeW (i := 0) rfl rfl rfl rfl (tispec_Message).size rfl (by simp [(RS.one hVm)]) ?_
    refine ln_pv (pv_assign rfl) rfl ?_
    refine ln_cd ?_
    refine cd_sr ?_
    refine ln_pv (pv_move rfl) rfl ?_
    refine ln_pv (pv_ldO (i := 0) rfl Tryz.underlying31 rfl (tispec_Message).size rfl rfl) rfl ?_
    refine ln_pv (pv_move rfl) rfl ?_
    refine ln_pv (pv_ldO (i := 1) rfl Tryz.underlying26 rfl (tispec_Tree).size rfl rfl) rfl ?_
    refine ln_callA en_10 rfl (fun u hu => spec_Write F_JoinGroupRequest 6 hok.1 hok.2.2 u _ _ _ ((versionN n 9 : Nat) : Int) x (RS.mv hVm hu) (RFs.mv hFm hu) (RT.mv hx hu) hsm hB) rfl (fun u2 v2 ht2 hR2 => ?_)
    have hx := hx.mv ht2
    have hVm := hVm.mv ht2
    have hFm := hFm.mv ht2
    refine ln_callA en_20 rfl (fun u hu => default_JoinGroupRequest u ((versionN n 9 : Nat) : Int) x _ (RSv.mv hR2 hu) hkx (by omega) (by omega) (by rw [show partB F_JoinGroupRequest ((versionN n 9 : Nat) : Int) (flexB 6 ((versionN n 9 : Nat) : Int)) x = writeB F_JoinGroupRequest 6 ((versionN n 9 : Nat) : Int) x from rfl]; omega)) rfl (fun u3 v3 ht3 hR3 => ?_)
    have hx := hx.mv ht3
    have hVm := hVm.mv ht3
    have hFm := hFm.mv ht3
    have hR2 := hR2.mv ht3
    obtain ⟨ds, told, rfl, hT, hsmT, hDt⟩ := hR3
    refine ln_pv (pv_move rfl) rfl ?_
    refine ln_pv (pv_extract rfl rfl) rfl ?_
    refine ln_pv (pv_extract rfl rfl) rfl ?_
    refine ln_alloc tiimpl_Tree rfl rfl (fun b3 => ?_)
    refine ln_storeW (i := 0) rfl rfl rfl rfl (tiimpl_Tree).size hT.len hT.cells ?_
    refine ln_pv (pv_assign rfl) rfl ?_
    refine ln_cd ?_
    refine cd_dr' [0, 1, 2] [1, 2, 3, 4, 7, 8] [0, 1, 2, 3, 4, 5, 6, 7, 8] mixed (by kernel_rfl) ?_
    refine lo_eff rfl rfl ?_
    refine ln_pv (pv_move rfl) rfl ?_
    refine lo_back (sk_js (Tr.refl _) [0, 1, 2] rfl) ?_
    refine lo_pv rfl rfl (sk_js (Tr.refl _) [0, 1, 2] rfl) (pv_move rfl) rfl ?_
    refine lo_gt rfl rfl (sk_js (Tr.refl _) [0, 1, 2] rfl) rfl rfl rfl (pv_fieldAddr (off := 0) (r := 0) Tryz.underlying31 rfl (tiSl_spec_Field).size rfl rfl rfl) rfl ?_
    refine lo_gt rfl rfl (sk_js (Tr.refl _) [0, 1, 2] rfl) rfl rfl rfl (pv_ldo (i := 1) rfl Tryz.underlying29 rfl rfl rfl) rfl ?_
    refine lo_gt rfl rfl (sk_js (Tr.refl _) [0, 1, 2] rfl) rfl rfl rfl (pv_ldO (i := 0) rfl Tryz.underlying42 rfl (tiimpl_Tree).size rfl hT.len) rfl ?_
    refine lo_eff rfl rfl ?_
    refine ln_gE rfl rfl rfl ?_
    refine ln_callA en_17 rfl (fun u hu => laws_got told u _ (RT.mv hT hu) hsmT) rfl (fun u4 v4 ht4 hR4 => ?_)
    have hx := hx.mv ht4
    have hVm := hVm.mv ht4
    have hFm := hFm.mv ht4
    have hR2 := hR2.mv ht4
    have hT := hT.mv ht4
    obtain ⟨dg, rfl, hG⟩ := hR4
    refine lo_back (sk_js ht4 [0, 1, 2] rfl) ?_
    refine lo_eff rfl rfl ?_
    refine ln_gE rfl rfl rfl ?_
    refine ln_callS en_16 rfl (fun u hu => spec_Defaults F_JoinGroupRequest hId (by decide) u _ _ _ told (RS.mv hVm hu) (RFs.mv hFm hu) (RT.mv hG hu) hDt) rfl ?_
    refine lo_back (sk_js ht4 [0, 1, 2] rfl) ?_
    refine lo_pv rfl rfl (sk_js ht4 [0, 1, 2] rfl) (pv_pick rfl (fun _ => rfl) (fun _ => rfl)) rfl ?_
    refine lo_pv rfl rfl (sk_js ht4 [0, 1, 2] rfl) (pv_assign rfl) rfl ?_
    refine lo_cd ?_
    refine cd_ret ?_
    refine at_retA rfl rfl (fun w hS => ?_)
    rfl
theorem fn_JoinGroupRequest (t : Vw) (n : Nat) (x : Tre) (cs : List Value) (hn : n < 256) (hx : RT t x cs) (hw : wt x ≤ 1048576) : CS Tryz.prog 5 [.int .u8 (n : Int), .agg cs.toArray] t (.bool true) := by
  have hok := ok_F_JoinGroupRequest
  exact law_JoinGroupRequest t n x cs hn hx hx.keys (smT_wt x (by omega)) (writeB_len _ _ _ x hok.1 hx.keys hw (of_decide_eq_true (by kernel_rfl)))
end K
end Go.Proofs.YtpphedmelbfnmaaGreatDoor
