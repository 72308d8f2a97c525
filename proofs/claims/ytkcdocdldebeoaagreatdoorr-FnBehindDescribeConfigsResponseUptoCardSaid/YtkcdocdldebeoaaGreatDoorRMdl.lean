import Derived.Test.YtkcdocdldebeoaaGreatDoorRVa
import Derived.Test.YtkcdocdldebeoaaGreatDoorRMdp
import Derived.Test.YtkcdocdldebeoaaGreatDoorRP4
import Derived.Test.YtkcdocdldebeoaaGreatDoorRS10
set_option linter.unusedVariables false
set_option linter.unusedSimpArgs false
namespace Go.Proofs.YtkcdocdldebeoaaGreatDoorR
namespace K
open Go Go.Lib
theorem df_DescribeConfigsResponse (z0 z1 z2 z3 : Value) : DfC 143 [z0, z1, z2, z3] [z0, z1, z2, z3] := by
  intro mk b o hT t hok hav
  refine ct_enter Tryz.func143 rfl Tryz.ntmps143 rfl hok hav (by rw [hT.blk]; simp) ?_
  refine cd_skip ?_
  exact at_retT0 (i := 0) rfl rfl (fun w hS => ⟨rfl, rfl⟩)
theorem df_DescribeConfigsResponseResource (z0 z1 z2 z3 z4 z5 : Value) : DfC 205 [z0, z1, z2, z3, z4, z5] [z0, z1, z2, z3, z4, z5] := by
  intro mk b o hT t hok hav
  refine ct_enter Tryz.func205 rfl Tryz.ntmps205 rfl hok hav (by rw [hT.blk]; simp) ?_
  refine cd_skip ?_
  exact at_retT0 (i := 0) rfl rfl (fun w hS => ⟨rfl, rfl⟩)
theorem df_DescribeConfigsResponseResourceConfig (z0 z1 z2 z3 z4 z5 z6 z7 z8 z9 : Value) : DfC 206 [z0, z1, z2, z3, z4, z5, z6, z7, z8, z9] [z0, z1, z2, z3, .int .i8 (-1), z5, z6, z7, z8, z9] := by
  intro mk b o hT t hok hav
  refine ct_enter Tryz.func206 rfl Tryz.ntmps206 rfl hok hav (by rw [hT.blk]; simp) ?_
  refine cd_region ?_
  refine ln_pv (pv_move rfl) rfl ?_
  refine ln_pv (pv_nilCheck rfl) rfl ?_
  refine ln_pv (pv_fieldAddr (off := 4) Tryz.underlying192 rfl tipub_kmsg_ConfigSource.size rfl rfl rfl) rfl ?_
  refine ln_storeG1 (i := 0) (off := 4) (v := .int .i8 (-1)) hT rfl rfl rfl rfl rfl tipub_kmsg_ConfigSource.size (Nat.le_of_ble_eq_true rfl) ?_
  refine ln_nil ?_
  exact at_retT0 (i := 0) rfl rfl (fun w hS => ⟨rfl, rfl⟩)
theorem df_DescribeConfigsResponseResourceConfigConfigSynonym (z0 z1 z2 z3 : Value) : DfC 208 [z0, z1, z2, z3] [z0, z1, z2, z3] := by
  intro mk b o hT t hok hav
  refine ct_enter Tryz.func208 rfl Tryz.ntmps208 rfl hok hav (by rw [hT.blk]; simp) ?_
  refine cd_skip ?_
  exact at_retT0 (i := 0) rfl rfl (fun w hS => ⟨rfl, rfl⟩)
theorem read_DescribeConfigsResponse (t : Vw) (b : Nat) (v : Int) (x : Tre) (sv : Value) (hsv : RSv t sv (partB F_DescribeConfigsResponse v (flexB 4 v) x)) (hk : keysT x) (h0 : 0 ≤ v) (h1 : v ≤ 4) (hok : (MsgBox b 181 (.int .i16 v :: ([.int .i32 0, .slice none 0 0, .map none] : List Value))).ok t.w) (hav : ∀ q ∈ (MsgBox b 181 (.int .i16 v :: ([.int .i32 0, .slice none 0 0, .map none] : List Value))).blk, t.av q) : CT Tryz.prog 145 [.pointer (some ⟨b, 0, none⟩), sv, .bool false] t (MsgBox b 181 (.int .i16 v :: ([.int .i32 0, .slice none 0 0, .map none] : List Value))) fun u r e' => r = .nilIface ∧ ∃ cells, e' = MsgBox b 181 (.int .i16 v :: cells) ∧ RMp u F_DescribeConfigsResponse (imT F_DescribeConfigsResponse v (flexB 4 v) x) cells := by
  have hv0 := h0
  have hnt : ntFs F_DescribeConfigsResponse = true := by kernel_rfl
  generalize hqd : flexB 4 v = q at *
  have hq0 : decide (v ≥ 4) = q := by rw [← hqd]; simp [flexB]
  obtain ⟨adS, cS, rfl, hcS⟩ := RSv.shape hsv
  refine ct_enter Tryz.func145 rfl Tryz.ntmps145 rfl hok hav (by simp [Ent.blk]) ?_
  refine cd_sq ?_
  refine rg_const rfl ?_
  refine at_cd ?_
  refine cd_sr ?_
  refine ln_pv (pv_move rfl) rfl ?_
  refine ln_callT (i := 0) (vals := [.pointer (some ⟨b, 0, none⟩)]) en_143 rfl rfl (fun u hu hok hav => df_DescribeConfigsResponse _ _ _ _ (fun w => .obj b (.cells w.toArray 181)) b 0 (Tgt.obj b 181 4) u hok hav) rfl ?_
  rintro u1 _ _ ht1 ⟨ux1, ⟨rfl, rfl⟩, hx1⟩
  refine ln_cd ?_
  refine cd_sr ?_
  refine ln_pv (pv_move rfl) rfl ?_
  refine ln_pv (pv_struct [(0, 1), (1, 1)] (l := [_, _]) rfl Tryz.underlying206 tipub_kmsg_inner_kbin_Reader (by kernel_rfl) rfl rfl) rfl ?_
  refine ln_alloc (l := [.slice none 0 0, .bool false]) tipub_kmsg_inner_kbin_Reader rfl rfl (fun br => ?_)
  refine ln_storeW (i := 0) (vs := [_, .bool false]) rfl rfl rfl rfl tipub_kmsg_inner_kbin_Reader.size rfl (by simp) ?_
  refine ln_cd ?_
  refine cd_sr ?_
  refine ln_pv (pv_move rfl) rfl ?_
  refine ln_pv (pv_nilCheck rfl) rfl ?_
  refine ln_pv (pv_fieldAddr (off := 0) (r := 0) Tryz.underlying181 rfl tiint16.size rfl rfl rfl) rfl ?_
  refine ln_pv (pv_ldo (i := 1) (v := .int .i16 v) rfl Tryz.underlying49 rfl rfl rfl) rfl ?_
  refine ln_pv (pv_assign rfl) rfl ?_
  refine ln_cd ?_
  refine cd_sq ?_
  refine rg_blank rfl rfl ?_
  refine at_cd ?_
  refine cd_sr ?_
  refine ln_pv (pv_move rfl) rfl ?_
  refine ln_pv (pv_geq rfl rfl) rfl ?_
  refine ln_pv (pv_assign rfl) rfl ?_
  rw [hq0]
  refine ln_cd ?_
  refine cd_sq ?_
  refine rg_blank rfl rfl ?_
  refine at_cd ?_
  refine cd_sr ?_
  refine ln_pv (pv_move rfl) rfl ?_
  refine ln_pv (pv_assign rfl) rfl ?_
  refine ln_cd ?_
  refine cd_sub_ (L' := [(10, .pointer (some ⟨b, 0, none⟩)), (9, .bool q), (8, .int .i16 v), (7, .pointer (some ⟨br, 0, none⟩)), (2, .bool false)]) (.put rfl (.put rfl (.put rfl (.put rfl (.put rfl .nil))))) ?_
  obtain ⟨mk, hmk⟩ : ∃ mk : List Value → Ent, mk = fun w => MsgBox b 181 (.int .i16 v :: w) := ⟨_, rfl⟩
  have hT : Tgt mk b 1 3 := by rw [hmk]; exact Tgt.behind b 181 _ 3
  refine cd_eqH (H' := [RdE br _, mk ([] ++ ([.int .i32 0, .slice none 0 0, .map none] : List Value))]) (by rw [hmk]; rfl) ?_
  have hR : Rs u1 [.mk 3 0 (-1) (-1) (-1) 0 0 [], .mk 11 0 (-1) (-1) (-1) 0 10 F_sDescribeConfigsResponseResource] [] v q x (imT F_DescribeConfigsResponse v q x) (tgsB q x ++ []) _ [] := Rs.start (F := F_DescribeConfigsResponse) (RSv.part hnt (by rw [List.append_nil]; exact RSv.mv hsv ht1)) hnt
  refine cd_sq ?_
  refine st_num (z := .int .i32 0) hR (hasB_all hv0) rfl en_153 (Fc.num (by decide) (by decide) (by decide) (fun null => sc_i32 null _ _)) rfl hT rfl Tryz.underlying181 rfl tiint32.size rfl (po_eq (show 1 = 1 + fszs _ by kernel_rfl)) tiint32.size rfl rfl (fun u1 v1 done1 ht1 hR => ?_)
  refine at_cd ?_
  refine cd_sq ?_
  refine st_list (zc := ([.int .i16 0, .pointer none, .int .i8 0, .string .empty, .slice none 0 0, .map none] : List Value)) hR (hasB_all hv0) (by decide) rfl rfl rfl hT rfl Tryz.underlying181 rfl tiSl_kmsg_DescribeConfigsResponseResource.size rfl (po_eq (show 2 = 1 + fszs _ by kernel_rfl)) tiSl_kmsg_DescribeConfigsResponseResource.size Tryz.underlying179 Tryz.underlying21 tipub_kmsg_DescribeConfigsResponseResource rfl rfl (by kernel_rfl) (by decide) (by decide) (fun q hq => .inl (by simpa [Ent.blk] using hq)) (fun z => part_pos (plain_pos (by decide) (by decide) (by decide) (hasB_all hv0))) rfl rfl rfl rfl rfl rfl rfl rfl rfl rfl rfl rfl rfl (keysT.at_ hk _) (fun gb2 cap2 m2 i2 x2 u2 v2 xs2 rest2 N2 X2 hi2 hm2 hk2 ht2 hxl2 hv2 kb2 => ?_) (fun uu2 vv2 done2 hh2 hR => ?_)
  · skip
    have hnt2 : ntFs F_sDescribeConfigsResponseResource = true := by kernel_rfl
    have hvp2 := RSv.el hnt2 hv2
    refine cd_sq ?_
    refine rg_ix rfl rfl hi2 Tryz.underlying179 tipub_kmsg_DescribeConfigsResponseResource.size rfl ?_
    refine at_cd ?_
    obtain ⟨mk2, hmk2⟩ : ∃ mk : List Value → Ent, mk = fun w => .row (.slice (some ⟨gb2, 0, none⟩) m2 cap2) 186 6 m2 (xs2 ++ (w ++ (List.replicate (m2 - (i2 + 1)) ([.int .i16 0, .pointer none, .int .i8 0, .string .empty, .slice none 0 0, .map none] : List Value)).flatten)) := ⟨_, rfl⟩
    have hT2 : Tgt mk2 gb2 (0 + i2 * 6) 6 := by rw [hmk2]; exact (Tgt.row gb2 cap2 m2 6 186).mid _ _ _ _ (list_fits hi2 hxl2 rfl) (by rw [hxl2])
    refine cd_eqH (H' := RdE _ v2 :: mk2 ([.int .i16 0, .pointer none, .int .i8 0, .string .empty, .slice none 0 0, .map none] : List Value) :: _) (by rw [hmk2]) ?_
    refine cd_sq ?_
    refine rg_dflt (z2 := ([.int .i16 0, .pointer none, .int .i8 0, .string .empty, .slice none 0 0, .map none] : List Value)) rfl en_205 (df_DescribeConfigsResponseResource _ _ _ _ _ _) hT2 rfl (fun u3 ht3 => ?_)
    refine at_cd ?_
    refine cd_sq ?_
    refine rg_move rfl rfl ?_
    refine at_cd ?_
    have hR : Rs u3 [.mk 2 0 (-1) (-1) (-1) 0 0 [], .mk 8 0 (-1) 0 (-1) 0 0 [], .mk 1 0 (-1) (-1) (-1) 0 0 [], .mk 8 0 (-1) (-1) (-1) 0 0 [], .mk 11 0 (-1) (-1) (-1) 0 10 F_sDescribeConfigsResponseResourceConfig] [] _ q x2 (.mk 0 [] false (imL F_sDescribeConfigsResponseResource _ q x2 0) (imU F_sDescribeConfigsResponseResource q x2.u)) (tgsB q x2 ++ rest2) v2 [] := Rs.start (F := F_sDescribeConfigsResponseResource) (RSv.mv hvp2 ht3) hnt2
    refine cd_eqH (H' := RdE _ v2 :: mk2 ([] ++ ([.int .i16 0, .pointer none, .int .i8 0, .string .empty, .slice none 0 0, .map none] : List Value)) :: _) rfl ?_
    refine cd_sq ?_
    refine st_num (z := .int .i16 0) hR (hasB_all hv0) rfl en_154 (Fc.num (by decide) (by decide) (by decide) (fun null => sc_i16 null _ _)) rfl hT2 rfl Tryz.underlying186 rfl tiint16.size rfl (po_eq (show 0 = 0 + fszs _ by kernel_rfl)) tiint16.size rfl rfl (fun u4 v4 done4 ht4 hR => ?_)
    refine at_cd ?_
    refine cd_sq ?_
    refine cd_sq ?_
    refine rg_const rfl ?_
    refine at_cd ?_
    refine st_txt (z := .pointer none) hR (hasB_all hv0) rfl rfl rfl en_170 en_172 (fun h => fc_ctxt (by decide) h) (fun h => fc_txt (by decide) h) rfl hT2 rfl Tryz.underlying186 rfl tiPt_string.size rfl (po_eq (show 1 = 0 + fszs _ by kernel_rfl)) tiPt_string.size rfl rfl rfl rfl rfl rfl (fun u5 v5 done5 ht5 hR => ?_)
    refine at_cd ?_
    refine cd_sq ?_
    refine cd_sq ?_
    refine rg_const rfl ?_
    refine at_cd ?_
    refine st_enum (z := .int .i8 0) hR (hasB_all hv0) rfl en_203 (Fc.num (by decide) (by decide) (by decide) (fun null => sc_i8 null _ _)) rfl hT2 rfl Tryz.underlying186 rfl tipub_kmsg_ConfigResourceType.size rfl (po_eq (show 2 = 0 + fszs _ by kernel_rfl)) tipub_kmsg_ConfigResourceType.size rfl rfl (fun u6 v6 done6 ht6 hR => ?_)
    refine at_cd ?_
    refine cd_sq ?_
    refine cd_sq ?_
    refine rg_const rfl ?_
    refine at_cd ?_
    refine st_str (z := .string .empty) hR (hasB_all hv0) rfl rfl rfl en_160 en_161 (fun h => Fc.of (by decide) (by decide) (by decide) (sc_cstr _ h _)) (fun h => Fc.of (by decide) (by decide) (by decide) (sc_str _ h _)) rfl hT2 rfl Tryz.underlying186 rfl tistring.size rfl (po_eq (show 3 = 0 + fszs _ by kernel_rfl)) tistring.size rfl rfl rfl rfl rfl (fun u7 v7 done7 ht7 hR => ?_)
    refine at_cd ?_
    refine cd_sq ?_
    refine st_list (zc := ([.string .empty, .pointer none, .bool false, .bool false, .int .i8 0, .bool false, .slice none 0 0, .int .i8 0, .pointer none, .map none] : List Value)) hR (hasB_all hv0) (by decide) rfl rfl rfl hT2 rfl Tryz.underlying186 rfl tiSl_kmsg_DescribeConfigsResponseResourceConfig.size rfl (po_eq (show 4 = 0 + fszs _ by kernel_rfl)) tiSl_kmsg_DescribeConfigsResponseResourceConfig.size Tryz.underlying184 Tryz.underlying21 tipub_kmsg_DescribeConfigsResponseResourceConfig rfl rfl (by kernel_rfl) (by decide) (by decide) (fun q hq => .inr (hO_push hT (fun q hq => .inl (by simpa [Ent.blk] using hq)) _ q hq)) (fun z => part_pos (plain_pos (by decide) (by decide) (by decide) (hasB_all hv0))) rfl rfl rfl rfl rfl rfl rfl rfl rfl rfl rfl rfl rfl (keysT.at_ hk2 _) (fun gb8 cap8 m8 i8 x8 u8 v8 xs8 rest8 N8 X8 hi8 hm8 hk8 ht8 hxl8 hv8 kb8 => ?_) (fun uu8 vv8 done8 hh8 hR => ?_)
    · skip
      have hnt8 : ntFs F_sDescribeConfigsResponseResourceConfig = true := by kernel_rfl
      have hvp8 := RSv.el hnt8 hv8
      refine cd_sq ?_
      refine rg_ix rfl rfl hi8 Tryz.underlying184 tipub_kmsg_DescribeConfigsResponseResourceConfig.size rfl ?_
      refine at_cd ?_
      obtain ⟨mk8, hmk8⟩ : ∃ mk : List Value → Ent, mk = fun w => .row (.slice (some ⟨gb8, 0, none⟩) m8 cap8) 192 10 m8 (xs8 ++ (w ++ (List.replicate (m8 - (i8 + 1)) ([.string .empty, .pointer none, .bool false, .bool false, .int .i8 0, .bool false, .slice none 0 0, .int .i8 0, .pointer none, .map none] : List Value)).flatten)) := ⟨_, rfl⟩
      have hT8 : Tgt mk8 gb8 (0 + i8 * 10) 10 := by rw [hmk8]; exact (Tgt.row gb8 cap8 m8 10 192).mid _ _ _ _ (list_fits hi8 hxl8 rfl) (by rw [hxl8])
      refine cd_eqH (H' := RdE _ v8 :: mk8 ([.string .empty, .pointer none, .bool false, .bool false, .int .i8 0, .bool false, .slice none 0 0, .int .i8 0, .pointer none, .map none] : List Value) :: _) (by rw [hmk8]) ?_
      refine cd_sq ?_
      refine rg_dflt (z2 := ([.string .empty, .pointer none, .bool false, .bool false, .int .i8 (-1), .bool false, .slice none 0 0, .int .i8 0, .pointer none, .map none] : List Value)) rfl en_206 (df_DescribeConfigsResponseResourceConfig _ _ _ _ _ _ _ _ _ _) hT8 rfl (fun u9 ht9 => ?_)
      refine at_cd ?_
      refine cd_sq ?_
      refine rg_move rfl rfl ?_
      refine at_cd ?_
      have hR : Rs u9 [.mk 8 0 (-1) (-1) (-1) 0 0 [], .mk 8 0 (-1) 0 (-1) 0 0 [], .mk 0 0 (-1) (-1) (-1) 0 0 [], .mk 0 0 0 (-1) (-1) 0 0 [], .mk 1 1 (-1) (-1) (-1) (-1) 0 [], .mk 0 0 (-1) (-1) (-1) 0 0 [], .mk 11 1 (-1) (-1) (-1) 0 10 F_sDescribeConfigsResponseResourceConfigConfigSynonym, .mk 1 3 (-1) (-1) (-1) 0 0 [], .mk 8 3 (-1) 3 (-1) 0 0 []] [] _ q x8 (.mk 0 [] false (imL F_sDescribeConfigsResponseResourceConfig _ q x8 0) (imU F_sDescribeConfigsResponseResourceConfig q x8.u)) (tgsB q x8 ++ rest8) v8 [] := Rs.start (F := F_sDescribeConfigsResponseResourceConfig) (RSv.mv hvp8 ht9) hnt8
      refine cd_eqH (H' := RdE _ v8 :: mk8 ([] ++ ([.string .empty, .pointer none, .bool false, .bool false, .int .i8 (-1), .bool false, .slice none 0 0, .int .i8 0, .pointer none, .map none] : List Value)) :: _) rfl ?_
      refine cd_sq ?_
      refine cd_sq ?_
      refine rg_const rfl ?_
      refine at_cd ?_
      refine st_str (z := .string .empty) hR (hasB_all hv0) rfl rfl rfl en_160 en_161 (fun h => Fc.of (by decide) (by decide) (by decide) (sc_cstr _ h _)) (fun h => Fc.of (by decide) (by decide) (by decide) (sc_str _ h _)) rfl hT8 rfl Tryz.underlying192 rfl tistring.size rfl (po_eq (show 0 = 0 + fszs _ by kernel_rfl)) tistring.size rfl rfl rfl rfl rfl (fun u10 v10 done10 ht10 hR => ?_)
      refine at_cd ?_
      refine cd_sq ?_
      refine cd_sq ?_
      refine rg_const rfl ?_
      refine at_cd ?_
      refine st_txt (z := .pointer none) hR (hasB_all hv0) rfl rfl rfl en_170 en_172 (fun h => fc_ctxt (by decide) h) (fun h => fc_txt (by decide) h) rfl hT8 rfl Tryz.underlying192 rfl tiPt_string.size rfl (po_eq (show 1 = 0 + fszs _ by kernel_rfl)) tiPt_string.size rfl rfl rfl rfl rfl rfl (fun u11 v11 done11 ht11 hR => ?_)
      refine at_cd ?_
      refine cd_sq ?_
      refine st_num (z := .bool false) hR (hasB_all hv0) rfl en_207 (Fc.num (by decide) (by decide) (by decide) (fun null => sc_b null _ _)) rfl hT8 rfl Tryz.underlying192 rfl tibool.size rfl (po_eq (show 2 = 0 + fszs _ by kernel_rfl)) tibool.size rfl rfl (fun u12 v12 done12 ht12 hR => ?_)
      refine at_cd ?_
      refine cd_sq ?_
      refine st_if2 (zc := ([.bool false] : List Value)) (zs := ([.int .i8 (-1), .bool false, .slice none 0 0, .int .i8 0, .pointer none, .map none] : List Value)) rfl rfl hR (hasB_to (by decide)) (fun u => df_b u rfl) rfl (fun u13 v13 done13 ht13 hR => ?_) (fun hh kk => ?_)
      rotate_left
      · skip
        exact st_num (z := .bool false) hR hh rfl en_207 (Fc.num (by decide) (by decide) (by decide) (fun null => sc_b null _ _)) rfl hT8 rfl Tryz.underlying192 rfl tibool.size rfl (po_eq (show 3 = 0 + fszs _ by kernel_rfl)) tibool.size rfl rfl kk
      refine at_cd ?_
      refine cd_sq ?_
      refine st_if (zc := ([.int .i8 (-1)] : List Value)) (zs := ([.bool false, .slice none 0 0, .int .i8 0, .pointer none, .map none] : List Value)) rfl rfl hR (hasB_from) (fun u => df_i8 u (by decide)) rfl (fun u14 v14 done14 ht14 hR => ?_) (fun hh kk => ?_)
      rotate_left
      · skip
        refine cd_sq ?_
        refine rg_const rfl ?_
        refine at_cd ?_
        exact st_enum (z := .int .i8 (-1)) hR hh rfl en_203 (Fc.num (by decide) (by decide) (by decide) (fun null => sc_i8 null _ _)) rfl hT8 rfl Tryz.underlying192 rfl tipub_kmsg_ConfigSource.size rfl (po_eq (show 4 = 0 + fszs _ by kernel_rfl)) tipub_kmsg_ConfigSource.size rfl rfl kk
      refine at_cd ?_
      refine cd_sq ?_
      refine st_num (z := .bool false) hR (hasB_all hv0) rfl en_207 (Fc.num (by decide) (by decide) (by decide) (fun null => sc_b null _ _)) rfl hT8 rfl Tryz.underlying192 rfl tibool.size rfl (po_eq (show 5 = 0 + fszs _ by kernel_rfl)) tibool.size rfl rfl (fun u15 v15 done15 ht15 hR => ?_)
      refine at_cd ?_
      refine cd_sq ?_
      refine st_if (zc := ([.slice none 0 0] : List Value)) (zs := ([.int .i8 0, .pointer none, .map none] : List Value)) rfl rfl hR (hasB_from) (fun u => df_list u) rfl (fun u16 v16 done16 ht16 hR => ?_) (fun hh kk => ?_)
      rotate_left
      · skip
        refine st_list (zc := ([.string .empty, .pointer none, .int .i8 0, .map none] : List Value)) hR hh (by decide) rfl rfl rfl hT8 rfl Tryz.underlying192 rfl tiSl_kmsg_DescribeConfigsResponseResourceConfigConfigSynonym.size rfl (po_eq (show 6 = 0 + fszs _ by kernel_rfl)) tiSl_kmsg_DescribeConfigsResponseResourceConfigConfigSynonym.size Tryz.underlying189 Tryz.underlying21 tipub_kmsg_DescribeConfigsResponseResourceConfigConfigSynonym rfl rfl (by kernel_rfl) (by decide) (by decide) (fun q hq => .inr (hO_push hT2 (fun q hq => .inr (hO_push hT (fun q hq => .inl (by simpa [Ent.blk] using hq)) _ q hq)) _ q hq)) (fun z => part_pos (plain_pos (by decide) (by decide) (by decide) (hasB_all hv0))) rfl rfl rfl rfl rfl rfl rfl rfl rfl rfl rfl rfl rfl (keysT.at_ hk8 _) (fun gb17 cap17 m17 i17 x17 u17 v17 xs17 rest17 N17 X17 hi17 hm17 hk17 ht17 hxl17 hv17 kb17 => ?_) kk
        have hnt17 : ntFs F_sDescribeConfigsResponseResourceConfigConfigSynonym = true := by kernel_rfl
        have hvp17 := RSv.el hnt17 hv17
        refine cd_sq ?_
        refine rg_ix rfl rfl hi17 Tryz.underlying189 tipub_kmsg_DescribeConfigsResponseResourceConfigConfigSynonym.size rfl ?_
        refine at_cd ?_
        obtain ⟨mk17, hmk17⟩ : ∃ mk : List Value → Ent, mk = fun w => .row (.slice (some ⟨gb17, 0, none⟩) m17 cap17) 196 4 m17 (xs17 ++ (w ++ (List.replicate (m17 - (i17 + 1)) ([.string .empty, .pointer none, .int .i8 0, .map none] : List Value)).flatten)) := ⟨_, rfl⟩
        have hT17 : Tgt mk17 gb17 (0 + i17 * 4) 4 := by rw [hmk17]; exact (Tgt.row gb17 cap17 m17 4 196).mid _ _ _ _ (list_fits hi17 hxl17 rfl) (by rw [hxl17])
        refine cd_eqH (H' := RdE _ v17 :: mk17 ([.string .empty, .pointer none, .int .i8 0, .map none] : List Value) :: _) (by rw [hmk17]) ?_
        refine cd_sq ?_
        refine rg_dflt (z2 := ([.string .empty, .pointer none, .int .i8 0, .map none] : List Value)) rfl en_208 (df_DescribeConfigsResponseResourceConfigConfigSynonym _ _ _ _) hT17 rfl (fun u18 ht18 => ?_)
        refine at_cd ?_
        refine cd_sq ?_
        refine rg_move rfl rfl ?_
        refine at_cd ?_
        have hR : Rs u18 [.mk 8 0 (-1) (-1) (-1) 0 0 [], .mk 8 0 (-1) 0 (-1) 0 0 [], .mk 1 0 (-1) (-1) (-1) 0 0 []] [] _ q x17 (.mk 0 [] false (imL F_sDescribeConfigsResponseResourceConfigConfigSynonym _ q x17 0) (imU F_sDescribeConfigsResponseResourceConfigConfigSynonym q x17.u)) (tgsB q x17 ++ rest17) v17 [] := Rs.start (F := F_sDescribeConfigsResponseResourceConfigConfigSynonym) (RSv.mv hvp17 ht18) hnt17
        refine cd_eqH (H' := RdE _ v17 :: mk17 ([] ++ ([.string .empty, .pointer none, .int .i8 0, .map none] : List Value)) :: _) rfl ?_
        refine cd_sq ?_
        refine cd_sq ?_
        refine rg_const rfl ?_
        refine at_cd ?_
        refine st_str (z := .string .empty) hR (hasB_all hv0) rfl rfl rfl en_160 en_161 (fun h => Fc.of (by decide) (by decide) (by decide) (sc_cstr _ h _)) (fun h => Fc.of (by decide) (by decide) (by decide) (sc_str _ h _)) rfl hT17 rfl Tryz.underlying196 rfl tistring.size rfl (po_eq (show 0 = 0 + fszs _ by kernel_rfl)) tistring.size rfl rfl rfl rfl rfl (fun u19 v19 done19 ht19 hR => ?_)
        refine at_cd ?_
        refine cd_sq ?_
        refine cd_sq ?_
        refine rg_const rfl ?_
        refine at_cd ?_
        refine st_txt (z := .pointer none) hR (hasB_all hv0) rfl rfl rfl en_170 en_172 (fun h => fc_ctxt (by decide) h) (fun h => fc_txt (by decide) h) rfl hT17 rfl Tryz.underlying196 rfl tiPt_string.size rfl (po_eq (show 1 = 0 + fszs _ by kernel_rfl)) tiPt_string.size rfl rfl rfl rfl rfl rfl (fun u20 v20 done20 ht20 hR => ?_)
        refine at_cd ?_
        refine cd_sq ?_
        refine cd_sq ?_
        refine rg_const rfl ?_
        refine at_cd ?_
        refine st_enum (z := .int .i8 0) hR (hasB_all hv0) rfl en_203 (Fc.num (by decide) (by decide) (by decide) (fun null => sc_i8 null _ _)) rfl hT17 rfl Tryz.underlying196 rfl tipub_kmsg_ConfigSource.size rfl (po_eq (show 2 = 0 + fszs _ by kernel_rfl)) tipub_kmsg_ConfigSource.size rfl rfl (fun u21 v21 done21 ht21 hR => ?_)
        refine at_cd ?_
        refine st_tags (F := F_sDescribeConfigsResponseResourceConfigConfigSynonym) hnt17 hR (keysT.open hk17).1 rfl rfl rfl hT17 rfl Tryz.underlying196 rfl tipub_kmsg_Tags.size rfl (po_eq (show 3 = 0 + fszs _ by kernel_rfl)) tipub_kmsg_Tags.size rfl rfl (fun u22 v22 cs22 ht22 hv hM => ?_)
        refine at_eqH (H' := RdE _ _ :: .row (.slice (some ⟨gb17, 0, none⟩) m17 cap17) 196 4 m17 (xs17 ++ (_ ++ (List.replicate (m17 - (i17 + 1)) ([.string .empty, .pointer none, .int .i8 0, .map none] : List Value)).flatten)) :: _) (by rw [hmk17]) ?_
        exact at_sub (.skip rfl (.skip rfl .rfl')) (kb17 _ _ _ ((((ht18.trans ht19).trans ht20).trans ht21).trans ht22) (REl_part hM) hv)
      refine at_cd ?_
      refine cd_sq ?_
      refine st_if (zc := ([.int .i8 0] : List Value)) (zs := ([.pointer none, .map none] : List Value)) rfl rfl hR (hasB_from) (fun u => df_i8 u (by decide)) rfl (fun u23 v23 done23 ht23 hR => ?_) (fun hh kk => ?_)
      rotate_left
      · skip
        refine cd_sq ?_
        refine rg_const rfl ?_
        refine at_cd ?_
        exact st_enum (z := .int .i8 0) hR hh rfl en_203 (Fc.num (by decide) (by decide) (by decide) (fun null => sc_i8 null _ _)) rfl hT8 rfl Tryz.underlying192 rfl tipub_kmsg_ConfigType.size rfl (po_eq (show 7 = 0 + fszs _ by kernel_rfl)) tipub_kmsg_ConfigType.size rfl rfl kk
      refine at_cd ?_
      refine cd_sq ?_
      refine st_if (zc := ([.pointer none] : List Value)) (zs := ([.map none] : List Value)) rfl rfl hR (hasB_from) (fun u => df_txt u (by decide)) rfl (fun u24 v24 done24 ht24 hR => ?_) (fun hh kk => ?_)
      rotate_left
      · skip
        refine cd_sq ?_
        refine rg_const rfl ?_
        refine at_cd ?_
        exact st_txt (z := .pointer none) hR hh rfl rfl rfl en_170 en_172 (fun h => fc_ctxt (by decide) h) (fun h => fc_txt (by decide) h) rfl hT8 rfl Tryz.underlying192 rfl tiPt_string.size rfl (po_eq (show 8 = 0 + fszs _ by kernel_rfl)) tiPt_string.size rfl rfl rfl rfl rfl rfl kk
      refine at_cd ?_
      refine st_tags (F := F_sDescribeConfigsResponseResourceConfig) hnt8 hR (keysT.open hk8).1 rfl rfl rfl hT8 rfl Tryz.underlying192 rfl tipub_kmsg_Tags.size rfl (po_eq (show 9 = 0 + fszs _ by kernel_rfl)) tipub_kmsg_Tags.size rfl rfl (fun u25 v25 cs25 ht25 hv hM => ?_)
      refine at_eqH (H' := RdE _ _ :: .row (.slice (some ⟨gb8, 0, none⟩) m8 cap8) 192 10 m8 (xs8 ++ (_ ++ (List.replicate (m8 - (i8 + 1)) ([.string .empty, .pointer none, .bool false, .bool false, .int .i8 0, .bool false, .slice none 0 0, .int .i8 0, .pointer none, .map none] : List Value)).flatten)) :: _) (by rw [hmk8]) ?_
      exact at_sub (.skip rfl (.skip rfl .rfl')) (kb8 _ _ _ ((((((((((ht9.trans ht10).trans ht11).trans ht12).trans ht13).trans ht14).trans ht15).trans ht16).trans ht23).trans ht24).trans ht25) (REl_part hM) hv)
    refine at_cd ?_
    refine st_tags (F := F_sDescribeConfigsResponseResource) hnt2 hR (keysT.open hk2).1 rfl rfl rfl hT2 rfl Tryz.underlying186 rfl tipub_kmsg_Tags.size rfl (po_eq (show 5 = 0 + fszs _ by kernel_rfl)) tipub_kmsg_Tags.size rfl rfl (fun u26 v26 cs26 ht26 hv hM => ?_)
    refine at_eqH (H' := RdE _ _ :: .row (.slice (some ⟨gb2, 0, none⟩) m2 cap2) 186 6 m2 (xs2 ++ (_ ++ (List.replicate (m2 - (i2 + 1)) ([.int .i16 0, .pointer none, .int .i8 0, .string .empty, .slice none 0 0, .map none] : List Value)).flatten)) :: _) (by rw [hmk2]) ?_
    exact at_sub (.skip rfl (.skip rfl .rfl')) (kb2 _ _ _ ((((((ht3.trans ht4).trans ht5).trans ht6).trans ht7).trans hh8).trans ht26) (REl_part hM) hv)
  refine at_cd ?_
  refine cd_sq ?_
  refine st_tags (F := F_DescribeConfigsResponse) hnt hR (keysT.open hk).1 rfl rfl rfl hT rfl Tryz.underlying181 rfl tipub_kmsg_Tags.size rfl (po_eq (show 3 = 1 + fszs _ by kernel_rfl)) tipub_kmsg_Tags.size rfl rfl (fun u27 v27 cs27 ht27 hv hM => ?_)
  refine at_cd ?_
  refine cd_sr ?_
  refine ln_callT (i := 0) (vals := [.pointer (some ⟨br, 0, none⟩)]) en_163 rfl rfl (fun u hu hok hav => rd_Complete u br _ hok hav) rfl ?_
  rintro u9 _ _ ht9 ⟨ux9, ⟨rfl, rfl⟩, hx9⟩
  refine ln_pv (pv_assign rfl) rfl ?_
  refine ln_cd ?_
  refine cd_ret ?_
  exact at_retT (i := 1) rfl rfl rfl (fun w hS => ⟨rfl, _, by rw [hmk], (hM.mv ht9).mv (hS.trFinT _ _)⟩)
theorem newp_DescribeConfigsResponse (t : Vw) (hok : HF [] t.w) (hav : ∀ q ∈ blks [], t.av q) (hnd : (blks []).Nodup) : CH Tryz.prog 89 [] t [] fun u r E' => ∃ b, r = .pointer (some ⟨b, 0, none⟩) ∧ E' = [MsgBox b 181 [.int .i16 0, .int .i32 0, .slice none 0 0, .map none]] := by
  refine ch_enter Tryz.func89 rfl Tryz.ntmps89 rfl hok hav hnd ?_
  refine cd_sr ?_
  refine ln_pv (pv_assign rfl) rfl ?_
  refine ln_cd ?_
  refine cd_sr ?_
  refine ln_alloc tipub_kmsg_DescribeConfigsResponse rfl rfl (fun b => ?_)
  refine ln_cd ?_
  refine cd_sr ?_
  refine ln_callT (i := 0) en_143 rfl rfl (fun u hu hok hav => df_DescribeConfigsResponse _ _ _ _ (fun w => .obj b (.cells w.toArray 181)) b 0 (Tgt.obj b 181 4) u hok hav) rfl ?_
  rintro u1 _ _ ht1 ⟨_, ⟨rfl, rfl⟩, _⟩
  refine ln_cd ?_
  refine cd_sr ?_
  refine ln_pv (pv_assign rfl) rfl ?_
  refine ln_cd ?_
  refine cd_ret ?_
  exact at_retHq [MsgBox b 181 [.int .i16 0, .int .i32 0, .slice none 0 0, .map none]] (List.Sublist.refl _) rfl rfl (fun w hS => ⟨b, rfl, rfl⟩)
theorem setd_DescribeConfigsResponse (t : Vw) (b : Nat) (v : Int) (hok : (MsgBox b 181 [.int .i16 0, .int .i32 0, .slice none 0 0, .map none]).ok t.w) (hav : ∀ q ∈ (MsgBox b 181 [.int .i16 0, .int .i32 0, .slice none 0 0, .map none]).blk, t.av q) : CT Tryz.prog 92 [.pointer (some ⟨b, 0, none⟩), .int .i16 v] t (MsgBox b 181 [.int .i16 0, .int .i32 0, .slice none 0 0, .map none]) fun u r e' => e' = MsgBox b 181 [.int .i16 v, .int .i32 0, .slice none 0 0, .map none] := by
  refine ct_enter Tryz.func92 rfl Tryz.ntmps92 rfl hok hav (by simp [Ent.blk]) ?_
  refine cd_region ?_
  refine ln_pv (pv_move rfl) rfl ?_
  refine ln_pv (pv_move rfl) rfl ?_
  refine ln_pv (pv_nilCheck rfl) rfl ?_
  refine ln_pv (pv_fieldAddr (off := 0) (r := 0) Tryz.underlying181 rfl (tiint16).size rfl rfl rfl) rfl ?_
  refine ln_store1 (i := 0) rfl rfl rfl rfl (tiint16).size rfl ?_
  refine ln_nil ?_
  exact at_retT0 (i := 0) rfl rfl (fun w hS => rfl)
theorem readf_DescribeConfigsResponse (t : Vw) (b : Nat) (v : Int) (x : Tre) (sv : Value) (hsv : RSv t sv (partB F_DescribeConfigsResponse v (flexB 4 v) x)) (hk : keysT x) (h0 : 0 ≤ v) (h1 : v ≤ 4) (hok : (MsgBox b 181 (.int .i16 v :: ([.int .i32 0, .slice none 0 0, .map none] : List Value))).ok t.w) (hav : ∀ q ∈ (MsgBox b 181 (.int .i16 v :: ([.int .i32 0, .slice none 0 0, .map none] : List Value))).blk, t.av q) : CT Tryz.prog 93 [.pointer (some ⟨b, 0, none⟩), sv] t (MsgBox b 181 (.int .i16 v :: ([.int .i32 0, .slice none 0 0, .map none] : List Value))) fun u r e' => r = .nilIface ∧ ∃ cells, e' = MsgBox b 181 (.int .i16 v :: cells) ∧ RMp u F_DescribeConfigsResponse (imT F_DescribeConfigsResponse v (flexB 4 v) x) cells := by
  refine ct_enter Tryz.func93 rfl Tryz.ntmps93 rfl hok hav (by simp [Ent.blk]) ?_
  refine cd_sr ?_
  refine ln_pv (pv_assign rfl) rfl ?_
  refine ln_cd ?_
  refine cd_sr ?_
  refine ln_pv (pv_move rfl) rfl ?_
  refine ln_pv (pv_move rfl) rfl ?_
  refine ln_callT (i := 0) en_145 rfl rfl (fun u hu hok hav => read_DescribeConfigsResponse u b v x sv (RSv.mv hsv hu) hk h0 h1 hok hav) rfl ?_
  rintro u2 _ _ ht2 ⟨ux, ⟨rfl, cells, rfl, hM⟩, hx⟩
  refine ln_pv (pv_assign rfl) rfl ?_
  refine ln_cd ?_
  refine cd_ret ?_
  exact at_retT (i := 0) rfl rfl rfl (fun w hS => ⟨rfl, cells, rfl, (hM.mv hx).mv (hS.trFinT _ _)⟩)
theorem behind_DescribeConfigsResponse (t : Vw) (v : Int) (x : Tre) (D : List UInt8) (dv sv : Value) (hdv : RSv t dv D) (hsv : RSv t sv (partB F_DescribeConfigsResponse v (flexB 4 v) x)) (hk : keysT x) (h0 : 0 ≤ v) (h1 : v ≤ 4) (hD : D.length ≤ 1000) (hB : (partB F_DescribeConfigsResponse v (flexB 4 v) x).length ≤ 1099511627776) : CA Tryz.prog 40 [.int .i64 v, dv, sv] t fun u r => ∃ rv, r = .tuple #[rv, .bool true] ∧ RSv u rv (D ++ partB F_DescribeConfigsResponse v (flexB 4 v) x) := by
  have hnt : ntFs F_DescribeConfigsResponse = true := by kernel_rfl
  have hof : ofOks F_DescribeConfigsResponse = true := by kernel_rfl
  have him := partB_im hnt hof v (flexB 4 v) x
  have hfit := okP_im hnt hof v (flexB 4 v) x hk
  refine ca_enter Tryz.func40 rfl Tryz.ntmps40 rfl ?_
  refine cd_sr ?_
  refine ln_pv (pv_assign rfl) rfl ?_
  refine ln_pv (pv_assign rfl) rfl ?_
  refine ln_cd ?_
  refine cd_sr ?_
  refine ln_callH (E := []) (H0 := []) (List.Perm.refl _) en_89 rfl (fun u hu hok hav hnd => newp_DescribeConfigsResponse u hok hav hnd) rfl ?_
  rintro u1 _ _ ht1 ⟨_, ⟨b, rfl, rfl⟩, _⟩
  refine ln_pv (pv_assign rfl) rfl ?_
  refine ln_cd ?_
  refine cd_sr ?_
  refine ln_pv (pv_move rfl) rfl ?_
  refine ln_pv (pv_move rfl) rfl ?_
  refine ln_pv (pv_conv' Tryz.underlying3 Tryz.underlying49 rfl (r := v) (wrap_i16_in (by omega) (by omega))) rfl ?_
  refine ln_callT (i := 0) en_92 rfl rfl (fun u hu hok hav => setd_DescribeConfigsResponse u b v hok hav) rfl ?_
  rintro u2 _ _ ht2 ⟨_, rfl, _⟩
  refine ln_cd ?_
  have hsv := hsv.mv (ht1.trans ht2)
  have hdv := hdv.mv (ht1.trans ht2)
  refine cd_seq ?_
  refine cd_sr ?_
  refine ln_pv (pv_move rfl) rfl ?_
  refine ln_pv (pv_move rfl) rfl ?_
  refine ln_nilrow 5 1 ?_
  refine ln_append (i := 0) rfl Tryz.underlying22 tiuint8 rfl (by decide) rfl rfl (RS.src hsv) (by simp only [maxLen]; omega) (by omega) rfl (k' := (partB F_DescribeConfigsResponse v (flexB 4 v) x).length) (xs' := u8s (partB F_DescribeConfigsResponse v (flexB 4 v) x)) (by omega) (by simp) (fun va hva => ?_)
  refine ln_free1 (fun q h => h.elim) (fun s3 ht3 hK => ?_)
  have hs3 : RSv s3 va (partB F_DescribeConfigsResponse v (flexB 4 v) x) := Known.rs hK (u8s_one _)
  have hdv := hdv.mv ht3
  clear hK
  refine ln_callT (i := 0) en_93 rfl rfl (fun u hu hok hav => readf_DescribeConfigsResponse u b v x _ (RSv.mv hs3 hu) hk h0 h1 hok hav) rfl ?_
  rintro u4 _ _ ht4 ⟨ux4, ⟨rfl, cells, rfl, hM⟩, hx4⟩
  have hM := hM.mv hx4
  have hdv := hdv.mv ht4
  refine ln_pv (pv_neqI Tryz.underlying59 rfl) rfl ?_
  refine ln_cd ?_
  refine cd_ff rfl ?_
  refine cd_skip ?_
  refine at_cd ?_
  refine cd_free (fun s9 hs9 hK => ?_)
  have hob : OB s9 b (.cells (.int .i16 v :: cells).toArray 181) := hK _ (List.mem_of_getElem? (i := 0) rfl)
  clear hK
  have hM := hM.mv hs9
  have hdv := hdv.mv hs9
  refine cd_sr ?_
  refine ln_pv (pv_move rfl) rfl ?_
  refine ln_pv (pv_move rfl) rfl ?_
  refine ln_nilrow 5 1 ?_
  refine ln_append (i := 0) rfl Tryz.underlying22 tiuint8 rfl (by decide) rfl rfl (RS.src hdv) (by simp only [maxLen]; omega) (by omega) rfl (k' := (D).length) (xs' := u8s (D)) (by omega) (by simp) (fun vb hvb => ?_)
  refine ln_callT (i := 0) en_94 rfl rfl (fun u hu hok hav => append_DescribeConfigsResponse u b v (imT F_DescribeConfigsResponse v (flexB 4 v) x) cells _ D (hob.mv hu).rc (hM.mv hu) hfit h0 h1 (by rw [him, List.length_append]; omega) hok hav) rfl ?_
  rintro u5 v5 _ ht5 ⟨_, ⟨rfl, h15⟩, _⟩
  refine ln_pv (pv_assign rfl) rfl ?_
  refine ln_pv (pv_assign rfl) rfl ?_
  refine ln_cd ?_
  refine cd_ret ?_
  exact at_retA2 (K := 0) rfl rfl rfl (fun w hS => ⟨v5, rfl, (congrArg (fun q => RSv hS.fin v5 (D ++ q)) him).mp (row_rs hS (j := 0) rfl (u8s_one _))⟩)
theorem law_DescribeConfigsResponse (t : Vw) (n : Nat) (x : Tre) (cs : List Value) (D : List UInt8) (dv : Value) (hn8 : n < 256) (hdv : RSv t dv D) (hD : D.length ≤ 1048576) (hx : RT t x cs) (hkx : keysT x) (hsm : smT x) (hB : (writeB F_DescribeConfigsResponse 4 ((versionN n 4 : Nat) : Int) x).length < 1099511627776) : CS Tryz.prog 10 [.int .u8 (n : Int), dv, .agg cs.toArray] t (.bool true) := by
  obtain ⟨sS, sL, sU, rfl, hn, hS, ⟨lc, hL, hLs⟩, hU⟩ := hx.open
  obtain ⟨adS, cS, rfl, hleS⟩ := hS.shape
  obtain ⟨adL, cL, rfl, hleL⟩ := hL.shape
  have hU0 := hU
  obtain ⟨uc, hU1, hUs⟩ := hU0
  obtain ⟨hz1, hz2, hz3, hz4⟩ := hsm.open
  obtain ⟨adD, cD, rfl, hleD⟩ := hdv.shape
  have hok := ok_F_DescribeConfigsResponse
  have hvn : versionN n 4 ≤ 4 := by have := Nat.mod_lt n (show 0 < 4 + 1 by omega); unfold versionN; omega
  refine CA.cs ?_
  refine ca_enter Tryz.func10 rfl Tryz.ntmps10 rfl ?_
  cases hft : fits1 x with
  | false =>
    refine cd_sr ?_
    refine ln_box rfl rfl rfl (fun b1 => ?_)
    refine ln_pv (pv_assign rfl) rfl ?_
    refine ln_cd ?_
    refine cd_seq ?_
    refine cd_sr ?_
    refine ln_pv (pv_move rfl) rfl ?_
    refine ln_pv (pv_len_slice Tryz.underlying22 rfl) rfl ?_
    refine ln_pv (pv_ff (pv_gtr rfl rfl) (by omega)) rfl ?_
    refine ln_pv (pv_move rfl) rfl ?_
    refine ln_gt rfl rfl rfl (pv_ldO (i := 0) rfl Tryz.underlying26 rfl (tispec_Tree).size rfl rfl) rfl ?_
    refine ln_gE rfl rfl rfl ?_
    refine ln_callS en_11 rfl (fun u hu => by have h := laws_zzFits1 u x _ (RT.mv hx hu) (by omega); rwa [hft] at h) rfl ?_
    refine ln_gt rfl rfl rfl (pv_not rfl) rfl ?_
    refine ln_pv (pv_pick rfl (fun _ => rfl) (fun _ => rfl)) rfl ?_
    refine ln_cd ?_
    refine cd_tt rfl ?_
    refine cd_sr ?_
    refine ln_pv (pv_assign rfl) rfl ?_
    refine ln_cd ?_
    refine cd_ret ?_
    refine at_retA rfl rfl (fun w hS => ?_)
    rfl
  | true =>
    by_cases hbig : D.length > 1000
    · skip
      refine cd_sr ?_
      refine ln_box rfl rfl rfl (fun b1 => ?_)
      refine ln_pv (pv_assign rfl) rfl ?_
      refine ln_cd ?_
      refine cd_seq ?_
      refine cd_sr ?_
      refine ln_pv (pv_move rfl) rfl ?_
      refine ln_pv (pv_len_slice Tryz.underlying22 rfl) rfl ?_
      refine ln_pv (pv_ff (pv_gtr rfl rfl) (by omega)) rfl ?_
      refine ln_pv (pv_move rfl) rfl ?_
      refine ln_gt rfl rfl rfl (pv_ldO (i := 0) rfl Tryz.underlying26 rfl (tispec_Tree).size rfl rfl) rfl ?_
      refine ln_gE rfl rfl rfl ?_
      refine ln_callS en_11 rfl (fun u hu => by have h := laws_zzFits1 u x _ (RT.mv hx hu) (by omega); rwa [hft] at h) rfl ?_
      refine ln_gt rfl rfl rfl (pv_not rfl) rfl ?_
      refine ln_pv (pv_pick rfl (fun _ => rfl) (fun _ => rfl)) rfl ?_
      refine ln_cd ?_
      refine cd_ff rfl ?_
      refine cd_skip ?_
      refine at_cd ?_
      refine cd_sr ?_
      refine ln_callS en_38 rfl (fun u hu => max_DescribeConfigsResponse u) rfl ?_
      refine ln_pv (pv_assign rfl) rfl ?_
      refine ln_cd ?_
      refine cd_seq ?_
      refine cd_sr ?_
      refine ln_pv (pv_move rfl) rfl ?_
      refine ln_pv (pv_ff (pv_lss rfl rfl) (by omega)) rfl ?_
      refine ln_cd ?_
      refine cd_ff rfl ?_
      refine cd_skip ?_
      refine at_cd ?_
      refine cd_sr ?_
      refine ln_callA en_39 rfl (fun u hu => sch_F_DescribeConfigsResponse u) rfl (fun u1 v1 ht1 hR1 => ?_)
      have hx := hx.mv ht1
      have hdv := hdv.mv ht1
      obtain ⟨sv, lcm, rfl, hVm, hFm⟩ := hR1
      refine ln_pv (pv_move rfl) rfl ?_
      refine ln_pv (pv_move rfl) rfl ?_
      refine ln_callS en_14 rfl (fun u hu => laws_version u n 4 hn8 (by omega)) rfl ?_
      refine ln_alloc tispec_Message rfl rfl (fun b2 => ?_)
      refine ln_storeW (i := 0) rfl rfl rfl rfl (tispec_Message).size rfl (by simp [(RS.one hVm)]) ?_
      refine ln_pv (pv_assign rfl) rfl ?_
      refine ln_cd ?_
      refine cd_seq ?_
      refine cd_sr ?_
      refine ln_pv (pv_move rfl) rfl ?_
      refine ln_pv (pv_len_slice Tryz.underlying22 rfl) rfl ?_
      refine ln_pv (pv_tt (pv_gtr rfl rfl) (by omega)) rfl ?_
      refine ln_cd ?_
      refine cd_tt rfl ?_
      refine cd_sr ?_
      refine ln_pv (pv_assign rfl) rfl ?_
      refine ln_cd ?_
      refine cd_ret ?_
      refine at_retA rfl rfl (fun w hS => ?_)
      rfl
    · skip
      refine cd_sr ?_
      refine ln_box rfl rfl rfl (fun b1 => ?_)
      refine ln_pv (pv_assign rfl) rfl ?_
      refine ln_cd ?_
      refine cd_seq ?_
      refine cd_sr ?_
      refine ln_pv (pv_move rfl) rfl ?_
      refine ln_pv (pv_len_slice Tryz.underlying22 rfl) rfl ?_
      refine ln_pv (pv_ff (pv_gtr rfl rfl) (by omega)) rfl ?_
      refine ln_pv (pv_move rfl) rfl ?_
      refine ln_gt rfl rfl rfl (pv_ldO (i := 0) rfl Tryz.underlying26 rfl (tispec_Tree).size rfl rfl) rfl ?_
      refine ln_gE rfl rfl rfl ?_
      refine ln_callS en_11 rfl (fun u hu => by have h := laws_zzFits1 u x _ (RT.mv hx hu) (by omega); rwa [hft] at h) rfl ?_
      refine ln_gt rfl rfl rfl (pv_not rfl) rfl ?_
      refine ln_pv (pv_pick rfl (fun _ => rfl) (fun _ => rfl)) rfl ?_
      refine ln_cd ?_
      refine cd_ff rfl ?_
      refine cd_skip ?_
      refine at_cd ?_
      refine cd_sr ?_
      refine ln_callS en_38 rfl (fun u hu => max_DescribeConfigsResponse u) rfl ?_
      refine ln_pv (pv_assign rfl) rfl ?_
      refine ln_cd ?_
      refine cd_seq ?_
      refine cd_sr ?_
      refine ln_pv (pv_move rfl) rfl ?_
      refine ln_pv (pv_ff (pv_lss rfl rfl) (by omega)) rfl ?_
      refine ln_cd ?_
      refine cd_ff rfl ?_
      refine cd_skip ?_
      refine at_cd ?_
      refine cd_sr ?_
      refine ln_callA en_39 rfl (fun u hu => sch_F_DescribeConfigsResponse u) rfl (fun u1 v1 ht1 hR1 => ?_)
      have hx := hx.mv ht1
      have hdv := hdv.mv ht1
      obtain ⟨sv, lcm, rfl, hVm, hFm⟩ := hR1
      refine ln_pv (pv_move rfl) rfl ?_
      refine ln_pv (pv_move rfl) rfl ?_
      refine ln_callS en_14 rfl (fun u hu => laws_version u n 4 hn8 (by omega)) rfl ?_
      refine ln_alloc tispec_Message rfl rfl (fun b2 => ?_)
      refine ln_storeW (i := 0) rfl rfl rfl rfl (tispec_Message).size rfl (by simp [(RS.one hVm)]) ?_
      refine ln_pv (pv_assign rfl) rfl ?_
      refine ln_cd ?_
      refine cd_seq ?_
      refine cd_sr ?_
      refine ln_pv (pv_move rfl) rfl ?_
      refine ln_pv (pv_len_slice Tryz.underlying22 rfl) rfl ?_
      refine ln_pv (pv_ff (pv_gtr rfl rfl) (by omega)) rfl ?_
      refine ln_cd ?_
      refine cd_ff rfl ?_
      refine cd_skip ?_
      refine at_cd ?_
      refine cd_sr ?_
      refine ln_pv (pv_ldO (i := 0) rfl Tryz.underlying31 rfl (tispec_Message).size rfl rfl) rfl ?_
      refine ln_pv (pv_move rfl) rfl ?_
      refine ln_pv (pv_ldO (i := 1) rfl Tryz.underlying26 rfl (tispec_Tree).size rfl rfl) rfl ?_
      refine ln_callA en_15 rfl (fun u hu => spec_Write F_DescribeConfigsResponse 4 hok.1 hok.2.2 u _ _ _ ((versionN n 4 : Nat) : Int) x (RS.mv hVm hu) (RFs.mv hFm hu) (RT.mv hx hu) hsm hB) rfl (fun u2 v2 ht2 hR2 => ?_)
      have hx := hx.mv ht2
      have hdv := hdv.mv ht2
      have hVm := hVm.mv ht2
      have hFm := hFm.mv ht2
      refine ln_pv (pv_assign rfl) rfl ?_
      refine ln_cd ?_
      refine cd_sr ?_
      refine ln_pv (pv_move rfl) rfl ?_
      refine ln_pv (pv_move rfl) rfl ?_
      refine ln_pv (pv_move rfl) rfl ?_
      refine ln_callA en_40 rfl (fun u hu => behind_DescribeConfigsResponse u ((versionN n 4 : Nat) : Int) x D _ _ (RSv.mv hdv hu) (RSv.mv hR2 hu) hkx (by omega) (by omega) (by omega) (by rw [show partB F_DescribeConfigsResponse ((versionN n 4 : Nat) : Int) (flexB 4 ((versionN n 4 : Nat) : Int)) x = writeB F_DescribeConfigsResponse 4 ((versionN n 4 : Nat) : Int) x from rfl]; omega)) rfl (fun u3 v3 ht3 hR3 => ?_)
      have hx := hx.mv ht3
      have hdv := hdv.mv ht3
      have hVm := hVm.mv ht3
      have hFm := hFm.mv ht3
      have hR2 := hR2.mv ht3
      obtain ⟨rv, rfl, hV⟩ := hR3
      refine ln_pv (pv_move rfl) rfl ?_
      refine ln_pv (pv_extract rfl rfl) rfl ?_
      refine ln_pv (pv_extract rfl rfl) rfl ?_
      refine ln_pv (pv_assign rfl) rfl ?_
      refine ln_pv (pv_assign rfl) rfl ?_
      refine ln_cd ?_
      refine cd_sr ?_
      refine ln_pv (pv_move rfl) rfl ?_
      refine ln_pv (pv_move rfl) rfl ?_
      refine ln_gt rfl rfl rfl (pv_move rfl) rfl ?_
      refine ln_gE rfl rfl rfl ?_
      refine ln_lit (vs := []) Tryz.underlying22 tiuint8 rfl (by decide) rfl rfl rfl rfl rfl rfl (fun b3 => ?_)
      refine ln_gt rfl rfl rfl (pv_move rfl) rfl ?_
      refine ln_gE rfl rfl rfl ?_
      refine ln_objrow (i := 0) (m := 0) (sz := 1) rfl rfl (by decide) ?_
      refine ln_append (i := 0) rfl Tryz.underlying22 tiuint8 rfl (by decide) rfl rfl (RS.src hdv) (by first | omega | (simp only [maxLen]; omega)) (by first | omega | (simp only [maxLen]; omega)) rfl (k' := D.length) (xs' := u8s D) (by omega) (by simp [flat]) (fun v4 hv4 => ?_)
      refine ln_gt rfl rfl rfl (pv_move rfl) rfl ?_
      refine ln_gE rfl rfl rfl ?_
      refine ln_append (i := 0) rfl Tryz.underlying22 tiuint8 rfl (by decide) rfl rfl (RS.src hR2) (by first | omega | (simp only [maxLen]; omega)) (by first | omega | (simp only [maxLen]; omega)) rfl (k' := (D ++ writeB F_DescribeConfigsResponse 4 ((versionN n 4 : Nat) : Int) x).length) (xs' := u8s (D ++ writeB F_DescribeConfigsResponse 4 ((versionN n 4 : Nat) : Int) x)) (by rw [List.length_append]) (by simp [u8s]) (fun v5 hv5 => ?_)
      refine ln_free1 (fun q h => h.elim) (fun s9 hs9 hK => ?_)
      have hrow : RSv s9 _ (D ++ writeB F_DescribeConfigsResponse 4 ((versionN n 4 : Nat) : Int) x) := Known.rs hK (u8s_one _)
      clear hK
      have hx := hx.mv hs9
      have hdv := hdv.mv hs9
      have hVm := hVm.mv hs9
      have hFm := hFm.mv hs9
      have hR2 := hR2.mv hs9
      have hV := hV.mv hs9
      refine ln_gE rfl rfl rfl ?_
      refine ln_callS en_17 rfl (fun u hu => by have h := spec_Same u _ _ _ _ (RSv.mv hV hu) (RSv.mv hrow hu) (by rw [show partB F_DescribeConfigsResponse ((versionN n 4 : Nat) : Int) (flexB 4 ((versionN n 4 : Nat) : Int)) x = writeB F_DescribeConfigsResponse 4 ((versionN n 4 : Nat) : Int) x from rfl, List.length_append]; omega); rwa [show partB F_DescribeConfigsResponse ((versionN n 4 : Nat) : Int) (flexB 4 ((versionN n 4 : Nat) : Int)) x = writeB F_DescribeConfigsResponse 4 ((versionN n 4 : Nat) : Int) x from rfl, decide_eq_true rfl] at h) rfl ?_
      refine ln_pv (pv_pick rfl (fun _ => rfl) (fun _ => rfl)) rfl ?_
      refine ln_pv (pv_assign rfl) rfl ?_
      refine ln_cd ?_
      refine cd_ret ?_
      refine at_retA rfl rfl (fun w hS => ?_)
      rfl
theorem fn_DescribeConfigsResponse (t : Vw) (n : Nat) (x : Tre) (cs : List Value) (D : List UInt8) (dv : Value) (hn : n < 256) (hdv : RSv t dv D) (hD : D.length ≤ 1048576) (hx : RT t x cs) (hw : wt x ≤ 1048576) : CS Tryz.prog 10 [.int .u8 (n : Int), dv, .agg cs.toArray] t (.bool true) := by
  have hok := ok_F_DescribeConfigsResponse
  exact law_DescribeConfigsResponse t n x cs D dv hn hdv hD hx hx.keys (smT_wt x (by omega)) (writeB_len _ _ _ x hok.1 hx.keys hw (of_decide_eq_true (by kernel_rfl)))
end K
end Go.Proofs.YtkcdocdldebeoaaGreatDoorR
