import Derived.Test.YtekafeogilbjmaaGreatDoorVa
import Derived.Test.YtekafeogilbjmaaGreatDoorTk
import Derived.Test.YtekafeogilbjmaaGreatDoorW4
import Derived.Test.YtekafeogilbjmaaGreatDoorMbt
import Derived.Test.YtekafeogilbjmaaGreatDoorP4
import Derived.Test.YtekafeogilbjmaaGreatDoorS10
set_option linter.unusedVariables false
set_option linter.unusedSimpArgs false
namespace Go.Proofs.YtekafeogilbjmaaGreatDoor
namespace K
open Go Go.Lib
theorem df_ElectLeadersRequest (z0 z1 z2 z3 z4 : Value) : DfC 136 [z0, z1, z2, z3, z4] [z0, z1, z2, .int .i32 60000, z4] := by
  intro mk b o hT t hok hav
  refine ct_enter Tryz.func136 rfl Tryz.ntmps136 rfl hok hav (by rw [hT.blk]; simp) ?_
  refine cd_region ?_
  refine ln_pv (pv_move rfl) rfl ?_
  refine ln_pv (pv_nilCheck rfl) rfl ?_
  refine ln_pv (pv_fieldAddr (off := 3) Tryz.underlying125 rfl tiint32.size rfl rfl rfl) rfl ?_
  refine ln_storeG1 (i := 0) (off := 3) (v := .int .i32 60000) hT rfl rfl rfl rfl rfl tiint32.size (Nat.le_of_ble_eq_true rfl) ?_
  refine ln_nil ?_
  exact at_retT0 (i := 0) rfl rfl (fun w hS => ⟨rfl, rfl⟩)
theorem df_ElectLeadersRequestTopic (z0 z1 z2 : Value) : DfC 197 [z0, z1, z2] [z0, z1, z2] := by
  intro mk b o hT t hok hav
  refine ct_enter Tryz.func197 rfl Tryz.ntmps197 rfl hok hav (by rw [hT.blk]; simp) ?_
  refine cd_skip ?_
  exact at_retT0 (i := 0) rfl rfl (fun w hS => ⟨rfl, rfl⟩)
theorem read_ElectLeadersRequest (t : Vw) (b : Nat) (v : Int) (x : Tre) (sv : Value) (hsv : RSv t sv (partB F_ElectLeadersRequest v (flexB 2 v) x)) (hk : keysT x) (h0 : 0 ≤ v) (h1 : v ≤ 2) (hok : (MsgBox b 125 (.int .i16 v :: ([.int .i8 0, .slice none 0 0, .int .i32 60000, .map none] : List Value))).ok t.w) (hav : ∀ q ∈ (MsgBox b 125 (.int .i16 v :: ([.int .i8 0, .slice none 0 0, .int .i32 60000, .map none] : List Value))).blk, t.av q) : CT Tryz.prog 137 [.pointer (some ⟨b, 0, none⟩), sv, .bool false] t (MsgBox b 125 (.int .i16 v :: ([.int .i8 0, .slice none 0 0, .int .i32 60000, .map none] : List Value))) fun u r e' => r = .nilIface ∧ ∃ cells, e' = MsgBox b 125 (.int .i16 v :: cells) ∧ RMp u F_ElectLeadersRequest (imT F_ElectLeadersRequest v (flexB 2 v) x) cells := by
  have hv0 := h0
  have hnt : ntFs F_ElectLeadersRequest = true := by kernel_rfl
  generalize hqd : flexB 2 v = q at *
  have hq0 : decide (v ≥ 2) = q := by rw [← hqd]; simp [flexB]
  obtain ⟨adS, cS, rfl, hcS⟩ := RSv.shape hsv
  refine ct_enter Tryz.func137 rfl Tryz.ntmps137 rfl hok hav (by simp [Ent.blk]) ?_
  refine cd_sq ?_
  refine rg_const rfl ?_
  refine at_cd ?_
  refine cd_sr ?_
  refine ln_pv (pv_move rfl) rfl ?_
  refine ln_callT (i := 0) (vals := [.pointer (some ⟨b, 0, none⟩)]) en_136 rfl rfl (fun u hu hok hav => df_ElectLeadersRequest _ _ _ _ _ (fun w => .obj b (.cells w.toArray 125)) b 0 (Tgt.obj b 125 5) u hok hav) rfl ?_
  rintro u1 _ _ ht1 ⟨ux1, ⟨rfl, rfl⟩, hx1⟩
  refine ln_cd ?_
  refine cd_sr ?_
  refine ln_pv (pv_move rfl) rfl ?_
  refine ln_pv (pv_struct [(0, 1), (1, 1)] (l := [_, _]) rfl Tryz.underlying199 tipub_kmsg_inner_kbin_Reader (by kernel_rfl) rfl rfl) rfl ?_
  refine ln_alloc (l := [.slice none 0 0, .bool false]) tipub_kmsg_inner_kbin_Reader rfl rfl (fun br => ?_)
  refine ln_storeW (i := 0) (vs := [_, .bool false]) rfl rfl rfl rfl tipub_kmsg_inner_kbin_Reader.size rfl (by simp) ?_
  refine ln_cd ?_
  refine cd_sr ?_
  refine ln_pv (pv_move rfl) rfl ?_
  refine ln_pv (pv_nilCheck rfl) rfl ?_
  refine ln_pv (pv_fieldAddr (off := 0) (r := 0) Tryz.underlying125 rfl tiint16.size rfl rfl rfl) rfl ?_
  refine ln_pv (pv_ldo (i := 1) (v := .int .i16 v) rfl Tryz.underlying46 rfl rfl rfl) rfl ?_
  refine ln_pv (pv_assign rfl) rfl ?_
  refine ln_cd ?_
  refine cd_sq ?_
  refine rg_blank rfl rfl ?_
  refine at_cd ?_
  refine cd_sr ?_
  refine ln_pv (pv_move rfl) rfl ?_
  refine ln_pv (pv_geq rfl rfl) rfl ?_
  refine ln_pv (pv_assign rfl) rfl ?_
  rw [hq0]
  refine ln_cd ?_
  refine cd_sq ?_
  refine rg_blank rfl rfl ?_
  refine at_cd ?_
  refine cd_sr ?_
  refine ln_pv (pv_move rfl) rfl ?_
  refine ln_pv (pv_assign rfl) rfl ?_
  refine ln_cd ?_
  refine cd_sub_ (L' := [(10, .pointer (some ⟨b, 0, none⟩)), (9, .bool q), (8, .int .i16 v), (7, .pointer (some ⟨br, 0, none⟩)), (2, .bool false)]) (.put rfl (.put rfl (.put rfl (.put rfl (.put rfl .nil))))) ?_
  obtain ⟨mk, hmk⟩ : ∃ mk : List Value → Ent, mk = fun w => MsgBox b 125 (.int .i16 v :: w) := ⟨_, rfl⟩
  have hT : Tgt mk b 1 4 := by rw [hmk]; exact Tgt.behind b 125 _ 4
  refine cd_eqH (H' := [RdE br _, mk ([] ++ ([.int .i8 0, .slice none 0 0, .int .i32 60000, .map none] : List Value))]) (by rw [hmk]; rfl) ?_
  have hR : Rs u1 [.mk 1 1 (-1) (-1) (-1) 0 0 [], .mk 11 0 (-1) 0 (-1) 0 10 F_sElectLeadersRequestTopic, .mk 3 0 (-1) (-1) (-1) 60000 0 []] [] v q x (imT F_ElectLeadersRequest v q x) (tgsB q x ++ []) _ [] := Rs.start (F := F_ElectLeadersRequest) (RSv.part hnt (by rw [List.append_nil]; exact RSv.mv hsv ht1)) hnt
  refine cd_sq ?_
  refine st_if (zc := ([.int .i8 0] : List Value)) (zs := ([.slice none 0 0, .int .i32 60000, .map none] : List Value)) rfl rfl hR (hasB_from) (fun u => df_i8 u (by decide)) rfl (fun u1 v1 done1 ht1 hR => ?_) (fun hh kk => ?_)
  rotate_left
  · skip
    exact st_num (z := .int .i8 0) hR hh rfl en_196 (Fc.num (by decide) (by decide) (by decide) (fun null => sc_i8 null _ _)) rfl hT rfl Tryz.underlying125 rfl tiint8.size rfl (po_eq (show 1 = 1 + fszs _ by kernel_rfl)) tiint8.size rfl rfl kk
  refine at_cd ?_
  refine cd_sq ?_
  refine st_listN (zc := ([.string .empty, .slice none 0 0, .map none] : List Value)) hR (hasB_all hv0) (by decide) (by omega) rfl rfl rfl rfl hT rfl Tryz.underlying125 rfl tiSl_kmsg_ElectLeadersRequestTopic.size rfl (po_eq (show 2 = 1 + fszs _ by kernel_rfl)) tiSl_kmsg_ElectLeadersRequestTopic.size Tryz.underlying123 Tryz.underlying21 tipub_kmsg_ElectLeadersRequestTopic rfl rfl (by kernel_rfl) (by decide) (by decide) (fun q hq => .inl (by simpa [Ent.blk] using hq)) (fun z => part_pos (plain_pos (by decide) (by decide) (by decide) (hasB_all hv0))) rfl rfl rfl rfl rfl rfl rfl rfl rfl rfl rfl rfl rfl rfl rfl (keysT.at_ hk _) (fun gb2 cap2 m2 i2 x2 u2 v2 xs2 rest2 N2 X2 hi2 hm2 hk2 ht2 hxl2 hv2 kb2 => ?_) (fun uu2 vv2 done2 hh2 hR => ?_)
  · skip
    have hnt2 : ntFs F_sElectLeadersRequestTopic = true := by kernel_rfl
    have hvp2 := RSv.el hnt2 hv2
    refine cd_sq ?_
    refine rg_ix rfl rfl hi2 Tryz.underlying123 tipub_kmsg_ElectLeadersRequestTopic.size rfl ?_
    refine at_cd ?_
    obtain ⟨mk2, hmk2⟩ : ∃ mk : List Value → Ent, mk = fun w => .row (.slice (some ⟨gb2, 0, none⟩) m2 cap2) 130 3 m2 (xs2 ++ (w ++ (List.replicate (m2 - (i2 + 1)) ([.string .empty, .slice none 0 0, .map none] : List Value)).flatten)) := ⟨_, rfl⟩
    have hT2 : Tgt mk2 gb2 (0 + i2 * 3) 3 := by rw [hmk2]; exact (Tgt.row gb2 cap2 m2 3 130).mid _ _ _ _ (list_fits hi2 hxl2 rfl) (by rw [hxl2])
    refine cd_eqH (H' := RdE _ v2 :: mk2 ([.string .empty, .slice none 0 0, .map none] : List Value) :: _) (by rw [hmk2]) ?_
    refine cd_sq ?_
    refine rg_dflt (z2 := ([.string .empty, .slice none 0 0, .map none] : List Value)) rfl en_197 (df_ElectLeadersRequestTopic _ _ _) hT2 rfl (fun u3 ht3 => ?_)
    refine at_cd ?_
    refine cd_sq ?_
    refine rg_move rfl rfl ?_
    refine at_cd ?_
    have hR : Rs u3 [.mk 8 0 (-1) (-1) (-1) 0 0 [], .mk 11 0 (-1) (-1) (-1) 0 3 []] [] _ q x2 (.mk 0 [] false (imL F_sElectLeadersRequestTopic _ q x2 0) (imU F_sElectLeadersRequestTopic q x2.u)) (tgsB q x2 ++ rest2) v2 [] := Rs.start (F := F_sElectLeadersRequestTopic) (RSv.mv hvp2 ht3) hnt2
    refine cd_eqH (H' := RdE _ v2 :: mk2 ([] ++ ([.string .empty, .slice none 0 0, .map none] : List Value)) :: _) rfl ?_
    refine cd_sq ?_
    refine cd_sq ?_
    refine rg_const rfl ?_
    refine at_cd ?_
    refine st_str (z := .string .empty) hR (hasB_all hv0) rfl rfl rfl en_200 en_201 (fun h => Fc.of (by decide) (by decide) (by decide) (sc_cstr _ h _)) (fun h => Fc.of (by decide) (by decide) (by decide) (sc_str _ h _)) rfl hT2 rfl Tryz.underlying130 rfl tistring.size rfl (po_eq (show 0 = 0 + fszs _ by kernel_rfl)) tistring.size rfl rfl rfl rfl rfl (fun u4 v4 done4 ht4 hR => ?_)
    refine at_cd ?_
    refine cd_sq ?_
    refine st_list (zc := ([.int .i32 0] : List Value)) hR (hasB_all hv0) (by decide) rfl rfl rfl hT2 rfl Tryz.underlying130 rfl tiSl_int32.size rfl (po_eq (show 1 = 0 + fszs _ by kernel_rfl)) tiSl_int32.size Tryz.underlying128 Tryz.underlying21 tiint32 rfl rfl (by kernel_rfl) (by decide) (by decide) (fun q hq => .inr (hO_push hT (fun q hq => .inl (by simpa [Ent.blk] using hq)) _ q hq)) (fun z => by simp only [valueB]; rw [if_neg (by decide)]; exact scalar_pos _ _ _ _) rfl rfl rfl rfl rfl rfl rfl rfl rfl rfl rfl rfl rfl (keysT.at_ hk2 _) (fun gb5 cap5 m5 i5 x5 u5 v5 xs5 rest5 N5 X5 hi5 hm5 hk5 ht5 hxl5 hv5 kb5 => ?_) (fun uu5 vv5 done5 hh5 hR => ?_)
    · skip
      refine st_elem (ez := 1) (by decide) rfl en_179 (sc_i32 false _ _) hv5 rfl rfl hi5 (by rw [hxl5]) (by simp) Tryz.underlying128 tiint32.size rfl rfl (fun u v c ht hE hv => ?_)
      exact kb5 _ _ _ ht hE hv
    refine at_cd ?_
    refine st_tags (F := F_sElectLeadersRequestTopic) hnt2 hR (keysT.open hk2).1 rfl rfl rfl hT2 rfl Tryz.underlying130 rfl tipub_kmsg_Tags.size rfl (po_eq (show 2 = 0 + fszs _ by kernel_rfl)) tipub_kmsg_Tags.size rfl rfl (fun u6 v6 cs6 ht6 hv hM => ?_)
    refine at_eqH (H' := RdE _ _ :: .row (.slice (some ⟨gb2, 0, none⟩) m2 cap2) 130 3 m2 (xs2 ++ (_ ++ (List.replicate (m2 - (i2 + 1)) ([.string .empty, .slice none 0 0, .map none] : List Value)).flatten)) :: _) (by rw [hmk2]) ?_
    exact at_sub (.skip rfl (.skip rfl .rfl')) (kb2 _ _ _ (((ht3.trans ht4).trans hh5).trans ht6) (REl_part hM) hv)
  refine at_cd ?_
  refine cd_sq ?_
  refine st_num (z := .int .i32 60000) hR (hasB_all hv0) rfl en_179 (Fc.num (by decide) (by decide) (by decide) (fun null => sc_i32 null _ _)) rfl hT rfl Tryz.underlying125 rfl tiint32.size rfl (po_eq (show 3 = 1 + fszs _ by kernel_rfl)) tiint32.size rfl rfl (fun u7 v7 done7 ht7 hR => ?_)
  refine at_cd ?_
  refine cd_sq ?_
  refine st_tags (F := F_ElectLeadersRequest) hnt hR (keysT.open hk).1 rfl rfl rfl hT rfl Tryz.underlying125 rfl tipub_kmsg_Tags.size rfl (po_eq (show 4 = 1 + fszs _ by kernel_rfl)) tipub_kmsg_Tags.size rfl rfl (fun u8 v8 cs8 ht8 hv hM => ?_)
  refine at_cd ?_
  refine cd_sr ?_
  refine ln_callT (i := 0) (vals := [.pointer (some ⟨br, 0, none⟩)]) en_183 rfl rfl (fun u hu hok hav => rd_Complete u br _ hok hav) rfl ?_
  rintro u9 _ _ ht9 ⟨ux9, ⟨rfl, rfl⟩, hx9⟩
  refine ln_pv (pv_assign rfl) rfl ?_
  refine ln_cd ?_
  refine cd_ret ?_
  exact at_retT (i := 1) rfl rfl rfl (fun w hS => ⟨rfl, _, by rw [hmk], (hM.mv ht9).mv (hS.trFinT _ _)⟩)
theorem newp_ElectLeadersRequest (t : Vw) (hok : HF [] t.w) (hav : ∀ q ∈ blks [], t.av q) (hnd : (blks []).Nodup) : CH Tryz.prog 65 [] t [] fun u r E' => ∃ b, r = .pointer (some ⟨b, 0, none⟩) ∧ E' = [MsgBox b 125 [.int .i16 0, .int .i8 0, .slice none 0 0, .int .i32 60000, .map none]] := by
  refine ch_enter Tryz.func65 rfl Tryz.ntmps65 rfl hok hav hnd ?_
  refine cd_sr ?_
  refine ln_pv (pv_assign rfl) rfl ?_
  refine ln_cd ?_
  refine cd_sr ?_
  refine ln_alloc tipub_kmsg_ElectLeadersRequest rfl rfl (fun b => ?_)
  refine ln_cd ?_
  refine cd_sr ?_
  refine ln_callT (i := 0) en_136 rfl rfl (fun u hu hok hav => df_ElectLeadersRequest _ _ _ _ _ (fun w => .obj b (.cells w.toArray 125)) b 0 (Tgt.obj b 125 5) u hok hav) rfl ?_
  rintro u1 _ _ ht1 ⟨_, ⟨rfl, rfl⟩, _⟩
  refine ln_cd ?_
  refine cd_sr ?_
  refine ln_pv (pv_assign rfl) rfl ?_
  refine ln_cd ?_
  refine cd_ret ?_
  exact at_retHq [MsgBox b 125 [.int .i16 0, .int .i8 0, .slice none 0 0, .int .i32 60000, .map none]] (List.Sublist.refl _) rfl rfl (fun w hS => ⟨b, rfl, rfl⟩)
theorem setd_ElectLeadersRequest (t : Vw) (b : Nat) (v : Int) (hok : (MsgBox b 125 [.int .i16 0, .int .i8 0, .slice none 0 0, .int .i32 60000, .map none]).ok t.w) (hav : ∀ q ∈ (MsgBox b 125 [.int .i16 0, .int .i8 0, .slice none 0 0, .int .i32 60000, .map none]).blk, t.av q) : CT Tryz.prog 68 [.pointer (some ⟨b, 0, none⟩), .int .i16 v] t (MsgBox b 125 [.int .i16 0, .int .i8 0, .slice none 0 0, .int .i32 60000, .map none]) fun u r e' => e' = MsgBox b 125 [.int .i16 v, .int .i8 0, .slice none 0 0, .int .i32 60000, .map none] := by
  refine ct_enter Tryz.func68 rfl Tryz.ntmps68 rfl hok hav (by simp [Ent.blk]) ?_
  refine cd_region ?_
  refine ln_pv (pv_move rfl) rfl ?_
  refine ln_pv (pv_move rfl) rfl ?_
  refine ln_pv (pv_nilCheck rfl) rfl ?_
  refine ln_pv (pv_fieldAddr (off := 0) (r := 0) Tryz.underlying125 rfl (tiint16).size rfl rfl rfl) rfl ?_
  refine ln_store1 (i := 0) rfl rfl rfl rfl (tiint16).size rfl ?_
  refine ln_nil ?_
  exact at_retT0 (i := 0) rfl rfl (fun w hS => rfl)
theorem readf_ElectLeadersRequest (t : Vw) (b : Nat) (v : Int) (x : Tre) (sv : Value) (hsv : RSv t sv (partB F_ElectLeadersRequest v (flexB 2 v) x)) (hk : keysT x) (h0 : 0 ≤ v) (h1 : v ≤ 2) (hok : (MsgBox b 125 (.int .i16 v :: ([.int .i8 0, .slice none 0 0, .int .i32 60000, .map none] : List Value))).ok t.w) (hav : ∀ q ∈ (MsgBox b 125 (.int .i16 v :: ([.int .i8 0, .slice none 0 0, .int .i32 60000, .map none] : List Value))).blk, t.av q) : CT Tryz.prog 69 [.pointer (some ⟨b, 0, none⟩), sv] t (MsgBox b 125 (.int .i16 v :: ([.int .i8 0, .slice none 0 0, .int .i32 60000, .map none] : List Value))) fun u r e' => r = .nilIface ∧ ∃ cells, e' = MsgBox b 125 (.int .i16 v :: cells) ∧ RMp u F_ElectLeadersRequest (imT F_ElectLeadersRequest v (flexB 2 v) x) cells := by
  refine ct_enter Tryz.func69 rfl Tryz.ntmps69 rfl hok hav (by simp [Ent.blk]) ?_
  refine cd_sr ?_
  refine ln_pv (pv_assign rfl) rfl ?_
  refine ln_cd ?_
  refine cd_sr ?_
  refine ln_pv (pv_move rfl) rfl ?_
  refine ln_pv (pv_move rfl) rfl ?_
  refine ln_callT (i := 0) en_137 rfl rfl (fun u hu hok hav => read_ElectLeadersRequest u b v x sv (RSv.mv hsv hu) hk h0 h1 hok hav) rfl ?_
  rintro u2 _ _ ht2 ⟨ux, ⟨rfl, cells, rfl, hM⟩, hx⟩
  refine ln_pv (pv_assign rfl) rfl ?_
  refine ln_cd ?_
  refine cd_ret ?_
  exact at_retT (i := 0) rfl rfl rfl (fun w hS => ⟨rfl, cells, rfl, (hM.mv hx).mv (hS.trFinT _ _)⟩)
theorem tellx_ElectLeadersRequest (t : Vw) (v : Int) (x : Tre) (sv : Value) (hsv : RSv t sv (partB F_ElectLeadersRequest v (flexB 2 v) x)) (hk : keysT x) (h0 : 0 ≤ v) (h1 : v ≤ 2) (hB : (partB F_ElectLeadersRequest v (flexB 2 v) x).length ≤ 1099511627776) : CA Tryz.prog 24 [.int .i64 v, sv] t fun u r => ∃ (ds : List Value), r = .tuple #[.agg ds.toArray, .bool true] ∧ RT u (tlT F_ElectLeadersRequest (imT F_ElectLeadersRequest v (flexB 2 v) x)) ds := by
  refine ca_enter Tryz.func24 rfl Tryz.ntmps24 rfl ?_
  refine cd_sr ?_
  refine ln_alloc (l := [_, _, _, _, _]) tiimpl_Tree rfl rfl (fun br => ?_)
  refine ln_pv (pv_assign rfl) rfl ?_
  refine ln_cd ?_
  refine cd_sr ?_
  refine ln_callH (E := []) (H0 := [_]) (List.Perm.refl _) en_65 rfl (fun u hu hok hav hnd => newp_ElectLeadersRequest u hok hav hnd) rfl ?_
  rintro u1 _ _ ht1 ⟨_, ⟨b, rfl, rfl⟩, _⟩
  refine ln_pv (pv_assign rfl) rfl ?_
  refine ln_cd ?_
  refine cd_sr ?_
  refine ln_pv (pv_move rfl) rfl ?_
  refine ln_pv (pv_move rfl) rfl ?_
  refine ln_pv (pv_conv' Tryz.underlying3 Tryz.underlying46 rfl (r := v) (wrap_i16_in (by omega) (by omega))) rfl ?_
  refine ln_callT (i := 0) en_68 rfl rfl (fun u hu hok hav => setd_ElectLeadersRequest u b v hok hav) rfl ?_
  rintro u2 _ _ ht2 ⟨_, rfl, _⟩
  refine ln_cd ?_
  have hsv := hsv.mv (ht1.trans ht2)
  refine cd_seq ?_
  refine cd_sr ?_
  refine ln_pv (pv_move rfl) rfl ?_
  refine ln_pv (pv_move rfl) rfl ?_
  refine ln_nilrow 5 1 ?_
  refine ln_append (i := 0) rfl Tryz.underlying22 tiuint8 rfl (by decide) rfl rfl (RS.src hsv) (by simp only [maxLen]; omega) (by omega) rfl (k' := (partB F_ElectLeadersRequest v (flexB 2 v) x).length) (xs' := u8s (partB F_ElectLeadersRequest v (flexB 2 v) x)) (by omega) (by simp) (fun va hva => ?_)
  refine ln_free1 (fun q h => h.elim) (fun s3 ht3 hK => ?_)
  have hs3 : RSv s3 va (partB F_ElectLeadersRequest v (flexB 2 v) x) := Known.rs hK (u8s_one _)
  clear hK
  refine ln_callT (i := 0) en_69 rfl rfl (fun u hu hok hav => readf_ElectLeadersRequest u b v x _ (RSv.mv hs3 hu) hk h0 h1 hok hav) rfl ?_
  rintro u4 _ _ ht4 ⟨ux4, ⟨rfl, cells, rfl, hM⟩, hx4⟩
  have hM := hM.mv hx4
  refine ln_pv (pv_neqI Tryz.underlying55 rfl) rfl ?_
  refine ln_cd ?_
  refine cd_ff rfl ?_
  refine cd_skip ?_
  refine at_cd ?_
  refine cd_free1 (fun q h => h.elim) (fun s9 hs9 hK => ?_)
  have hob : OB s9 b (.cells (.int .i16 v :: cells).toArray 125) := hK
  clear hK
  have hM := hM.mv hs9
  refine cd_sr ?_
  refine ln_pv (pv_move rfl) rfl ?_
  refine ln_callA en_70 rfl (fun u hu => tell_ElectLeadersRequest u b v (imT F_ElectLeadersRequest v (flexB 2 v) x) cells (hob.mv hu).rc (hM.mv hu) (tgT_im _ _ _ hk)) rfl (fun u7 v7 ht7 hR7 => ?_)
  obtain ⟨ds, rfl, hds⟩ := hR7
  refine ln_storeW (i := 0) rfl rfl rfl rfl tiimpl_Tree.size hds.len hds.cells ?_
  refine ln_pv (pv_assign rfl) rfl ?_
  refine ln_cd ?_
  refine cd_ret ?_
  exact at_retCA2 (i := 0) rfl rfl rfl rfl Tryz.underlying37 rfl tiimpl_Tree.size hds.len (fun w hS => ⟨ds, rfl, hds.mv hS.trFin⟩)
theorem law_ElectLeadersRequest (t : Vw) (n : Nat) (x : Tre) (cs : List Value) (hn8 : n < 256) (hx : RT t x cs) (hkx : keysT x) (hsm : smT x) (hB : (writeB F_ElectLeadersRequest 2 ((versionN n 2 : Nat) : Int) x).length < 1099511627776) : CS Tryz.prog 4 [.int .u8 (n : Int), .agg cs.toArray] t (.bool true) := by
  obtain ⟨sS, sL, sU, rfl, hn, hS, ⟨lc, hL, hLs⟩, hU⟩ := hx.open
  obtain ⟨adS, cS, rfl, hleS⟩ := hS.shape
  obtain ⟨adL, cL, rfl, hleL⟩ := hL.shape
  have hU0 := hU
  obtain ⟨uc, hU1, hUs⟩ := hU0
  obtain ⟨hz1, hz2, hz3, hz4⟩ := hsm.open
  have hok := ok_F_ElectLeadersRequest
  have hvn : versionN n 2 ≤ 2 := by have := Nat.mod_lt n (show 0 < 2 + 1 by omega); unfold versionN; omega
  refine CA.cs ?_
  refine ca_enter Tryz.func4 rfl Tryz.ntmps4 rfl ?_
  cases hft : fits1 x with
  | false =>
    refine cd_sr ?_
    refine ln_box rfl rfl rfl (fun b1 => ?_)
    refine ln_pv (pv_assign rfl) rfl ?_
    refine ln_cd ?_
    refine cd_seq ?_
    refine cd_sr ?_
    refine ln_pv (pv_ldO (i := 0) rfl Tryz.underlying26 rfl (tispec_Tree).size rfl rfl) rfl ?_
    refine ln_callS en_13 rfl (fun u hu => by have h := laws_zzFits1 u x _ (RT.mv hx hu) (by omega); rwa [hft] at h) rfl ?_
    refine ln_pv (pv_not rfl) rfl ?_
    refine ln_cd ?_
    refine cd_tt rfl ?_
    refine cd_sr ?_
    refine ln_pv (pv_assign rfl) rfl ?_
    refine ln_cd ?_
    refine cd_ret ?_
    refine at_retA rfl rfl (fun w hS => ?_)
    rfl
  | true =>
    refine cd_sr ?_
    refine ln_box rfl rfl rfl (fun b1 => ?_)
    refine ln_pv (pv_assign rfl) rfl ?_
    refine ln_cd ?_
    refine cd_seq ?_
    refine cd_sr ?_
    refine ln_pv (pv_ldO (i := 0) rfl Tryz.underlying26 rfl (tispec_Tree).size rfl rfl) rfl ?_
    refine ln_callS en_13 rfl (fun u hu => by have h := laws_zzFits1 u x _ (RT.mv hx hu) (by omega); rwa [hft] at h) rfl ?_
    refine ln_pv (pv_not rfl) rfl ?_
    refine ln_cd ?_
    refine cd_ff rfl ?_
    refine cd_skip ?_
    refine at_cd ?_
    refine cd_sr ?_
    refine ln_callS en_22 rfl (fun u hu => max_ElectLeadersRequest u) rfl ?_
    refine ln_pv (pv_assign rfl) rfl ?_
    refine ln_cd ?_
    refine cd_seq ?_
    refine cd_sr ?_
    refine ln_pv (pv_move rfl) rfl ?_
    refine ln_pv (pv_ff (pv_lss rfl rfl) (by omega)) rfl ?_
    refine ln_cd ?_
    refine cd_ff rfl ?_
    refine cd_skip ?_
    refine at_cd ?_
    refine cd_sr ?_
    refine ln_callA en_23 rfl (fun u hu => sch_F_ElectLeadersRequest u) rfl (fun u1 v1 ht1 hR1 => ?_)
    have hx := hx.mv ht1
    obtain ⟨sv, lcm, rfl, hVm, hFm⟩ := hR1
    refine ln_pv (pv_move rfl) rfl ?_
    refine ln_pv (pv_move rfl) rfl ?_
    refine ln_callS en_16 rfl (fun u hu => laws_version u n 2 hn8 (by omega)) rfl ?_
    refine ln_alloc tispec_Message rfl rfl (fun b2 => ?_)
    refine ln_storeW (i := 0) rfl rfl rfl rfl (tispec_Message).size rfl (by simp [(RS.one hVm)]) ?_
    refine ln_pv (pv_assign rfl) rfl ?_
    refine ln_cd ?_
    refine cd_sr ?_
    refine ln_pv (pv_move rfl) rfl ?_
    refine ln_pv (pv_ldO (i := 0) rfl Tryz.underlying31 rfl (tispec_Message).size rfl rfl) rfl ?_
    refine ln_pv (pv_move rfl) rfl ?_
    refine ln_pv (pv_ldO (i := 1) rfl Tryz.underlying26 rfl (tispec_Tree).size rfl rfl) rfl ?_
    refine ln_callA en_18 rfl (fun u hu => spec_Write F_ElectLeadersRequest 2 hok.1 hok.2.2 u _ _ _ ((versionN n 2 : Nat) : Int) x (RS.mv hVm hu) (RFs.mv hFm hu) (RT.mv hx hu) hsm hB) rfl (fun u2 v2 ht2 hR2 => ?_)
    have hx := hx.mv ht2
    have hVm := hVm.mv ht2
    have hFm := hFm.mv ht2
    refine ln_callA en_24 rfl (fun u hu => tellx_ElectLeadersRequest u ((versionN n 2 : Nat) : Int) x _ (RSv.mv hR2 hu) hkx (by omega) (by omega) (by rw [show partB F_ElectLeadersRequest ((versionN n 2 : Nat) : Int) (flexB 2 ((versionN n 2 : Nat) : Int)) x = writeB F_ElectLeadersRequest 2 ((versionN n 2 : Nat) : Int) x from rfl]; omega)) rfl (fun u3 v3 ht3 hR3 => ?_)
    have hx := hx.mv ht3
    have hVm := hVm.mv ht3
    have hFm := hFm.mv ht3
    have hR2 := hR2.mv ht3
    obtain ⟨ds, rfl, hT⟩ := hR3
    refine ln_pv (pv_move rfl) rfl ?_
    refine ln_pv (pv_extract rfl rfl) rfl ?_
    refine ln_pv (pv_extract rfl rfl) rfl ?_
    refine ln_alloc tiimpl_Tree rfl rfl (fun b3 => ?_)
    refine ln_storeW (i := 0) rfl rfl rfl rfl (tiimpl_Tree).size hT.len hT.cells ?_
    refine ln_pv (pv_assign rfl) rfl ?_
    refine ln_cd ?_
    refine cd_dr' [0, 1, 2] [1, 2, 3, 4, 5, 6, 8, 9, 12, 13] [0, 1, 2, 3, 4, 5, 6, 8, 9, 7, 10, 11, 12, 13] mixed (by kernel_rfl) ?_
    refine lo_eff rfl rfl ?_
    refine ln_pv (pv_move rfl) rfl ?_
    refine lo_back (sk_js (Tr.refl _) [0, 1, 2] rfl) ?_
    refine lo_pv rfl rfl (sk_js (Tr.refl _) [0, 1, 2] rfl) (pv_move rfl) rfl ?_
    refine lo_gt rfl rfl (sk_js (Tr.refl _) [0, 1, 2] rfl) rfl rfl rfl (pv_fieldAddr (off := 0) (r := 0) Tryz.underlying31 rfl (tiSl_spec_Field).size rfl rfl rfl) rfl ?_
    refine lo_gt rfl rfl (sk_js (Tr.refl _) [0, 1, 2] rfl) rfl rfl rfl (pv_ldo (i := 1) rfl Tryz.underlying29 rfl rfl rfl) rfl ?_
    refine lo_gt rfl rfl (sk_js (Tr.refl _) [0, 1, 2] rfl) rfl rfl rfl (pv_move rfl) rfl ?_
    refine lo_gt rfl rfl (sk_js (Tr.refl _) [0, 1, 2] rfl) rfl rfl rfl (pv_ldO (i := 1) rfl Tryz.underlying31 rfl (tispec_Message).size rfl rfl) rfl ?_
    refine lo_gt rfl rfl (sk_js (Tr.refl _) [0, 1, 2] rfl) rfl rfl rfl (pv_move rfl) rfl ?_
    refine lo_gt rfl rfl (sk_js (Tr.refl _) [0, 1, 2] rfl) rfl rfl rfl (pv_ldO (i := 2) rfl Tryz.underlying26 rfl (tispec_Tree).size rfl rfl) rfl ?_
    refine lo_gt rfl rfl (sk_js (Tr.refl _) [0, 1, 2] rfl) rfl rfl rfl (pv_ldO (i := 0) rfl Tryz.underlying37 rfl (tiimpl_Tree).size rfl hT.len) rfl ?_
    refine lo_eff rfl rfl ?_
    refine ln_gE rfl rfl rfl ?_
    refine ln_callS en_20 rfl (fun u hu => spec_Flexible u _ _ _ 2 ((versionN n 2 : Nat) : Int) (RS.mv hVm hu)) rfl ?_
    refine lo_back (sk_js (Tr.refl _) [0, 1, 2] rfl) ?_
    refine lo_eff rfl rfl ?_
    refine ln_gE rfl rfl rfl ?_
    refine ln_callA en_21 rfl (fun u hu => laws_got (tlT F_ElectLeadersRequest (imT F_ElectLeadersRequest ((versionN n 2 : Nat) : Int) (flexB 2 ((versionN n 2 : Nat) : Int)) x)) u _ (RT.mv hT hu) (smT_tlT hok.1 (by decide) (tgT_im _ _ _ hkx))) rfl (fun u4 v4 ht4 hR4 => ?_)
    have hx := hx.mv ht4
    have hVm := hVm.mv ht4
    have hFm := hFm.mv ht4
    have hR2 := hR2.mv ht4
    have hT := hT.mv ht4
    obtain ⟨dg, rfl, hG⟩ := hR4
    refine lo_back (sk_js ht4 [0, 1, 2] rfl) ?_
    refine lo_eff rfl rfl ?_
    refine ln_gE rfl rfl rfl ?_
    refine ln_callS en_19 rfl (fun u hu => spec_Told F_ElectLeadersRequest hok.1 (by kernel_rfl) (by decide) u _ _ _ _ _ _ x _ (RS.mv hVm hu) (RFs.mv hFm hu) (RT.mv hx hu) hsm (RT.mv hG hu) (smT_tlT hok.1 (by decide) (tgT_im _ _ _ hkx)) (toT_im F_ElectLeadersRequest _ _ (by kernel_rfl) hx.nT)) rfl ?_
    refine lo_back (sk_js ht4 [0, 1, 2] rfl) ?_
    refine lo_pv rfl rfl (sk_js ht4 [0, 1, 2] rfl) (pv_pick rfl (fun _ => rfl) (fun _ => rfl)) rfl ?_
    refine lo_pv rfl rfl (sk_js ht4 [0, 1, 2] rfl) (pv_assign rfl) rfl ?_
    refine lo_cd ?_
    refine cd_ret ?_
    refine at_retA rfl rfl (fun w hS => ?_)
    rfl
theorem fn_ElectLeadersRequest (t : Vw) (n : Nat) (x : Tre) (cs : List Value) (hn : n < 256) (hx : RT t x cs) (hw : wt x ≤ 1048576) : CS Tryz.prog 4 [.int .u8 (n : Int), .agg cs.toArray] t (.bool true) := by
  have hok := ok_F_ElectLeadersRequest
  exact law_ElectLeadersRequest t n x cs hn hx hx.keys (smT_wt x (by omega)) (writeB_len _ _ _ x hok.1 hx.keys hw (of_decide_eq_true (by kernel_rfl)))
end K
end Go.Proofs.YtekafeogilbjmaaGreatDoor
