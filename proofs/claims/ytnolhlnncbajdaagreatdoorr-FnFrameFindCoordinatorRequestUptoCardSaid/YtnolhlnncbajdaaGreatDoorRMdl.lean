import Derived.Test.YtnolhlnncbajdaaGreatDoorRW4
import Derived.Test.YtnolhlnncbajdaaGreatDoorRMdp
import Derived.Test.YtnolhlnncbajdaaGreatDoorRP4
import Derived.Test.YtnolhlnncbajdaaGreatDoorRS10
set_option linter.unusedVariables false
set_option linter.unusedSimpArgs false
namespace Go.Proofs.YtnolhlnncbajdaaGreatDoorR
namespace K
open Go Go.Lib
theorem df_FindCoordinatorRequest (z0 z1 z2 z3 z4 : Value) : DfC 68 [z0, z1, z2, z3, z4] [z0, z1, z2, z3, z4] := by
  intro mk b o hT t hok hav
  refine ct_enter Tryz.func68 rfl Tryz.ntmps68 rfl hok hav (by rw [hT.blk]; simp) ?_
  refine cd_skip ?_
  exact at_retT0 (i := 0) rfl rfl (fun w hS => ⟨rfl, rfl⟩)
theorem read_FindCoordinatorRequest (t : Vw) (b : Nat) (v : Int) (x : Tre) (sv : Value) (hsv : RSv t sv (partB F_FindCoordinatorRequest v (flexB 3 v) x)) (hk : keysT x) (h0 : 0 ≤ v) (h1 : v ≤ 6) (hok : (MsgBox b 100 (.int .i16 v :: ([.string .empty, .int .i8 0, .slice none 0 0, .map none] : List Value))).ok t.w) (hav : ∀ q ∈ (MsgBox b 100 (.int .i16 v :: ([.string .empty, .int .i8 0, .slice none 0 0, .map none] : List Value))).blk, t.av q) : CT Tryz.prog 69 [.pointer (some ⟨b, 0, none⟩), sv, .bool false] t (MsgBox b 100 (.int .i16 v :: ([.string .empty, .int .i8 0, .slice none 0 0, .map none] : List Value))) fun u r e' => r = .nilIface ∧ ∃ cells, e' = MsgBox b 100 (.int .i16 v :: cells) ∧ RMp u F_FindCoordinatorRequest (imT F_FindCoordinatorRequest v (flexB 3 v) x) cells := by
  have hv0 := h0
  have hnt : ntFs F_FindCoordinatorRequest = true := by kernel_rfl
  generalize hqd : flexB 3 v = q at *
  have hq0 : decide (v ≥ 3) = q := by rw [← hqd]; simp [flexB]
  obtain ⟨adS, cS, rfl, hcS⟩ := RSv.shape hsv
  refine ct_enter Tryz.func69 rfl Tryz.ntmps69 rfl hok hav (by simp [Ent.blk]) ?_
  refine cd_sq ?_
  refine rg_const rfl ?_
  refine at_cd ?_
  refine cd_sr ?_
  refine ln_pv (pv_move rfl) rfl ?_
  refine ln_callT (i := 0) (vals := [.pointer (some ⟨b, 0, none⟩)]) en_68 rfl rfl (fun u hu hok hav => df_FindCoordinatorRequest _ _ _ _ _ (fun w => .obj b (.cells w.toArray 100)) b 0 (Tgt.obj b 100 5) u hok hav) rfl ?_
  rintro u1 _ _ ht1 ⟨ux1, ⟨rfl, rfl⟩, hx1⟩
  refine ln_cd ?_
  refine cd_sr ?_
  refine ln_pv (pv_move rfl) rfl ?_
  refine ln_pv (pv_struct [(0, 1), (1, 1)] (l := [_, _]) rfl Tryz.underlying108 tipub_kmsg_inner_kbin_Reader (by kernel_rfl) rfl rfl) rfl ?_
  refine ln_alloc (l := [.slice none 0 0, .bool false]) tipub_kmsg_inner_kbin_Reader rfl rfl (fun br => ?_)
  refine ln_storeW (i := 0) (vs := [_, .bool false]) rfl rfl rfl rfl tipub_kmsg_inner_kbin_Reader.size rfl (by simp) ?_
  refine ln_cd ?_
  refine cd_sr ?_
  refine ln_pv (pv_move rfl) rfl ?_
  refine ln_pv (pv_nilCheck rfl) rfl ?_
  refine ln_pv (pv_fieldAddr (off := 0) (r := 0) Tryz.underlying100 rfl tiint16.size rfl rfl rfl) rfl ?_
  refine ln_pv (pv_ldo (i := 1) (v := .int .i16 v) rfl Tryz.underlying45 rfl rfl rfl) rfl ?_
  refine ln_pv (pv_assign rfl) rfl ?_
  refine ln_cd ?_
  refine cd_sq ?_
  refine rg_blank rfl rfl ?_
  refine at_cd ?_
  refine cd_sr ?_
  refine ln_pv (pv_move rfl) rfl ?_
  refine ln_pv (pv_geq rfl rfl) rfl ?_
  refine ln_pv (pv_assign rfl) rfl ?_
  rw [hq0]
  refine ln_cd ?_
  refine cd_sq ?_
  refine rg_blank rfl rfl ?_
  refine at_cd ?_
  refine cd_sr ?_
  refine ln_pv (pv_move rfl) rfl ?_
  refine ln_pv (pv_assign rfl) rfl ?_
  refine ln_cd ?_
  refine cd_sub_ (L' := [(10, .pointer (some ⟨b, 0, none⟩)), (9, .bool q), (8, .int .i16 v), (7, .pointer (some ⟨br, 0, none⟩)), (2, .bool false)]) (.put rfl (.put rfl (.put rfl (.put rfl (.put rfl .nil))))) ?_
  obtain ⟨mk, hmk⟩ : ∃ mk : List Value → Ent, mk = fun w => MsgBox b 100 (.int .i16 v :: w) := ⟨_, rfl⟩
  have hT : Tgt mk b 1 4 := by rw [hmk]; exact Tgt.behind b 100 _ 4
  refine cd_eqH (H' := [RdE br _, mk ([] ++ ([.string .empty, .int .i8 0, .slice none 0 0, .map none] : List Value))]) (by rw [hmk]; rfl) ?_
  have hR : Rs u1 [.mk 8 0 3 (-1) (-1) 0 0 [], .mk 1 1 (-1) (-1) (-1) 0 0 [], .mk 11 4 (-1) (-1) (-1) 0 8 []] [] v q x (imT F_FindCoordinatorRequest v q x) (tgsB q x ++ []) _ [] := Rs.start (F := F_FindCoordinatorRequest) (RSv.part hnt (by rw [List.append_nil]; exact RSv.mv hsv ht1)) hnt
  refine cd_sq ?_
  refine st_if2 (zc := ([.string .empty] : List Value)) (zs := ([.int .i8 0, .slice none 0 0, .map none] : List Value)) rfl rfl hR (hasB_to (by decide)) (fun u => df_str u (by decide)) rfl (fun u1 v1 done1 ht1 hR => ?_) (fun hh kk => ?_)
  rotate_left
  · skip
    refine cd_sq ?_
    refine rg_const rfl ?_
    refine at_cd ?_
    exact st_str (z := .string .empty) hR hh rfl rfl rfl en_77 en_78 (fun h => Fc.of (by decide) (by decide) (by decide) (sc_cstr _ h _)) (fun h => Fc.of (by decide) (by decide) (by decide) (sc_str _ h _)) rfl hT rfl Tryz.underlying100 rfl tistring.size rfl (po_eq (show 1 = 1 + fszs _ by kernel_rfl)) tistring.size rfl rfl rfl rfl rfl kk
  refine at_cd ?_
  refine cd_sq ?_
  refine st_if (zc := ([.int .i8 0] : List Value)) (zs := ([.slice none 0 0, .map none] : List Value)) rfl rfl hR (hasB_from) (fun u => df_i8 u (by decide)) rfl (fun u2 v2 done2 ht2 hR => ?_) (fun hh kk => ?_)
  rotate_left
  · skip
    exact st_num (z := .int .i8 0) hR hh rfl en_95 (Fc.num (by decide) (by decide) (by decide) (fun null => sc_i8 null _ _)) rfl hT rfl Tryz.underlying100 rfl tiint8.size rfl (po_eq (show 2 = 1 + fszs _ by kernel_rfl)) tiint8.size rfl rfl kk
  refine at_cd ?_
  refine cd_sq ?_
  refine st_if (zc := ([.slice none 0 0] : List Value)) (zs := ([.map none] : List Value)) rfl rfl hR (hasB_from) (fun u => df_list u) rfl (fun u3 v3 done3 ht3 hR => ?_) (fun hh kk => ?_)
  rotate_left
  · skip
    refine st_list (zc := ([.string .empty] : List Value)) hR hh (by decide) rfl rfl rfl hT rfl Tryz.underlying100 rfl tiSl_string.size rfl (po_eq (show 3 = 1 + fszs _ by kernel_rfl)) tiSl_string.size Tryz.underlying95 Tryz.underlying21 tistring rfl rfl (by kernel_rfl) (by decide) (by decide) (fun q hq => .inl (by simpa [Ent.blk] using hq)) (fun z => by simp only [valueB]; rw [if_neg (by decide)]; exact scalar_pos _ _ _ _) rfl rfl rfl rfl rfl rfl rfl rfl rfl rfl rfl rfl rfl (keysT.at_ hk _) (fun gb4 cap4 m4 i4 x4 u4 v4 xs4 rest4 N4 X4 hi4 hm4 hk4 ht4 hxl4 hv4 kb4 => ?_) kk
    refine cd_sq ?_
    refine rg_const rfl ?_
    refine at_cd ?_
    refine st_elemS (by decide) rfl rfl rfl en_77 en_78 (fun h => sc_cstr _ h _) (fun h => sc_str _ h _) hv4 rfl rfl hi4 (by rw [hxl4]) (by simp) Tryz.underlying95 tistring.size rfl rfl rfl rfl rfl (fun u v c ht hE hv => ?_)
    exact kb4 _ _ _ ht hE hv
  refine at_cd ?_
  refine cd_sq ?_
  refine st_tags (F := F_FindCoordinatorRequest) hnt hR (keysT.open hk).1 rfl rfl rfl hT rfl Tryz.underlying100 rfl tipub_kmsg_Tags.size rfl (po_eq (show 4 = 1 + fszs _ by kernel_rfl)) tipub_kmsg_Tags.size rfl rfl (fun u5 v5 cs5 ht5 hv hM => ?_)
  refine at_cd ?_
  refine cd_sr ?_
  refine ln_callT (i := 0) (vals := [.pointer (some ⟨br, 0, none⟩)]) en_82 rfl rfl (fun u hu hok hav => rd_Complete u br _ hok hav) rfl ?_
  rintro u9 _ _ ht9 ⟨ux9, ⟨rfl, rfl⟩, hx9⟩
  refine ln_pv (pv_assign rfl) rfl ?_
  refine ln_cd ?_
  refine cd_ret ?_
  exact at_retT (i := 1) rfl rfl rfl (fun w hS => ⟨rfl, _, by rw [hmk], (hM.mv ht9).mv (hS.trFinT _ _)⟩)
theorem newp_FindCoordinatorRequest (t : Vw) (hok : HF [] t.w) (hav : ∀ q ∈ blks [], t.av q) (hnd : (blks []).Nodup) : CH Tryz.prog 44 [] t [] fun u r E' => ∃ b, r = .pointer (some ⟨b, 0, none⟩) ∧ E' = [MsgBox b 100 [.int .i16 0, .string .empty, .int .i8 0, .slice none 0 0, .map none]] := by
  refine ch_enter Tryz.func44 rfl Tryz.ntmps44 rfl hok hav hnd ?_
  refine cd_sr ?_
  refine ln_pv (pv_assign rfl) rfl ?_
  refine ln_cd ?_
  refine cd_sr ?_
  refine ln_alloc tipub_kmsg_FindCoordinatorRequest rfl rfl (fun b => ?_)
  refine ln_cd ?_
  refine cd_sr ?_
  refine ln_callT (i := 0) en_68 rfl rfl (fun u hu hok hav => df_FindCoordinatorRequest _ _ _ _ _ (fun w => .obj b (.cells w.toArray 100)) b 0 (Tgt.obj b 100 5) u hok hav) rfl ?_
  rintro u1 _ _ ht1 ⟨_, ⟨rfl, rfl⟩, _⟩
  refine ln_cd ?_
  refine cd_sr ?_
  refine ln_pv (pv_assign rfl) rfl ?_
  refine ln_cd ?_
  refine cd_ret ?_
  exact at_retHq [MsgBox b 100 [.int .i16 0, .string .empty, .int .i8 0, .slice none 0 0, .map none]] (List.Sublist.refl _) rfl rfl (fun w hS => ⟨b, rfl, rfl⟩)
theorem setd_FindCoordinatorRequest (t : Vw) (b : Nat) (v : Int) (hok : (MsgBox b 100 [.int .i16 0, .string .empty, .int .i8 0, .slice none 0 0, .map none]).ok t.w) (hav : ∀ q ∈ (MsgBox b 100 [.int .i16 0, .string .empty, .int .i8 0, .slice none 0 0, .map none]).blk, t.av q) : CT Tryz.prog 46 [.pointer (some ⟨b, 0, none⟩), .int .i16 v] t (MsgBox b 100 [.int .i16 0, .string .empty, .int .i8 0, .slice none 0 0, .map none]) fun u r e' => e' = MsgBox b 100 [.int .i16 v, .string .empty, .int .i8 0, .slice none 0 0, .map none] := by
  refine ct_enter Tryz.func46 rfl Tryz.ntmps46 rfl hok hav (by simp [Ent.blk]) ?_
  refine cd_region ?_
  refine ln_pv (pv_move rfl) rfl ?_
  refine ln_pv (pv_move rfl) rfl ?_
  refine ln_pv (pv_nilCheck rfl) rfl ?_
  refine ln_pv (pv_fieldAddr (off := 0) (r := 0) Tryz.underlying100 rfl (tiint16).size rfl rfl rfl) rfl ?_
  refine ln_store1 (i := 0) rfl rfl rfl rfl (tiint16).size rfl ?_
  refine ln_nil ?_
  exact at_retT0 (i := 0) rfl rfl (fun w hS => rfl)
theorem readf_FindCoordinatorRequest (t : Vw) (b : Nat) (v : Int) (x : Tre) (sv : Value) (hsv : RSv t sv (partB F_FindCoordinatorRequest v (flexB 3 v) x)) (hk : keysT x) (h0 : 0 ≤ v) (h1 : v ≤ 6) (hok : (MsgBox b 100 (.int .i16 v :: ([.string .empty, .int .i8 0, .slice none 0 0, .map none] : List Value))).ok t.w) (hav : ∀ q ∈ (MsgBox b 100 (.int .i16 v :: ([.string .empty, .int .i8 0, .slice none 0 0, .map none] : List Value))).blk, t.av q) : CT Tryz.prog 47 [.pointer (some ⟨b, 0, none⟩), sv] t (MsgBox b 100 (.int .i16 v :: ([.string .empty, .int .i8 0, .slice none 0 0, .map none] : List Value))) fun u r e' => r = .nilIface ∧ ∃ cells, e' = MsgBox b 100 (.int .i16 v :: cells) ∧ RMp u F_FindCoordinatorRequest (imT F_FindCoordinatorRequest v (flexB 3 v) x) cells := by
  refine ct_enter Tryz.func47 rfl Tryz.ntmps47 rfl hok hav (by simp [Ent.blk]) ?_
  refine cd_sr ?_
  refine ln_pv (pv_assign rfl) rfl ?_
  refine ln_cd ?_
  refine cd_sr ?_
  refine ln_pv (pv_move rfl) rfl ?_
  refine ln_pv (pv_move rfl) rfl ?_
  refine ln_callT (i := 0) en_69 rfl rfl (fun u hu hok hav => read_FindCoordinatorRequest u b v x sv (RSv.mv hsv hu) hk h0 h1 hok hav) rfl ?_
  rintro u2 _ _ ht2 ⟨ux, ⟨rfl, cells, rfl, hM⟩, hx⟩
  refine ln_pv (pv_assign rfl) rfl ?_
  refine ln_cd ?_
  refine cd_ret ?_
  exact at_retT (i := 0) rfl rfl rfl (fun w hS => ⟨rfl, cells, rfl, (hM.mv hx).mv (hS.trFinT _ _)⟩)
theorem key_FindCoordinatorRequest (t : Vw) (b : Nat) : CS Tryz.prog 183 [.pointer (some ⟨b, 0, none⟩)] t (.int .i16 10) := by
  refine CA.cs ?_
  refine ca_enter Tryz.func183 rfl Tryz.ntmps183 rfl ?_
  refine cd_sr ?_
  refine ln_pv (pv_assign rfl) rfl ?_
  refine ln_cd ?_
  refine cd_sr ?_
  refine ln_pv (pv_assign rfl) rfl ?_
  refine ln_cd ?_
  refine cd_ret ?_
  refine at_retA rfl rfl (fun w hS => ?_)
  rfl
theorem getv_FindCoordinatorRequest (t : Vw) (b : Nat) (v : Int) (cs : List Value) (hrc : RC t b 0 (.int .i16 v :: cs)) : CS Tryz.prog 181 [.pointer (some ⟨b, 0, none⟩)] t (.int .i16 v) := by
  refine CA.cs ?_
  refine ca_enter Tryz.func181 rfl Tryz.ntmps181 rfl ?_
  refine cd_sr ?_
  refine ln_pv (pv_assign rfl) rfl ?_
  refine ln_cd ?_
  refine cd_sr ?_
  refine ln_pv (pv_move rfl) rfl ?_
  refine ln_pv (pv_nilCheck rfl) rfl ?_
  refine ln_pv (pv_fieldAddr (off := 0)  Tryz.underlying100 rfl (tiint16).size rfl rfl rfl) rfl ?_
  refine ln_pv (pv_ldr (j := 0) hrc Tryz.underlying45 rfl rfl rfl) rfl ?_
  refine ln_pv (pv_assign rfl) rfl ?_
  refine ln_cd ?_
  refine cd_ret ?_
  refine at_retA rfl rfl (fun w hS => ?_)
  rfl
theorem isfl_FindCoordinatorRequest (t : Vw) (b : Nat) (v : Int) (cs : List Value) (hrc : RC t b 0 (.int .i16 v :: cs)) : CS Tryz.prog 182 [.pointer (some ⟨b, 0, none⟩)] t (.bool (flexB 3 v)) := by
  refine CA.cs ?_
  refine ca_enter Tryz.func182 rfl Tryz.ntmps182 rfl ?_
  refine cd_sr ?_
  refine ln_pv (pv_assign rfl) rfl ?_
  refine ln_cd ?_
  refine cd_sr ?_
  refine ln_pv (pv_move rfl) rfl ?_
  refine ln_pv (pv_nilCheck rfl) rfl ?_
  refine ln_pv (pv_fieldAddr (off := 0)  Tryz.underlying100 rfl (tiint16).size rfl rfl rfl) rfl ?_
  refine ln_pv (pv_ldr (j := 0) hrc Tryz.underlying45 rfl rfl rfl) rfl ?_
  refine ln_pv (pv_geq rfl rfl) rfl ?_
  refine ln_pv (pv_assign rfl) rfl ?_
  refine ln_cd ?_
  refine cd_ret ?_
  refine at_retA rfl rfl (fun w hS => ?_)
  simp [flexB]
theorem mt_Key_FindCoordinatorRequest : MtOf Tryz.prog 63 "Key" 183 := mt_of (b := true) (by kernel_rfl) Tryz.underlying63 rfl
theorem mt_GetVersion_FindCoordinatorRequest : MtOf Tryz.prog 63 "GetVersion" 181 := mt_of (b := true) (by kernel_rfl) Tryz.underlying63 rfl
theorem mt_IsFlexible_FindCoordinatorRequest : MtOf Tryz.prog 63 "IsFlexible" 182 := mt_of (b := true) (by kernel_rfl) Tryz.underlying63 rfl
theorem mt_AppendTo_FindCoordinatorRequest : MtOf Tryz.prog 63 "AppendTo" 180 := mt_of (b := true) (by kernel_rfl) Tryz.underlying63 rfl
theorem rq_FindCoordinatorRequest (t : Vw) (b : Nat) (v : Int) (x : Tre) (cells : List Value) (hob : OB t b (.cells (.int .i16 v :: cells).toArray 100)) (hM : RMp t F_FindCoordinatorRequest (imT F_FindCoordinatorRequest v (flexB 3 v) x) cells) (hk : keysT x) (h0 : 0 ≤ v) (h1 : v ≤ 6) : Rq t 63 b 10 v (flexB 3 v) (partB F_FindCoordinatorRequest v (flexB 3 v) x) := by
  have him := partB_im (fs := F_FindCoordinatorRequest) (by kernel_rfl) (by kernel_rfl) v (flexB 3 v) x
  have hfit := okP_im (fs := F_FindCoordinatorRequest) (by kernel_rfl) (by kernel_rfl) v (flexB 3 v) x hk
  refine ⟨⟨_, mt_Key_FindCoordinatorRequest, en_183, fun u hu => key_FindCoordinatorRequest u b⟩, ⟨_, mt_GetVersion_FindCoordinatorRequest, en_181, fun u hu => getv_FindCoordinatorRequest u b v cells (hob.mv hu).rc⟩, ⟨_, mt_IsFlexible_FindCoordinatorRequest, en_182, fun u hu => isfl_FindCoordinatorRequest u b v cells (hob.mv hu).rc⟩, ⟨_, mt_AppendTo_FindCoordinatorRequest, en_180, fun u hu vd L0 hB hok hav => ?_⟩⟩
  have h := append_FindCoordinatorRequest u b v (imT F_FindCoordinatorRequest v (flexB 3 v) x) cells vd L0 (hob.mv hu).rc (hM.mv hu) hfit h0 h1 (by rw [him]; exact hB) hok hav
  rwa [him] at h
theorem frame_FindCoordinatorRequest (t : Vw) (v num : Int) (has : Bool) (z : ByteArray) (x : Tre) (sv : Value) (hsv : RSv t sv (partB F_FindCoordinatorRequest v (flexB 3 v) x)) (hk : keysT x) (h0 : 0 ≤ v) (h1 : v ≤ 6) (hz : z.size ≤ 32767) (hB : (partB F_FindCoordinatorRequest v (flexB 3 v) x).length ≤ 1099511627776) : CA Tryz.prog 25 [.agg [.bool has, .string z].toArray, .int .i32 num, .int .i64 v, sv] t fun u r => ∃ rv, r = .tuple #[rv, .bool true] ∧ RSv u rv (frB 10 v num (idsB has z) (flexB 3 v) (partB F_FindCoordinatorRequest v (flexB 3 v) x)) := by
  refine ca_enter Tryz.func25 rfl Tryz.ntmps25 rfl ?_
  refine cd_sr ?_
  refine ln_box (l := [_, _]) rfl rfl rfl (fun bi => ?_)
  refine ln_pv (pv_assign rfl) rfl ?_
  refine ln_pv (pv_assign rfl) rfl ?_
  refine ln_cd ?_
  refine cd_sr ?_
  refine ln_callH (E := []) (H0 := [_]) (List.Perm.refl _) en_44 rfl (fun u hu hok hav hnd => newp_FindCoordinatorRequest u hok hav hnd) rfl ?_
  rintro u1 _ _ ht1 ⟨_, ⟨b, rfl, rfl⟩, _⟩
  refine ln_pv (pv_assign rfl) rfl ?_
  refine ln_cd ?_
  refine cd_sr ?_
  refine ln_pv (pv_move rfl) rfl ?_
  refine ln_pv (pv_move rfl) rfl ?_
  refine ln_pv (pv_conv' Tryz.underlying3 Tryz.underlying45 rfl (r := v) (wrap_i16_in (by omega) (by omega))) rfl ?_
  refine ln_callT (i := 0) en_46 rfl rfl (fun u hu hok hav => setd_FindCoordinatorRequest u b v hok hav) rfl ?_
  rintro u2 _ _ ht2 ⟨_, rfl, _⟩
  refine ln_cd ?_
  have hsv := hsv.mv (ht1.trans ht2)
  refine cd_seq ?_
  refine cd_sr ?_
  refine ln_pv (pv_move rfl) rfl ?_
  refine ln_pv (pv_move rfl) rfl ?_
  refine ln_nilrow 5 1 ?_
  refine ln_append (i := 0) rfl Tryz.underlying24 tiuint8 rfl (by decide) rfl rfl (RS.src hsv) (by simp only [maxLen]; omega) (by omega) rfl (k' := (partB F_FindCoordinatorRequest v (flexB 3 v) x).length) (xs' := u8s (partB F_FindCoordinatorRequest v (flexB 3 v) x)) (by omega) (by simp) (fun va hva => ?_)
  refine ln_free1 (fun q h => h.elim) (fun s3 ht3 hK => ?_)
  have hs3 : RSv s3 va (partB F_FindCoordinatorRequest v (flexB 3 v) x) := Known.rs hK (u8s_one _)
  clear hK
  refine ln_callT (i := 0) en_47 rfl rfl (fun u hu hok hav => readf_FindCoordinatorRequest u b v x _ (RSv.mv hs3 hu) hk h0 h1 hok hav) rfl ?_
  rintro u4 _ _ ht4 ⟨ux4, ⟨rfl, cells, rfl, hM⟩, hx4⟩
  have hM := hM.mv hx4
  refine ln_pv (pv_neqI Tryz.underlying55 rfl) rfl ?_
  refine ln_cd ?_
  refine cd_ff rfl ?_
  refine cd_skip ?_
  refine at_cd ?_
  refine cd_free (fun s9 hs9 hK => ?_)
  have hob : OB s9 b (.cells (.int .i16 v :: cells).toArray 100) := hK _ (List.mem_of_getElem? (i := 0) rfl)
  have hoi : OB s9 bi (.cells [.bool has, .string z].toArray 23) := hK _ (List.mem_of_getElem? (i := 1) rfl)
  clear hK
  have hM := hM.mv hs9
  refine cd_sr ?_
  refine ln_pv (pv_ldR hoi.rc Tryz.underlying23 rfl tiimpl_Id.size rfl rfl) rfl ?_
  refine ln_pv (pv_move rfl) rfl ?_
  refine ln_pv (pv_ifaceP Tryz.underlying63 rfl) rfl ?_
  refine ln_pv (pv_move rfl) rfl ?_
  refine ln_callA en_33 rfl (fun u hu => framed u _ b 10 v num (flexB 3 v) has z _ ((rq_FindCoordinatorRequest s9 b v x cells hob hM hk h0 h1).mv hu) (by decide) (by rw [strB_len]; exact hz) hB) rfl (fun u5 v5 ht5 hR5 => ?_)
  refine ln_pv (pv_assign rfl) rfl ?_
  refine ln_pv (pv_assign rfl) rfl ?_
  refine ln_cd ?_
  refine cd_ret ?_
  exact at_retA2 (K := 0) rfl rfl rfl (fun w hS => ⟨v5, rfl, RSv.mv hR5 hS.trFin⟩)
theorem law_FindCoordinatorRequest (t : Vw) (n : Nat) (has : Bool) (z : ByteArray) (num : Int) (x : Tre) (cs : List Value) (hn8 : n < 256) (hz : z.size ≤ 1048576) (hn0 : -2147483648 ≤ num) (hn1 : num ≤ 2147483647) (hx : RT t x cs) (hkx : keysT x) (hsm : smT x) (hB : (writeB F_FindCoordinatorRequest 3 ((versionN n 6 : Nat) : Int) x).length < 1099511627776) : CS Tryz.prog 6 [.int .u8 (n : Int), .agg #[.bool has, .string z], .int .i32 num, .agg cs.toArray] t (.bool true) := by
  obtain ⟨sS, sL, sU, rfl, hn, hS, ⟨lc, hL, hLs⟩, hU⟩ := hx.open
  obtain ⟨adS, cS, rfl, hleS⟩ := hS.shape
  obtain ⟨adL, cL, rfl, hleL⟩ := hL.shape
  have hU0 := hU
  obtain ⟨uc, hU1, hUs⟩ := hU0
  obtain ⟨hz1, hz2, hz3, hz4⟩ := hsm.open
  have hok := ok_F_FindCoordinatorRequest
  have hvn : versionN n 6 ≤ 6 := by have := Nat.mod_lt n (show 0 < 6 + 1 by omega); unfold versionN; omega
  refine CA.cs ?_
  refine ca_enter Tryz.func6 rfl Tryz.ntmps6 rfl ?_
  cases hft : fits1 x with
  | false =>
    refine cd_sr ?_
    refine ln_box rfl rfl rfl (fun b1 => ?_)
    refine ln_box rfl rfl rfl (fun b2 => ?_)
    refine ln_pv (pv_assign rfl) rfl ?_
    refine ln_cd ?_
    refine cd_seq ?_
    refine cd_sr ?_
    refine ln_pv (pv_ldO (i := 1) rfl Tryz.underlying23 rfl (tiimpl_Id).size rfl rfl) rfl ?_
    refine ln_callS en_7 rfl (fun u hu => laws_zzFits4 u has z hz) rfl ?_
    refine ln_pv (pv_not rfl) rfl ?_
    refine ln_pv (pv_move rfl) rfl ?_
    refine ln_gt rfl rfl rfl (pv_ldO (i := 0) rfl Tryz.underlying28 rfl (tispec_Tree).size rfl rfl) rfl ?_
    refine ln_gE rfl rfl rfl ?_
    refine ln_callS en_8 rfl (fun u hu => by have h := laws_zzFits1 u x _ (RT.mv hx hu) (by omega); rwa [hft] at h) rfl ?_
    refine ln_gt rfl rfl rfl (pv_not rfl) rfl ?_
    refine ln_pv (pv_pick rfl (fun _ => rfl) (fun _ => rfl)) rfl ?_
    refine ln_cd ?_
    refine cd_tt rfl ?_
    refine cd_sr ?_
    refine ln_pv (pv_assign rfl) rfl ?_
    refine ln_cd ?_
    refine cd_ret ?_
    refine at_retA rfl rfl (fun w hS => ?_)
    rfl
  | true =>
    by_cases hbig : z.size > 32767
    · skip
      refine cd_sr ?_
      refine ln_box rfl rfl rfl (fun b1 => ?_)
      refine ln_box rfl rfl rfl (fun b2 => ?_)
      refine ln_pv (pv_assign rfl) rfl ?_
      refine ln_cd ?_
      refine cd_seq ?_
      refine cd_sr ?_
      refine ln_pv (pv_ldO (i := 1) rfl Tryz.underlying23 rfl (tiimpl_Id).size rfl rfl) rfl ?_
      refine ln_callS en_7 rfl (fun u hu => laws_zzFits4 u has z hz) rfl ?_
      refine ln_pv (pv_not rfl) rfl ?_
      refine ln_pv (pv_move rfl) rfl ?_
      refine ln_gt rfl rfl rfl (pv_ldO (i := 0) rfl Tryz.underlying28 rfl (tispec_Tree).size rfl rfl) rfl ?_
      refine ln_gE rfl rfl rfl ?_
      refine ln_callS en_8 rfl (fun u hu => by have h := laws_zzFits1 u x _ (RT.mv hx hu) (by omega); rwa [hft] at h) rfl ?_
      refine ln_gt rfl rfl rfl (pv_not rfl) rfl ?_
      refine ln_pv (pv_pick rfl (fun _ => rfl) (fun _ => rfl)) rfl ?_
      refine ln_cd ?_
      refine cd_ff rfl ?_
      refine cd_skip ?_
      refine at_cd ?_
      refine cd_sr ?_
      refine ln_callS en_23 rfl (fun u hu => max_FindCoordinatorRequest u) rfl ?_
      refine ln_pv (pv_assign rfl) rfl ?_
      refine ln_cd ?_
      refine cd_seq ?_
      refine cd_sr ?_
      refine ln_pv (pv_move rfl) rfl ?_
      refine ln_pv (pv_ff (pv_lss rfl rfl) (by omega)) rfl ?_
      refine ln_cd ?_
      refine cd_ff rfl ?_
      refine cd_skip ?_
      refine at_cd ?_
      refine cd_sr ?_
      refine ln_callA en_24 rfl (fun u hu => sch_F_FindCoordinatorRequest u) rfl (fun u1 v1 ht1 hR1 => ?_)
      have hx := hx.mv ht1
      obtain ⟨sv, lcm, rfl, hVm, hFm⟩ := hR1
      refine ln_pv (pv_move rfl) rfl ?_
      refine ln_pv (pv_move rfl) rfl ?_
      refine ln_callS en_11 rfl (fun u hu => laws_version u n 6 hn8 (by omega)) rfl ?_
      refine ln_alloc tispec_Message rfl rfl (fun b3 => ?_)
      refine ln_storeW (i := 0) rfl rfl rfl rfl (tispec_Message).size rfl (by simp [(RS.one hVm)]) ?_
      refine ln_pv (pv_assign rfl) rfl ?_
      refine ln_cd ?_
      refine cd_seq ?_
      refine cd_sr ?_
      refine ln_pv (pv_fieldAddr (off := 1) (r := 1) Tryz.underlying23 rfl (tistring).size rfl rfl rfl) rfl ?_
      refine ln_pv (pv_ldo (i := 2) rfl Tryz.underlying9 rfl rfl rfl) rfl ?_
      refine ln_pv (pv_len_str Tryz.underlying9 rfl) rfl ?_
      refine ln_pv (pv_tt (pv_gtr rfl rfl) (by omega)) rfl ?_
      refine ln_cd ?_
      refine cd_tt rfl ?_
      refine cd_sr ?_
      refine ln_pv (pv_assign rfl) rfl ?_
      refine ln_cd ?_
      refine cd_ret ?_
      refine at_retA rfl rfl (fun w hS => ?_)
      rfl
    · skip
      refine cd_sr ?_
      refine ln_box rfl rfl rfl (fun b1 => ?_)
      refine ln_box rfl rfl rfl (fun b2 => ?_)
      refine ln_pv (pv_assign rfl) rfl ?_
      refine ln_cd ?_
      refine cd_seq ?_
      refine cd_sr ?_
      refine ln_pv (pv_ldO (i := 1) rfl Tryz.underlying23 rfl (tiimpl_Id).size rfl rfl) rfl ?_
      refine ln_callS en_7 rfl (fun u hu => laws_zzFits4 u has z hz) rfl ?_
      refine ln_pv (pv_not rfl) rfl ?_
      refine ln_pv (pv_move rfl) rfl ?_
      refine ln_gt rfl rfl rfl (pv_ldO (i := 0) rfl Tryz.underlying28 rfl (tispec_Tree).size rfl rfl) rfl ?_
      refine ln_gE rfl rfl rfl ?_
      refine ln_callS en_8 rfl (fun u hu => by have h := laws_zzFits1 u x _ (RT.mv hx hu) (by omega); rwa [hft] at h) rfl ?_
      refine ln_gt rfl rfl rfl (pv_not rfl) rfl ?_
      refine ln_pv (pv_pick rfl (fun _ => rfl) (fun _ => rfl)) rfl ?_
      refine ln_cd ?_
      refine cd_ff rfl ?_
      refine cd_skip ?_
      refine at_cd ?_
      refine cd_sr ?_
      refine ln_callS en_23 rfl (fun u hu => max_FindCoordinatorRequest u) rfl ?_
      refine ln_pv (pv_assign rfl) rfl ?_
      refine ln_cd ?_
      refine cd_seq ?_
      refine cd_sr ?_
      refine ln_pv (pv_move rfl) rfl ?_
      refine ln_pv (pv_ff (pv_lss rfl rfl) (by omega)) rfl ?_
      refine ln_cd ?_
      refine cd_ff rfl ?_
      refine cd_skip ?_
      refine at_cd ?_
      refine cd_sr ?_
      refine ln_callA en_24 rfl (fun u hu => sch_F_FindCoordinatorRequest u) rfl (fun u1 v1 ht1 hR1 => ?_)
      have hx := hx.mv ht1
      obtain ⟨sv, lcm, rfl, hVm, hFm⟩ := hR1
      refine ln_pv (pv_move rfl) rfl ?_
      refine ln_pv (pv_move rfl) rfl ?_
      refine ln_callS en_11 rfl (fun u hu => laws_version u n 6 hn8 (by omega)) rfl ?_
      refine ln_alloc tispec_Message rfl rfl (fun b3 => ?_)
      refine ln_storeW (i := 0) rfl rfl rfl rfl (tispec_Message).size rfl (by simp [(RS.one hVm)]) ?_
      refine ln_pv (pv_assign rfl) rfl ?_
      refine ln_cd ?_
      refine cd_seq ?_
      refine cd_sr ?_
      refine ln_pv (pv_fieldAddr (off := 1) (r := 1) Tryz.underlying23 rfl (tistring).size rfl rfl rfl) rfl ?_
      refine ln_pv (pv_ldo (i := 2) rfl Tryz.underlying9 rfl rfl rfl) rfl ?_
      refine ln_pv (pv_len_str Tryz.underlying9 rfl) rfl ?_
      refine ln_pv (pv_ff (pv_gtr rfl rfl) (by omega)) rfl ?_
      refine ln_cd ?_
      refine cd_ff rfl ?_
      refine cd_skip ?_
      refine at_cd ?_
      refine cd_sr ?_
      refine ln_pv (pv_ldO (i := 0) rfl Tryz.underlying34 rfl (tispec_Message).size rfl rfl) rfl ?_
      refine ln_pv (pv_move rfl) rfl ?_
      refine ln_pv (pv_ldO (i := 1) rfl Tryz.underlying28 rfl (tispec_Tree).size rfl rfl) rfl ?_
      refine ln_callA en_12 rfl (fun u hu => spec_Write F_FindCoordinatorRequest 3 hok.1 hok.2.2 u _ _ _ ((versionN n 6 : Nat) : Int) x (RS.mv hVm hu) (RFs.mv hFm hu) (RT.mv hx hu) hsm hB) rfl (fun u2 v2 ht2 hR2 => ?_)
      have hx := hx.mv ht2
      have hVm := hVm.mv ht2
      have hFm := hFm.mv ht2
      refine ln_pv (pv_assign rfl) rfl ?_
      refine ln_cd ?_
      refine cd_sr ?_
      refine ln_pv (pv_ldO (i := 2) rfl Tryz.underlying23 rfl (tiimpl_Id).size rfl rfl) rfl ?_
      refine ln_pv (pv_move rfl) rfl ?_
      refine ln_pv (pv_move rfl) rfl ?_
      refine ln_pv (pv_move rfl) rfl ?_
      refine ln_callA en_25 rfl (fun u hu => frame_FindCoordinatorRequest u ((versionN n 6 : Nat) : Int) num has z x _ (RSv.mv hR2 hu) hkx (by omega) (by omega) (by omega) (by rw [show partB F_FindCoordinatorRequest ((versionN n 6 : Nat) : Int) (flexB 3 ((versionN n 6 : Nat) : Int)) x = writeB F_FindCoordinatorRequest 3 ((versionN n 6 : Nat) : Int) x from rfl]; omega)) rfl (fun u3 v3 ht3 hR3 => ?_)
      have hx := hx.mv ht3
      have hVm := hVm.mv ht3
      have hFm := hFm.mv ht3
      have hR2 := hR2.mv ht3
      obtain ⟨rv, rfl, hV⟩ := hR3
      refine ln_pv (pv_move rfl) rfl ?_
      refine ln_pv (pv_extract rfl rfl) rfl ?_
      refine ln_pv (pv_extract rfl rfl) rfl ?_
      refine ln_pv (pv_assign rfl) rfl ?_
      refine ln_pv (pv_assign rfl) rfl ?_
      refine ln_cd ?_
      refine cd_dr2 [0, 1, 2] [0, 1, 2, 3, 4, 5, 6, 7, 8, 10, 11, 13, 16, 17] [0, 1, 2, 3, 4, 5, 6, 7, 8, 10, 11, 13] 9 12 [12, 14, 15, 16, 17] [9, 14, 15, 16, 17] mixed (by kernel_rfl) ?_
      refine lo_pv rfl rfl (sk_js (Tr.refl _) [0, 1, 2] rfl) (pv_move rfl) rfl ?_
      refine lo_pv rfl rfl (sk_js (Tr.refl _) [0, 1, 2] rfl) (pv_move rfl) rfl ?_
      refine lo_gt rfl rfl (sk_js (Tr.refl _) [0, 1, 2] rfl) rfl rfl rfl (pv_move rfl) rfl ?_
      refine lo_gt rfl rfl (sk_js (Tr.refl _) [0, 1, 2] rfl) rfl rfl rfl (pv_move rfl) rfl ?_
      refine lo_gt rfl rfl (sk_js (Tr.refl _) [0, 1, 2] rfl) rfl rfl rfl (pv_move rfl) rfl ?_
      refine lo_gt rfl rfl (sk_js (Tr.refl _) [0, 1, 2] rfl) rfl rfl rfl (pv_fieldAddr (off := 0) (r := 0) Tryz.underlying23 rfl (tibool).size rfl rfl rfl) rfl ?_
      refine lo_gt rfl rfl (sk_js (Tr.refl _) [0, 1, 2] rfl) rfl rfl rfl (pv_ldo (i := 2) rfl Tryz.underlying4 rfl rfl rfl) rfl ?_
      refine lo_gt rfl rfl (sk_js (Tr.refl _) [0, 1, 2] rfl) rfl rfl rfl (pv_fieldAddr (off := 1) (r := 1) Tryz.underlying23 rfl (tistring).size rfl rfl rfl) rfl ?_
      refine lo_gt rfl rfl (sk_js (Tr.refl _) [0, 1, 2] rfl) rfl rfl rfl (pv_ldo (i := 2) rfl Tryz.underlying9 rfl rfl rfl) rfl ?_
      refine lo_gt rfl rfl (sk_js (Tr.refl _) [0, 1, 2] rfl) rfl rfl rfl (pv_ldO (i := 0) rfl Tryz.underlying34 rfl (tispec_Message).size rfl rfl) rfl ?_
      refine lo_gt rfl rfl (sk_js (Tr.refl _) [0, 1, 2] rfl) rfl rfl rfl (pv_move rfl) rfl ?_
      refine lo_gt rfl rfl (sk_js (Tr.refl _) [0, 1, 2] rfl) rfl rfl rfl (pv_move rfl) rfl ?_
      refine lo_nil (at_two ?_ ?_)
      · skip
        refine lo_eff rfl rfl ?_
        refine ln_gE rfl rfl rfl ?_
        refine ln_s2b Tryz.underlying9 Tryz.underlying24 Tryz.underlying5 rfl rfl (fun bS4 cS4 zS4 fS4 hcS4 => ?_)
        refine ln_free1 (fun q h => h.elim) (fun sS4 htS4 hKS4 => ?_)
        have hsS4 := rs_of_obj hKS4 hcS4
        clear hKS4
        have hx := hx.mv htS4
        have hVm := hVm.mv htS4
        have hFm := hFm.mv htS4
        have hR2 := hR2.mv htS4
        have hV := hV.mv htS4
        refine lo_back (sk_js htS4 [0, 1, 2] rfl) ?_
        refine lo_eff rfl rfl ?_
        refine ln_gE rfl rfl rfl ?_
        refine ln_callS en_16 rfl (fun u hu => spec_Flexible u _ _ _ 3 ((versionN n 6 : Nat) : Int) (RS.mv hVm hu)) rfl ?_
        refine lo_back (sk_js htS4 [0, 1, 2] rfl) ?_
        refine lo_eff rfl rfl ?_
        refine ln_gE rfl rfl rfl ?_
        refine ln_callA en_15 rfl (fun u hu => spec_Frame u 10 ((versionN n 6 : Nat) : Int) num has (flexB 3 ((versionN n 6 : Nat) : Int)) _ _ (strB z) (writeB F_FindCoordinatorRequest 3 ((versionN n 6 : Nat) : Int) x) (RSv.mv hsS4 hu) (RSv.mv hR2 hu) hn0 hn1 (by rw [strB_len]; omega) (by omega)) rfl (fun u5 v5 ht5 hR5 => ?_)
        have hx := hx.mv ht5
        have hVm := hVm.mv ht5
        have hFm := hFm.mv ht5
        have hR2 := hR2.mv ht5
        have hV := hV.mv ht5
        have hsS4 := hsS4.mv ht5
        refine lo_back (sk_js (htS4.trans ht5) [0, 1, 2] rfl) ?_
        refine lo_eff rfl rfl ?_
        refine ln_gE rfl rfl rfl ?_
        refine ln_callS en_14 rfl (fun u hu => by have h := spec_Same u _ _ (frB 10 ((versionN n 6 : Nat) : Int) num (idsB has z) (flexB 3 ((versionN n 6 : Nat) : Int)) (writeB F_FindCoordinatorRequest 3 ((versionN n 6 : Nat) : Int) x)) (frB 10 ((versionN n 6 : Nat) : Int) num (idsB has z) (flexB 3 ((versionN n 6 : Nat) : Int)) (writeB F_FindCoordinatorRequest 3 ((versionN n 6 : Nat) : Int) x)) (RSv.mv hV hu) (RSv.mv hR5 hu) (by have := frB_le (key := 10) (v := ((versionN n 6 : Nat) : Int)) (num := num) (has := has) (fl := flexB 3 ((versionN n 6 : Nat) : Int)) (body := writeB F_FindCoordinatorRequest 3 ((versionN n 6 : Nat) : Int) x) (z := z) (by omega); omega); rwa [decide_eq_true rfl] at h) rfl ?_
        refine lo_back (sk_js (htS4.trans ht5) [0, 1, 2] rfl) ?_
        refine lo_pv rfl rfl (sk_js (htS4.trans ht5) [0, 1, 2] rfl) (pv_pick rfl (fun _ => rfl) (fun _ => rfl)) rfl ?_
        refine lo_pv rfl rfl (sk_js (htS4.trans ht5) [0, 1, 2] rfl) (pv_assign rfl) rfl ?_
        refine lo_cd ?_
        refine cd_ret ?_
        refine at_retA rfl rfl (fun w hS => ?_)
        rfl
      · skip
        refine lo_eff rfl rfl ?_
        refine ln_gE rfl rfl rfl ?_
        refine ln_callS en_16 rfl (fun u hu => spec_Flexible u _ _ _ 3 ((versionN n 6 : Nat) : Int) (RS.mv hVm hu)) rfl ?_
        refine lo_back (sk_js (Tr.refl _) [0, 1, 2] rfl) ?_
        refine lo_eff rfl rfl ?_
        refine ln_gE rfl rfl rfl ?_
        refine ln_s2b Tryz.underlying9 Tryz.underlying24 Tryz.underlying5 rfl rfl (fun bS6 cS6 zS6 fS6 hcS6 => ?_)
        refine ln_free1 (fun q h => h.elim) (fun sS6 htS6 hKS6 => ?_)
        have hsS6 := rs_of_obj hKS6 hcS6
        clear hKS6
        have hx := hx.mv htS6
        have hVm := hVm.mv htS6
        have hFm := hFm.mv htS6
        have hR2 := hR2.mv htS6
        have hV := hV.mv htS6
        refine lo_back (sk_js htS6 [0, 1, 2] rfl) ?_
        refine lo_eff rfl rfl ?_
        refine ln_gE rfl rfl rfl ?_
        refine ln_callA en_15 rfl (fun u hu => spec_Frame u 10 ((versionN n 6 : Nat) : Int) num has (flexB 3 ((versionN n 6 : Nat) : Int)) _ _ (strB z) (writeB F_FindCoordinatorRequest 3 ((versionN n 6 : Nat) : Int) x) (RSv.mv hsS6 hu) (RSv.mv hR2 hu) hn0 hn1 (by rw [strB_len]; omega) (by omega)) rfl (fun u7 v7 ht7 hR7 => ?_)
        have hx := hx.mv ht7
        have hVm := hVm.mv ht7
        have hFm := hFm.mv ht7
        have hR2 := hR2.mv ht7
        have hV := hV.mv ht7
        have hsS6 := hsS6.mv ht7
        refine lo_back (sk_js (htS6.trans ht7) [0, 1, 2] rfl) ?_
        refine lo_eff rfl rfl ?_
        refine ln_gE rfl rfl rfl ?_
        refine ln_callS en_14 rfl (fun u hu => by have h := spec_Same u _ _ (frB 10 ((versionN n 6 : Nat) : Int) num (idsB has z) (flexB 3 ((versionN n 6 : Nat) : Int)) (writeB F_FindCoordinatorRequest 3 ((versionN n 6 : Nat) : Int) x)) (frB 10 ((versionN n 6 : Nat) : Int) num (idsB has z) (flexB 3 ((versionN n 6 : Nat) : Int)) (writeB F_FindCoordinatorRequest 3 ((versionN n 6 : Nat) : Int) x)) (RSv.mv hV hu) (RSv.mv hR7 hu) (by have := frB_le (key := 10) (v := ((versionN n 6 : Nat) : Int)) (num := num) (has := has) (fl := flexB 3 ((versionN n 6 : Nat) : Int)) (body := writeB F_FindCoordinatorRequest 3 ((versionN n 6 : Nat) : Int) x) (z := z) (by omega); omega); rwa [decide_eq_true rfl] at h) rfl ?_
        refine lo_back (sk_js (htS6.trans ht7) [0, 1, 2] rfl) ?_
        refine lo_pv rfl rfl (sk_js (htS6.trans ht7) [0, 1, 2] rfl) (pv_pick rfl (fun _ => rfl) (fun _ => rfl)) rfl ?_
        refine lo_pv rfl rfl (sk_js (htS6.trans ht7) [0, 1, 2] rfl) (pv_assign rfl) rfl ?_
        refine lo_cd ?_
        refine cd_ret ?_
        refine at_retA rfl rfl (fun w hS => ?_)
        rfl
theorem fn_FindCoordinatorRequest (t : Vw) (n : Nat) (has : Bool) (z : ByteArray) (num : Int) (x : Tre) (cs : List Value) (hn : n < 256) (hz : z.size ≤ 1048576) (hn0 : -2147483648 ≤ num) (hn1 : num ≤ 2147483647) (hx : RT t x cs) (hw : wt x ≤ 1048576) : CS Tryz.prog 6 [.int .u8 (n : Int), .agg #[.bool has, .string z], .int .i32 num, .agg cs.toArray] t (.bool true) := by
  have hok := ok_F_FindCoordinatorRequest
  exact law_FindCoordinatorRequest t n has z num x cs hn hz hn0 hn1 hx hx.keys (smT_wt x (by omega)) (writeB_len _ _ _ x hok.1 hx.keys hw (of_decide_eq_true (by kernel_rfl)))
end K
end Go.Proofs.YtnolhlnncbajdaaGreatDoorR
