import Derived.Test.YtmknncmdbmnmgaaB5
import Derived.Test.YtmknncmdbmnmgaaMjs
set_option linter.unusedVariables false
set_option linter.unusedSimpArgs false
namespace Go.Proofs.Ytmknncmdbmnmgaa
namespace K
open Go Go.Lib
theorem make_makeAlterConfigsRequestResourceConfig (t : Vw) (y : Tre) (cs : List Value) (hx : RT t y cs) (hsm : smT y) (hg : gT y) : CA Try.prog 202 [.agg cs.toArray] t fun u v => ∃ c, v = .agg c.toArray ∧ RMp u F_sAlterConfigsRequestResourceConfig y c := by
  refine ca_enter Try.func202 rfl Try.ntmps202 rfl ?_
  refine cd_sr ?_
  refine ln_box (l := cs) rfl rfl rfl (fun b1 => ?_)
  refine ln_alloc (l := ([.string .empty, .pointer none, .map none] : List Value)) tipub_kmsg_AlterConfigsRequestResourceConfig rfl rfl (fun b2 => ?_)
  refine ln_cd ?_
  refine cd_sr ?_
  refine ln_alloc (l := ([.string .empty, .pointer none, .map none] : List Value)) tipub_kmsg_AlterConfigsRequestResourceConfig rfl rfl (fun b3 => ?_)
  refine ln_cd ?_
  refine cd_perm (H' := [MsgBox b3 212 ([.string .empty, .pointer none, .map none] : List Value), TreeBox b1 cs, MsgBox b2 212 ([.string .empty, .pointer none, .map none] : List Value)]) (List.Perm.cons _ (List.Perm.swap _ _ _)) ?_
  refine cd_sq ?_
  refine cd_region ?_
  refine ln_at (i0 := 1) (j := 0) rfl rfl hx rfl (fun u1 sS1 sL1 sU1 ht1 hd1 => ?_)
  have hx := hx.mv ht1
  have hS1 := hd1.str
  refine ln_pv (pv_field1 (v := sS1) Try.underlying37 rfl Try.underlying22 rfl lk_eq rfl) rfl ?_
  refine ln_pv (pv_b2s hS1 Try.underlying22 Try.underlying5 Try.underlying9 lk_eq) rfl ?_
  refine ln_pv (pv_fieldAddr (off := 0) (r := 0) Try.underlying212 rfl tistring.size rfl rfl rfl) rfl ?_
  refine ln_storeM (M' := ([.string ⟨(y.at_ 0).s.toArray⟩, .pointer none, .map none] : List Value)) rfl rfl rfl tistring.size (Nat.le_of_ble_eq_true rfl) rfl ?_
  refine ln_nil ?_
  refine at_sub (.skip rfl (.skip rfl (.skip rfl (.skip rfl .rfl')))) ?_
  refine at_cd ?_
  refine cd_sq ?_
  refine cd_region ?_
  refine ln_at (i0 := 1) (j := 1) rfl rfl hx rfl (fun u2 sS2 sL2 sU2 ht2 hd2 => ?_)
  have hx := hx.mv ht2
  refine ln_callA (vals := [.agg _]) en_149 rfl (fun u hu => impl_textOf u (y.at_ 1) _ (hd2.mv hu)) rfl (fun uc3 c3 htc3 hFc3 => ?_)
  have hx := hx.mv htc3
  refine ln_pv (pv_fieldAddr (off := 1) (r := 1) Try.underlying212 rfl tiPt_string.size rfl rfl rfl) rfl ?_
  refine ln_storeM (M' := ([.string ⟨(y.at_ 0).s.toArray⟩, c3, .map none] : List Value)) rfl rfl hFc3.one tiPt_string.size (Nat.le_of_ble_eq_true rfl) rfl ?_
  refine ln_nil ?_
  refine at_sub (.skip rfl (.skip rfl (.skip rfl .rfl'))) ?_
  refine at_cd ?_
  refine cd_sq ?_
  refine fl_tags (off := 2) rfl hx hg.open.1 (by have := hg.open.2.1; omega) rfl (fun q hq => hq.elim) rfl (fun i hi u b5 mo l tv E N' X' hu hv h0 hnew hL htx hfr kb => ?_) (fun u mv ht hT => ?_)
  · exact fl_setL (off := 2) (hL _ _ rfl) htx Try.underlying212 rfl tipub_kmsg_Tags.size rfl (frs_via hfr (v := .bool true) rfl) (Nat.le_of_ble_eq_true rfl) h0 hnew kb
  have hx := hx.mv ht
  have hFc3 := hFc3.mv ht
  refine at_msg (M' := ([.string ⟨(y.at_ 0).s.toArray⟩, c3, mv] : List Value)) rfl ?_
  refine at_cd ?_
  have hR : RMp _ F_sAlterConfigsRequestResourceConfig y ([.string ⟨(y.at_ 0).s.toArray⟩, c3, mv] : List Value) := ⟨([.string ⟨(y.at_ 0).s.toArray⟩, c3] : List Value), mv, rfl, (RMl_cons (c := [.string ⟨(y.at_ 0).s.toArray⟩]) ((RMf_str (by decide)).2 rfl) (RMl_cons (c := [c3]) ((RMf_txt (by decide)).2 ⟨_, rfl, hFc3⟩) RMl_nil)), hT⟩
  have hsz : fszs F_sAlterConfigsRequestResourceConfig + 1 = 3 := by kernel_rfl
  obtain ⟨hl9, h19⟩ := hR.len
  rw [hsz] at hl9
  refine cd_sr ?_
  refine ln_pv (pv_ldO (i := 0) rfl Try.underlying212 rfl tipub_kmsg_AlterConfigsRequestResourceConfig.size rfl hl9) rfl ?_
  refine ln_storeW (i := 2) (vs := ([.string ⟨(y.at_ 0).s.toArray⟩, c3, mv] : List Value)) rfl rfl rfl rfl tipub_kmsg_AlterConfigsRequestResourceConfig.size hl9 h19 ?_
  refine ln_cd ?_
  refine cd_ret ?_
  exact at_retC (i := 2) rfl rfl rfl Try.underlying212 rfl tipub_kmsg_AlterConfigsRequestResourceConfig.size hl9 (fun w hS => ⟨_, rfl, hR.mv hS.trFin⟩)
theorem make_makeAlterConfigsRequestResource (t : Vw) (y : Tre) (cs : List Value) (hx : RT t y cs) (hsm : smT y) (hg : gT y) : CA Try.prog 182 [.agg cs.toArray] t fun u v => ∃ c, v = .agg c.toArray ∧ RMp u F_sAlterConfigsRequestResource y c := by
  refine ca_enter Try.func182 rfl Try.ntmps182 rfl ?_
  refine cd_sr ?_
  refine ln_box (l := cs) rfl rfl rfl (fun b1 => ?_)
  refine ln_alloc (l := ([.int .i8 0, .string .empty, .slice none 0 0, .map none] : List Value)) tipub_kmsg_AlterConfigsRequestResource rfl rfl (fun b2 => ?_)
  refine ln_cd ?_
  refine cd_sr ?_
  refine ln_alloc (l := ([.int .i8 0, .string .empty, .slice none 0 0, .map none] : List Value)) tipub_kmsg_AlterConfigsRequestResource rfl rfl (fun b3 => ?_)
  refine ln_cd ?_
  refine cd_perm (H' := [MsgBox b3 207 ([.int .i8 0, .string .empty, .slice none 0 0, .map none] : List Value), TreeBox b1 cs, MsgBox b2 207 ([.int .i8 0, .string .empty, .slice none 0 0, .map none] : List Value)]) (List.Perm.cons _ (List.Perm.swap _ _ _)) ?_
  refine cd_sq ?_
  refine cd_region ?_
  refine ln_at (i0 := 1) (j := 0) rfl rfl hx rfl (fun u1 sS1 sL1 sU1 ht1 hd1 => ?_)
  have hx := hx.mv ht1
  refine ln_pv (pv_field1 (v := .int .i64 (y.at_ 0).n) Try.underlying37 rfl Try.underlying2 rfl lk_eq rfl) rfl ?_
  refine ln_pv (pv_conv' (k := .i64) (i := (y.at_ 0).n) Try.underlying2 Try.underlying179 lk_eq rfl) rfl ?_
  refine ln_pv (pv_fieldAddr (off := 0) (r := 0) Try.underlying207 rfl tipub_kmsg_ConfigResourceType.size rfl rfl rfl) rfl ?_
  refine ln_storeM (M' := ([.int .i8 (IntKind.i8.wrap (y.at_ 0).n), .string .empty, .slice none 0 0, .map none] : List Value)) rfl rfl rfl tipub_kmsg_ConfigResourceType.size (Nat.le_of_ble_eq_true rfl) rfl ?_
  refine ln_nil ?_
  refine at_sub (.skip rfl (.skip rfl (.skip rfl (.skip rfl .rfl')))) ?_
  refine at_cd ?_
  refine cd_sq ?_
  refine cd_region ?_
  refine ln_at (i0 := 1) (j := 1) rfl rfl hx rfl (fun u2 sS2 sL2 sU2 ht2 hd2 => ?_)
  have hx := hx.mv ht2
  have hS2 := hd2.str
  refine ln_pv (pv_field1 (v := sS2) Try.underlying37 rfl Try.underlying22 rfl lk_eq rfl) rfl ?_
  refine ln_pv (pv_b2s hS2 Try.underlying22 Try.underlying5 Try.underlying9 lk_eq) rfl ?_
  refine ln_pv (pv_fieldAddr (off := 1) (r := 1) Try.underlying207 rfl tistring.size rfl rfl rfl) rfl ?_
  refine ln_storeM (M' := ([.int .i8 (IntKind.i8.wrap (y.at_ 0).n), .string ⟨(y.at_ 1).s.toArray⟩, .slice none 0 0, .map none] : List Value)) rfl rfl rfl tistring.size (Nat.le_of_ble_eq_true rfl) rfl ?_
  refine ln_nil ?_
  refine at_sub (.skip rfl (.skip rfl (.skip rfl (.skip rfl .rfl')))) ?_
  refine at_cd ?_
  refine cd_sq ?_
  refine fl_nl (o := 10) (sb := F_sAlterConfigsRequestResourceConfig) (j := 2) (off := 2) rfl hx rfl rfl (fun u3 c3 ht3 hF3 => ?_) (fun hz u3a hu3 kk => ?_)
  rotate_left
  · skip
    have hx := hx.mv hu3
    have hle3 : (y.at_ 2).l.length ≤ 32767 := (hg.at_ 2).open.2.2.1
    refine cd_sq ?_
    refine fl_makeL (ez := 3) (j := 2) (off := 2) rfl rfl hx hle3 Try.underlying207 rfl rfl tiSl_kmsg_AlterConfigsRequestResourceConfig.size rfl Try.underlying205 tipub_kmsg_AlterConfigsRequestResourceConfig (by decide) rfl (Nat.le_of_ble_eq_true rfl) (fun u3b g3 cap3 hb3 => ?_)
    have hx := hx.mv hb3
    refine at_cd ?_
    refine fl_list (o := 10) (sb := F_sAlterConfigsRequestResourceConfig) (j := 2) (off := 2) (ez := 3) (by kernel_rfl) rfl hx hle3 hz rfl (fun q hq => hq.elim) rfl (fun i hi u b5 g cap xs ci sl N' X' hu hxl hci kb => ?_) (fun u c hu hF => kk u c (hb3.trans hu) hF)
    have hmk : ∀ u2, Tr u u2 → CA Try.prog 202 [.agg ci.toArray] u2 fun u3 v => ∃ c, v = .agg c.toArray ∧ RMp u3 F_sAlterConfigsRequestResourceConfig (y.at_ 2).l[i] c := fun u2 h2 => make_makeAlterConfigsRequestResourceConfig u2 _ _ (hci.mv h2) (smTs.mem (hsm.at_ 2).open.2.2.2 _ (List.getElem_mem hi)) (gTs.mem (hg.at_ 2).open.2.2.2 _ (List.getElem_mem hi))
    exact fl_appLS (sb := F_sAlterConfigsRequestResourceConfig) (off := 2) rfl rfl Try.underlying207 rfl rfl tiSl_kmsg_AlterConfigsRequestResourceConfig.size rfl Try.underlying205 tipub_kmsg_AlterConfigsRequestResourceConfig rfl (by decide) (by decide) (by decide) (by kernel_rfl) en_202 hci.len hmk rfl (Nat.le_of_ble_eq_true rfl) (by omega) hxl (by kernel_rfl) (by kernel_rfl) kb
  have hx := hx.mv ht3
  refine at_msg (M' := ([.int .i8 (IntKind.i8.wrap (y.at_ 0).n), .string ⟨(y.at_ 1).s.toArray⟩, c3, .map none] : List Value)) rfl ?_
  refine at_cd ?_
  refine cd_sq ?_
  refine fl_tags (off := 3) rfl hx hg.open.1 (by have := hg.open.2.1; omega) rfl (fun q hq => hq.elim) rfl (fun i hi u b5 mo l tv E N' X' hu hv h0 hnew hL htx hfr kb => ?_) (fun u mv ht hT => ?_)
  · exact fl_setL (off := 3) (hL _ _ rfl) htx Try.underlying207 rfl tipub_kmsg_Tags.size rfl (frs_via hfr (v := .bool true) rfl) (Nat.le_of_ble_eq_true rfl) h0 hnew kb
  have hx := hx.mv ht
  have hF3 := hF3.mv ht
  refine at_msg (M' := ([.int .i8 (IntKind.i8.wrap (y.at_ 0).n), .string ⟨(y.at_ 1).s.toArray⟩, c3, mv] : List Value)) rfl ?_
  refine at_cd ?_
  have hR : RMp _ F_sAlterConfigsRequestResource y ([.int .i8 (IntKind.i8.wrap (y.at_ 0).n), .string ⟨(y.at_ 1).s.toArray⟩, c3, mv] : List Value) := ⟨([.int .i8 (IntKind.i8.wrap (y.at_ 0).n), .string ⟨(y.at_ 1).s.toArray⟩, c3] : List Value), mv, rfl, (RMl_cons (c := [.int .i8 (IntKind.i8.wrap (y.at_ 0).n)]) (RMf_i8.2 rfl) (RMl_cons (c := [.string ⟨(y.at_ 1).s.toArray⟩]) ((RMf_str (by decide)).2 rfl) (RMl_cons (c := [c3]) (RMf_list.2 ⟨_, rfl, hF3⟩) RMl_nil))), hT⟩
  have hsz : fszs F_sAlterConfigsRequestResource + 1 = 4 := by kernel_rfl
  obtain ⟨hl9, h19⟩ := hR.len
  rw [hsz] at hl9
  refine cd_sr ?_
  refine ln_pv (pv_ldO (i := 0) rfl Try.underlying207 rfl tipub_kmsg_AlterConfigsRequestResource.size rfl hl9) rfl ?_
  refine ln_storeW (i := 2) (vs := ([.int .i8 (IntKind.i8.wrap (y.at_ 0).n), .string ⟨(y.at_ 1).s.toArray⟩, c3, mv] : List Value)) rfl rfl rfl rfl tipub_kmsg_AlterConfigsRequestResource.size hl9 h19 ?_
  refine ln_cd ?_
  refine cd_ret ?_
  exact at_retC (i := 2) rfl rfl rfl Try.underlying207 rfl tipub_kmsg_AlterConfigsRequestResource.size hl9 (fun w hS => ⟨_, rfl, hR.mv hS.trFin⟩)
theorem fill_AlterConfigsRequest (t : Vw) (b : Nat) (v : Int) (y : Tre) (cs : List Value) (hx : RT t y cs) (hsm : smT y) (hg : gT y) (hok : (MsgBox b 122 ([.int .i16 v, .slice none 0 0, .bool false, .map none] : List Value)).ok t.w) (hav : ∀ q ∈ (MsgBox b 122 ([.int .i16 v, .slice none 0 0, .bool false, .map none] : List Value)).blk, t.av q) : CT Try.prog 118 [.pointer (some ⟨b, 0, none⟩), .agg cs.toArray] t (MsgBox b 122 ([.int .i16 v, .slice none 0 0, .bool false, .map none] : List Value)) fun u r e' => ∃ cells, e' = MsgBox b 122 (.int .i16 v :: cells) ∧ RMp u F_AlterConfigsRequest y cells := by
  refine ct_enter Try.func118 rfl Try.ntmps118 rfl hok hav (by simp [Ent.blk]) ?_
  refine cd_sr ?_
  refine ln_box (l := cs) rfl rfl rfl (fun b1 => ?_)
  refine ln_cd ?_
  refine cd_perm (H' := [MsgBox b 122 ([.int .i16 v, .slice none 0 0, .bool false, .map none] : List Value), TreeBox b1 cs]) (List.Perm.swap _ _ _) ?_
  refine cd_sq ?_
  refine fl_nl (o := 10) (sb := F_sAlterConfigsRequestResource) (j := 0) (off := 1) rfl hx rfl rfl (fun u1 c1 ht1 hF1 => ?_) (fun hz u1a hu1 kk => ?_)
  rotate_left
  · skip
    have hx := hx.mv hu1
    have hle1 : (y.at_ 0).l.length ≤ 32767 := (hg.at_ 0).open.2.2.1
    refine cd_sq ?_
    refine fl_makeP (ez := 4) (j := 0) (off := 1) rfl rfl hx hle1 Try.underlying122 rfl rfl tiSl_kmsg_AlterConfigsRequestResource.size rfl Try.underlying120 tipub_kmsg_AlterConfigsRequestResource (by decide) rfl (Nat.le_of_ble_eq_true rfl) (fun u1b g1 cap1 hb1 => ?_)
    have hx := hx.mv hb1
    refine at_cd ?_
    refine fl_list (o := 10) (sb := F_sAlterConfigsRequestResource) (j := 0) (off := 1) (ez := 4) (by kernel_rfl) rfl hx hle1 hz rfl (fun q hq => by simpa [Ent.blk] using hq) rfl (fun i hi u b5 g cap xs ci sl N' X' hu hxl hci kb => ?_) (fun u c hu hF => kk u c (hb1.trans hu) hF)
    have hmk : ∀ u2, Tr u u2 → CA Try.prog 182 [.agg ci.toArray] u2 fun u3 v => ∃ c, v = .agg c.toArray ∧ RMp u3 F_sAlterConfigsRequestResource (y.at_ 0).l[i] c := fun u2 h2 => make_makeAlterConfigsRequestResource u2 _ _ (hci.mv h2) (smTs.mem (hsm.at_ 0).open.2.2.2 _ (List.getElem_mem hi)) (gTs.mem (hg.at_ 0).open.2.2.2 _ (List.getElem_mem hi))
    exact fl_appPS (sb := F_sAlterConfigsRequestResource) (off := 1) rfl rfl Try.underlying122 rfl rfl tiSl_kmsg_AlterConfigsRequestResource.size rfl Try.underlying120 tipub_kmsg_AlterConfigsRequestResource rfl (by decide) (by decide) (by decide) (by kernel_rfl) en_182 hci.len hmk rfl (Nat.le_of_ble_eq_true rfl) (by omega) hxl (by kernel_rfl) (by kernel_rfl) kb
  have hx := hx.mv ht1
  refine at_msg (M' := ([.int .i16 v, c1, .bool false, .map none] : List Value)) rfl ?_
  refine at_cd ?_
  refine cd_sq ?_
  refine cd_region ?_
  refine ln_pv (pv_move rfl) rfl ?_
  refine ln_at (i0 := 1) (j := 1) rfl rfl hx rfl (fun u2 sS2 sL2 sU2 ht2 hd2 => ?_)
  have hx := hx.mv ht2
  have hF1 := hF1.mv ht2
  refine ln_pv (pv_field1 (v := .int .i64 (y.at_ 1).n) Try.underlying37 rfl Try.underlying2 rfl lk_eq rfl) rfl ?_
  have hI2 := hd2.i64
  refine ln_pv (pv_and' (k := .i64) (i := (y.at_ 1).n) lk_eq rfl (and1_i64 hI2.1 hI2.2)) rfl ?_
  refine ln_pv (pv_eql lk_eq rfl) rfl ?_
  refine ln_pv (pv_nilCheck rfl) rfl ?_
  refine ln_pv (pv_fieldAddr (off := 2) (r := 2) Try.underlying122 rfl tibool.size rfl rfl rfl) rfl ?_
  refine ln_storeM (M' := ([.int .i16 v, c1, .bool (decide ((y.at_ 1).n % 2 = 1)), .map none] : List Value)) rfl rfl rfl tibool.size (Nat.le_of_ble_eq_true rfl) rfl ?_
  refine ln_nil ?_
  refine at_sub (.skip rfl (.skip rfl (.skip rfl (.skip rfl (.skip rfl (.skip rfl (.skip rfl .rfl'))))))) ?_
  refine at_cd ?_
  refine fl_tags (off := 3) rfl hx hg.open.1 (by have := hg.open.2.1; omega) rfl (fun q hq => by simpa [Ent.blk] using hq) rfl (fun i hi u b5 mo l tv E N' X' hu hv h0 hnew hL htx hfr kb => ?_) (fun u mv ht hT => ?_)
  · exact fl_setP (off := 3) (hL _ _ rfl) htx Try.underlying122 rfl tipub_kmsg_Tags.size rfl (frs_via hfr (v := .bool true) rfl) (Nat.le_of_ble_eq_true rfl) h0 hnew (by kernel_rfl) kb
  have hx := hx.mv ht
  have hF1 := hF1.mv ht
  refine at_msg (M' := ([.int .i16 v, c1, .bool (decide ((y.at_ 1).n % 2 = 1)), mv] : List Value)) rfl ?_
  have hR : RMp _ F_AlterConfigsRequest y ([c1, .bool (decide ((y.at_ 1).n % 2 = 1)), mv] : List Value) := ⟨([c1, .bool (decide ((y.at_ 1).n % 2 = 1))] : List Value), mv, rfl, (RMl_cons (c := [c1]) (RMf_list.2 ⟨_, rfl, hF1⟩) (RMl_cons (c := [.bool (decide ((y.at_ 1).n % 2 = 1))]) (RMf_b.2 rfl) RMl_nil)), hT⟩
  exact at_retT0 (i := 0) rfl rfl (fun w hS => ⟨_, rfl, hR.mv (hS.trFinT _ _)⟩)
end K
end Go.Proofs.Ytmknncmdbmnmgaa
