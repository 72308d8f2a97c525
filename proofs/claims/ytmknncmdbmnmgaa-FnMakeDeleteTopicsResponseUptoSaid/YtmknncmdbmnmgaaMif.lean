import Derived.Test.YtmknncmdbmnmgaaB5
import Derived.Test.YtmknncmdbmnmgaaMis
set_option linter.unusedVariables false
set_option linter.unusedSimpArgs false
namespace Go.Proofs.Ytmknncmdbmnmgaa
namespace K
open Go Go.Lib
theorem make_makeDeleteTopicsResponseTopic (t : Vw) (y : Tre) (cs : List Value) (hx : RT t y cs) (hsm : smT y) (hg : gT y) : CA Try.prog 179 [.agg cs.toArray] t fun u v => ∃ c, v = .agg c.toArray ∧ RMp u F_sDeleteTopicsResponseTopic y c := by
  refine ca_enter Try.func179 rfl Try.ntmps179 rfl ?_
  refine cd_sr ?_
  refine ln_box (l := cs) rfl rfl rfl (fun b1 => ?_)
  refine ln_alloc (l := ([.pointer none, .int .u8 0, .int .u8 0, .int .u8 0, .int .u8 0, .int .u8 0, .int .u8 0, .int .u8 0, .int .u8 0, .int .u8 0, .int .u8 0, .int .u8 0, .int .u8 0, .int .u8 0, .int .u8 0, .int .u8 0, .int .u8 0, .int .i16 0, .pointer none, .map none] : List Value)) tipub_kmsg_DeleteTopicsResponseTopic rfl rfl (fun b2 => ?_)
  refine ln_cd ?_
  refine cd_sr ?_
  refine ln_alloc (l := ([.pointer none, .int .u8 0, .int .u8 0, .int .u8 0, .int .u8 0, .int .u8 0, .int .u8 0, .int .u8 0, .int .u8 0, .int .u8 0, .int .u8 0, .int .u8 0, .int .u8 0, .int .u8 0, .int .u8 0, .int .u8 0, .int .u8 0, .int .i16 0, .pointer none, .map none] : List Value)) tipub_kmsg_DeleteTopicsResponseTopic rfl rfl (fun b3 => ?_)
  refine ln_cd ?_
  refine cd_perm (H' := [MsgBox b3 202 ([.pointer none, .int .u8 0, .int .u8 0, .int .u8 0, .int .u8 0, .int .u8 0, .int .u8 0, .int .u8 0, .int .u8 0, .int .u8 0, .int .u8 0, .int .u8 0, .int .u8 0, .int .u8 0, .int .u8 0, .int .u8 0, .int .u8 0, .int .i16 0, .pointer none, .map none] : List Value), TreeBox b1 cs, MsgBox b2 202 ([.pointer none, .int .u8 0, .int .u8 0, .int .u8 0, .int .u8 0, .int .u8 0, .int .u8 0, .int .u8 0, .int .u8 0, .int .u8 0, .int .u8 0, .int .u8 0, .int .u8 0, .int .u8 0, .int .u8 0, .int .u8 0, .int .u8 0, .int .i16 0, .pointer none, .map none] : List Value)]) (List.Perm.cons _ (List.Perm.swap _ _ _)) ?_
  refine cd_sq ?_
  refine cd_region ?_
  refine ln_at (i0 := 1) (j := 0) rfl rfl hx rfl (fun u1 sS1 sL1 sU1 ht1 hd1 => ?_)
  have hx := hx.mv ht1
  refine ln_callA (vals := [.agg _]) en_149 rfl (fun u hu => impl_textOf u (y.at_ 0) _ (hd1.mv hu)) rfl (fun uc2 c2 htc2 hFc2 => ?_)
  have hx := hx.mv htc2
  refine ln_pv (pv_fieldAddr (off := 0) (r := 0) Try.underlying202 rfl tiPt_string.size rfl rfl rfl) rfl ?_
  refine ln_storeM (M' := ([c2, .int .u8 0, .int .u8 0, .int .u8 0, .int .u8 0, .int .u8 0, .int .u8 0, .int .u8 0, .int .u8 0, .int .u8 0, .int .u8 0, .int .u8 0, .int .u8 0, .int .u8 0, .int .u8 0, .int .u8 0, .int .u8 0, .int .i16 0, .pointer none, .map none] : List Value)) rfl rfl hFc2.one tiPt_string.size (Nat.le_of_ble_eq_true rfl) rfl ?_
  refine ln_nil ?_
  refine at_sub (.skip rfl (.skip rfl (.skip rfl .rfl'))) ?_
  refine at_cd ?_
  refine cd_sq ?_
  refine cd_region ?_
  refine ln_at (i0 := 1) (j := 1) rfl rfl hx rfl (fun u3 sS3 sL3 sU3 ht3 hd3 => ?_)
  have hx := hx.mv ht3
  have hFc2 := hFc2.mv ht3
  have hS3 := hd3.str
  refine ln_pv (pv_field1 (v := sS3) Try.underlying37 rfl Try.underlying22 rfl lk_eq rfl) rfl ?_
  refine ln_callA (vals := [sS3]) en_191 rfl (fun u hu => impl_sixteen u _ (y.at_ 1).s (RSv.mv hS3 hu)) rfl ?_
  rintro uc4 _ htc4 rfl
  have hx := hx.mv htc4
  have hFc2 := hFc2.mv htc4
  refine ln_pv (pv_fieldAddr (off := 1) (r := 1) Try.underlying202 rfl ti_16_uint8.size rfl rfl rfl) rfl ?_
  refine ln_storeMA (m := 16) (M' := ([c2] ++ (u8s (uuid (y.at_ 1).s) ++ ([.int .i16 0, .pointer none, .map none])) : List Value)) rfl rfl (by simp [uuid_length]) (u8s_one _) ti_16_uint8.size (Nat.le_of_ble_eq_true rfl) (by simp [wr, uuid_length]) ?_
  refine ln_nil ?_
  refine at_sub (.skip rfl (.skip rfl (.skip rfl (.skip rfl .rfl')))) ?_
  refine at_cd ?_
  refine cd_sq ?_
  refine cd_region ?_
  refine ln_at (i0 := 1) (j := 2) rfl rfl hx rfl (fun u5 sS5 sL5 sU5 ht5 hd5 => ?_)
  have hx := hx.mv ht5
  have hFc2 := hFc2.mv ht5
  refine ln_pv (pv_field1 (v := .int .i64 (y.at_ 2).n) Try.underlying37 rfl Try.underlying2 rfl lk_eq rfl) rfl ?_
  refine ln_pv (pv_conv' (k := .i64) (i := (y.at_ 2).n) Try.underlying2 Try.underlying49 lk_eq rfl) rfl ?_
  refine ln_pv (pv_fieldAddr (off := 17) (r := 17) Try.underlying202 rfl tiint16.size rfl rfl rfl) rfl ?_
  refine ln_storeM (M' := ([c2] ++ (u8s (uuid (y.at_ 1).s) ++ ([.int .i16 (IntKind.i16.wrap (y.at_ 2).n), .pointer none, .map none])) : List Value)) rfl rfl rfl tiint16.size (by simp [uuid_length]) (by simp [List.set_append, List.getElem?_append, wr, uuid_length]) ?_
  refine ln_nil ?_
  refine at_sub (.skip rfl (.skip rfl (.skip rfl (.skip rfl .rfl')))) ?_
  refine at_cd ?_
  refine cd_sq ?_
  refine cd_region ?_
  refine ln_at (i0 := 1) (j := 3) rfl rfl hx rfl (fun u6 sS6 sL6 sU6 ht6 hd6 => ?_)
  have hx := hx.mv ht6
  have hFc2 := hFc2.mv ht6
  refine ln_callA (vals := [.agg _]) en_149 rfl (fun u hu => impl_textOf u (y.at_ 3) _ (hd6.mv hu)) rfl (fun uc7 c7 htc7 hFc7 => ?_)
  have hx := hx.mv htc7
  have hFc2 := hFc2.mv htc7
  refine ln_pv (pv_fieldAddr (off := 18) (r := 18) Try.underlying202 rfl tiPt_string.size rfl rfl rfl) rfl ?_
  refine ln_storeM (M' := ([c2] ++ (u8s (uuid (y.at_ 1).s) ++ ([.int .i16 (IntKind.i16.wrap (y.at_ 2).n), c7, .map none])) : List Value)) rfl rfl hFc7.one tiPt_string.size (by simp [uuid_length]) (by simp [List.set_append, List.getElem?_append, wr, uuid_length]) ?_
  refine ln_nil ?_
  refine at_sub (.skip rfl (.skip rfl (.skip rfl .rfl'))) ?_
  refine at_cd ?_
  refine cd_sq ?_
  refine fl_tags (off := 19) rfl hx hg.open.1 (by have := hg.open.2.1; omega) rfl (fun q hq => hq.elim) (by simp [List.set_append, List.getElem?_append, wr, uuid_length]) (fun i hi u b5 mo l tv E N' X' hu hv h0 hnew hL htx hfr kb => ?_) (fun u mv ht hT => ?_)
  · exact fl_setL (off := 19) (hL _ _ rfl) htx Try.underlying202 rfl tipub_kmsg_Tags.size rfl (frs_via hfr (v := .bool true) rfl) (by simp [uuid_length]) h0 hnew kb
  have hx := hx.mv ht
  have hFc2 := hFc2.mv ht
  have hFc7 := hFc7.mv ht
  refine at_msg (M' := ([c2] ++ (u8s (uuid (y.at_ 1).s) ++ ([.int .i16 (IntKind.i16.wrap (y.at_ 2).n), c7, mv])) : List Value)) (by simp [List.set_append, List.getElem?_append, wr, uuid_length]) ?_
  refine at_cd ?_
  have hR : RMp _ F_sDeleteTopicsResponseTopic y ([c2] ++ (u8s (uuid (y.at_ 1).s) ++ ([.int .i16 (IntKind.i16.wrap (y.at_ 2).n), c7, mv])) : List Value) := ⟨([c2] ++ (u8s (uuid (y.at_ 1).s) ++ ([.int .i16 (IntKind.i16.wrap (y.at_ 2).n), c7])) : List Value), mv, by simp, (RMl_cons (c := [c2]) ((RMf_txt (by decide)).2 ⟨_, rfl, hFc2⟩) (RMl_cons (c := u8s (uuid (y.at_ 1).s)) (RMf_uuid.2 rfl) (RMl_cons (c := [.int .i16 (IntKind.i16.wrap (y.at_ 2).n)]) (RMf_i16.2 rfl) (RMl_cons (c := [c7]) ((RMf_txt (by decide)).2 ⟨_, rfl, hFc7⟩) RMl_nil)))), hT⟩
  have hsz : fszs F_sDeleteTopicsResponseTopic + 1 = 20 := by kernel_rfl
  obtain ⟨hl9, h19⟩ := hR.len
  rw [hsz] at hl9
  refine cd_sr ?_
  refine ln_pv (pv_ldO (i := 0) rfl Try.underlying202 rfl tipub_kmsg_DeleteTopicsResponseTopic.size rfl hl9) rfl ?_
  refine ln_storeW (i := 2) (vs := ([c2] ++ (u8s (uuid (y.at_ 1).s) ++ ([.int .i16 (IntKind.i16.wrap (y.at_ 2).n), c7, mv])) : List Value)) rfl rfl rfl rfl tipub_kmsg_DeleteTopicsResponseTopic.size hl9 h19 ?_
  refine ln_cd ?_
  refine cd_ret ?_
  exact at_retC (i := 2) rfl rfl rfl Try.underlying202 rfl tipub_kmsg_DeleteTopicsResponseTopic.size hl9 (fun w hS => ⟨_, rfl, hR.mv hS.trFin⟩)
theorem fill_DeleteTopicsResponse (t : Vw) (b : Nat) (v : Int) (y : Tre) (cs : List Value) (hx : RT t y cs) (hsm : smT y) (hg : gT y) (hok : (MsgBox b 116 ([.int .i16 v, .int .i32 0, .slice none 0 0, .map none] : List Value)).ok t.w) (hav : ∀ q ∈ (MsgBox b 116 ([.int .i16 v, .int .i32 0, .slice none 0 0, .map none] : List Value)).blk, t.av q) : CT Try.prog 112 [.pointer (some ⟨b, 0, none⟩), .agg cs.toArray] t (MsgBox b 116 ([.int .i16 v, .int .i32 0, .slice none 0 0, .map none] : List Value)) fun u r e' => ∃ cells, e' = MsgBox b 116 (.int .i16 v :: cells) ∧ RMp u F_DeleteTopicsResponse y cells := by
  refine ct_enter Try.func112 rfl Try.ntmps112 rfl hok hav (by simp [Ent.blk]) ?_
  refine cd_sr ?_
  refine ln_box (l := cs) rfl rfl rfl (fun b1 => ?_)
  refine ln_cd ?_
  refine cd_perm (H' := [MsgBox b 116 ([.int .i16 v, .int .i32 0, .slice none 0 0, .map none] : List Value), TreeBox b1 cs]) (List.Perm.swap _ _ _) ?_
  refine cd_sq ?_
  refine cd_region ?_
  refine ln_pv (pv_move rfl) rfl ?_
  refine ln_at (i0 := 1) (j := 0) rfl rfl hx rfl (fun u1 sS1 sL1 sU1 ht1 hd1 => ?_)
  have hx := hx.mv ht1
  refine ln_pv (pv_field1 (v := .int .i64 (y.at_ 0).n) Try.underlying37 rfl Try.underlying2 rfl lk_eq rfl) rfl ?_
  refine ln_pv (pv_conv' (k := .i64) (i := (y.at_ 0).n) Try.underlying2 Try.underlying21 lk_eq rfl) rfl ?_
  refine ln_pv (pv_nilCheck rfl) rfl ?_
  refine ln_pv (pv_fieldAddr (off := 1) (r := 1) Try.underlying116 rfl tiint32.size rfl rfl rfl) rfl ?_
  refine ln_storeM (M' := ([.int .i16 v, .int .i32 (IntKind.i32.wrap (y.at_ 0).n), .slice none 0 0, .map none] : List Value)) rfl rfl rfl tiint32.size (Nat.le_of_ble_eq_true rfl) rfl ?_
  refine ln_nil ?_
  refine at_sub (.skip rfl (.skip rfl (.skip rfl (.skip rfl (.skip rfl (.skip rfl .rfl')))))) ?_
  refine at_cd ?_
  refine cd_sq ?_
  refine fl_nl (o := 10) (sb := F_sDeleteTopicsResponseTopic) (j := 1) (off := 2) rfl hx rfl rfl (fun u2 c2 ht2 hF2 => ?_) (fun hz u2a hu2 kk => ?_)
  rotate_left
  · skip
    have hx := hx.mv hu2
    have hle2 : (y.at_ 1).l.length ≤ 32767 := (hg.at_ 1).open.2.2.1
    refine cd_sq ?_
    refine fl_makeP (ez := 20) (j := 1) (off := 2) rfl rfl hx hle2 Try.underlying116 rfl rfl tiSl_kmsg_DeleteTopicsResponseTopic.size rfl Try.underlying114 tipub_kmsg_DeleteTopicsResponseTopic (by decide) rfl (Nat.le_of_ble_eq_true rfl) (fun u2b g2 cap2 hb2 => ?_)
    have hx := hx.mv hb2
    refine at_cd ?_
    refine fl_list (o := 10) (sb := F_sDeleteTopicsResponseTopic) (j := 1) (off := 2) (ez := 20) (by kernel_rfl) rfl hx hle2 hz rfl (fun q hq => by simpa [Ent.blk] using hq) rfl (fun i hi u b5 g cap xs ci sl N' X' hu hxl hci kb => ?_) (fun u c hu hF => kk u c (hb2.trans hu) hF)
    have hmk : ∀ u2, Tr u u2 → CA Try.prog 179 [.agg ci.toArray] u2 fun u3 v => ∃ c, v = .agg c.toArray ∧ RMp u3 F_sDeleteTopicsResponseTopic (y.at_ 1).l[i] c := fun u2 h2 => make_makeDeleteTopicsResponseTopic u2 _ _ (hci.mv h2) (smTs.mem (hsm.at_ 1).open.2.2.2 _ (List.getElem_mem hi)) (gTs.mem (hg.at_ 1).open.2.2.2 _ (List.getElem_mem hi))
    exact fl_appPS (sb := F_sDeleteTopicsResponseTopic) (off := 2) rfl rfl Try.underlying116 rfl rfl tiSl_kmsg_DeleteTopicsResponseTopic.size rfl Try.underlying114 tipub_kmsg_DeleteTopicsResponseTopic rfl (by decide) (by decide) (by decide) (by kernel_rfl) en_179 hci.len hmk rfl (Nat.le_of_ble_eq_true rfl) (by omega) hxl (by kernel_rfl) (by kernel_rfl) kb
  have hx := hx.mv ht2
  refine at_msg (M' := ([.int .i16 v, .int .i32 (IntKind.i32.wrap (y.at_ 0).n), c2, .map none] : List Value)) rfl ?_
  refine at_cd ?_
  refine fl_tags (off := 3) rfl hx hg.open.1 (by have := hg.open.2.1; omega) rfl (fun q hq => by simpa [Ent.blk] using hq) rfl (fun i hi u b5 mo l tv E N' X' hu hv h0 hnew hL htx hfr kb => ?_) (fun u mv ht hT => ?_)
  · exact fl_setP (off := 3) (hL _ _ rfl) htx Try.underlying116 rfl tipub_kmsg_Tags.size rfl (frs_via hfr (v := .bool true) rfl) (Nat.le_of_ble_eq_true rfl) h0 hnew (by kernel_rfl) kb
  have hx := hx.mv ht
  have hF2 := hF2.mv ht
  refine at_msg (M' := ([.int .i16 v, .int .i32 (IntKind.i32.wrap (y.at_ 0).n), c2, mv] : List Value)) rfl ?_
  have hR : RMp _ F_DeleteTopicsResponse y ([.int .i32 (IntKind.i32.wrap (y.at_ 0).n), c2, mv] : List Value) := ⟨([.int .i32 (IntKind.i32.wrap (y.at_ 0).n), c2] : List Value), mv, rfl, (RMl_cons (c := [.int .i32 (IntKind.i32.wrap (y.at_ 0).n)]) (RMf_i32.2 rfl) (RMl_cons (c := [c2]) (RMf_list.2 ⟨_, rfl, hF2⟩) RMl_nil)), hT⟩
  exact at_retT0 (i := 0) rfl rfl (fun w hS => ⟨_, rfl, hR.mv (hS.trFinT _ _)⟩)
end K
end Go.Proofs.Ytmknncmdbmnmgaa
