import Derived.Test.YtmknncmdbmnmgabB5
import Derived.Test.YtmknncmdbmnmgabMbs
set_option linter.unusedVariables false
set_option linter.unusedSimpArgs false
namespace Go.Proofs.Ytmknncmdbmnmgab
namespace K
open Go Go.Lib
theorem make_makeOffsetCommitRequestTopicPartition (t : Vw) (y : Tre) (cs : List Value) (hx : RT t y cs) (hsm : smT y) (hg : gT y) : CA Try.prog 91 [.agg cs.toArray] t fun u v => ∃ c, v = .agg c.toArray ∧ RMp u F_sOffsetCommitRequestTopicPartition y c := by
  refine ca_enter Try.func91 rfl Try.ntmps91 rfl ?_
  refine cd_sr ?_
  refine ln_box (l := cs) rfl rfl rfl (fun b1 => ?_)
  refine ln_alloc (l := ([.int .i32 0, .int .i64 0, .int .i64 0, .int .i32 0, .pointer none, .map none] : List Value)) tipub_kmsg_OffsetCommitRequestTopicPartition rfl rfl (fun b2 => ?_)
  refine ln_cd ?_
  refine cd_sr ?_
  refine ln_alloc (l := ([.int .i32 0, .int .i64 0, .int .i64 0, .int .i32 0, .pointer none, .map none] : List Value)) tipub_kmsg_OffsetCommitRequestTopicPartition rfl rfl (fun b3 => ?_)
  refine ln_cd ?_
  refine cd_perm (H' := [MsgBox b3 126 ([.int .i32 0, .int .i64 0, .int .i64 0, .int .i32 0, .pointer none, .map none] : List Value), TreeBox b1 cs, MsgBox b2 126 ([.int .i32 0, .int .i64 0, .int .i64 0, .int .i32 0, .pointer none, .map none] : List Value)]) (List.Perm.cons _ (List.Perm.swap _ _ _)) ?_
  refine cd_sq ?_
  refine cd_region ?_
  refine ln_at (i0 := 1) (j := 0) rfl rfl hx rfl (fun u1 sS1 sL1 sU1 ht1 hd1 => ?_)
  have hx := hx.mv ht1
  refine ln_pv (pv_field1 (v := .int .i64 (y.at_ 0).n) Try.underlying39 rfl Try.underlying2 rfl lk_eq rfl) rfl ?_
  refine ln_pv (pv_conv' (k := .i64) (i := (y.at_ 0).n) Try.underlying2 Try.underlying21 lk_eq rfl) rfl ?_
  refine ln_pv (pv_fieldAddr (off := 0) (r := 0) Try.underlying126 rfl tiint32.size rfl rfl rfl) rfl ?_
  refine ln_storeM (M' := ([.int .i32 (IntKind.i32.wrap (y.at_ 0).n), .int .i64 0, .int .i64 0, .int .i32 0, .pointer none, .map none] : List Value)) rfl rfl rfl tiint32.size (Nat.le_of_ble_eq_true rfl) rfl ?_
  refine ln_nil ?_
  refine at_sub (.skip rfl (.skip rfl (.skip rfl (.skip rfl .rfl')))) ?_
  refine at_cd ?_
  refine cd_sq ?_
  refine cd_region ?_
  refine ln_at (i0 := 1) (j := 1) rfl rfl hx rfl (fun u2 sS2 sL2 sU2 ht2 hd2 => ?_)
  have hx := hx.mv ht2
  refine ln_pv (pv_field1 (v := .int .i64 (y.at_ 1).n) Try.underlying39 rfl Try.underlying2 rfl lk_eq rfl) rfl ?_
  have hI2 := hd2.i64
  refine ln_pv (pv_fieldAddr (off := 1) (r := 1) Try.underlying126 rfl tiint64.size rfl rfl rfl) rfl ?_
  refine ln_storeM (M' := ([.int .i32 (IntKind.i32.wrap (y.at_ 0).n), .int .i64 (y.at_ 1).n, .int .i64 0, .int .i32 0, .pointer none, .map none] : List Value)) rfl rfl rfl tiint64.size (Nat.le_of_ble_eq_true rfl) rfl ?_
  refine ln_nil ?_
  refine at_sub (.skip rfl (.skip rfl (.skip rfl .rfl'))) ?_
  refine at_cd ?_
  refine cd_sq ?_
  refine cd_region ?_
  refine ln_at (i0 := 1) (j := 2) rfl rfl hx rfl (fun u3 sS3 sL3 sU3 ht3 hd3 => ?_)
  have hx := hx.mv ht3
  refine ln_pv (pv_field1 (v := .int .i64 (y.at_ 2).n) Try.underlying39 rfl Try.underlying2 rfl lk_eq rfl) rfl ?_
  have hI3 := hd3.i64
  refine ln_pv (pv_fieldAddr (off := 2) (r := 2) Try.underlying126 rfl tiint64.size rfl rfl rfl) rfl ?_
  refine ln_storeM (M' := ([.int .i32 (IntKind.i32.wrap (y.at_ 0).n), .int .i64 (y.at_ 1).n, .int .i64 (y.at_ 2).n, .int .i32 0, .pointer none, .map none] : List Value)) rfl rfl rfl tiint64.size (Nat.le_of_ble_eq_true rfl) rfl ?_
  refine ln_nil ?_
  refine at_sub (.skip rfl (.skip rfl (.skip rfl .rfl'))) ?_
  refine at_cd ?_
  refine cd_sq ?_
  refine cd_region ?_
  refine ln_at (i0 := 1) (j := 3) rfl rfl hx rfl (fun u4 sS4 sL4 sU4 ht4 hd4 => ?_)
  have hx := hx.mv ht4
  refine ln_pv (pv_field1 (v := .int .i64 (y.at_ 3).n) Try.underlying39 rfl Try.underlying2 rfl lk_eq rfl) rfl ?_
  refine ln_pv (pv_conv' (k := .i64) (i := (y.at_ 3).n) Try.underlying2 Try.underlying21 lk_eq rfl) rfl ?_
  refine ln_pv (pv_fieldAddr (off := 3) (r := 3) Try.underlying126 rfl tiint32.size rfl rfl rfl) rfl ?_
  refine ln_storeM (M' := ([.int .i32 (IntKind.i32.wrap (y.at_ 0).n), .int .i64 (y.at_ 1).n, .int .i64 (y.at_ 2).n, .int .i32 (IntKind.i32.wrap (y.at_ 3).n), .pointer none, .map none] : List Value)) rfl rfl rfl tiint32.size (Nat.le_of_ble_eq_true rfl) rfl ?_
  refine ln_nil ?_
  refine at_sub (.skip rfl (.skip rfl (.skip rfl (.skip rfl .rfl')))) ?_
  refine at_cd ?_
  refine cd_sq ?_
  refine cd_region ?_
  refine ln_at (i0 := 1) (j := 4) rfl rfl hx rfl (fun u5 sS5 sL5 sU5 ht5 hd5 => ?_)
  have hx := hx.mv ht5
  refine ln_callA (vals := [.agg _]) en_72 rfl (fun u hu => impl_textOf u (y.at_ 4) _ (hd5.mv hu)) rfl (fun uc6 c6 htc6 hFc6 => ?_)
  have hx := hx.mv htc6
  refine ln_pv (pv_fieldAddr (off := 4) (r := 4) Try.underlying126 rfl tiPt_string.size rfl rfl rfl) rfl ?_
  refine ln_storeM (M' := ([.int .i32 (IntKind.i32.wrap (y.at_ 0).n), .int .i64 (y.at_ 1).n, .int .i64 (y.at_ 2).n, .int .i32 (IntKind.i32.wrap (y.at_ 3).n), c6, .map none] : List Value)) rfl rfl hFc6.one tiPt_string.size (Nat.le_of_ble_eq_true rfl) rfl ?_
  refine ln_nil ?_
  refine at_sub (.skip rfl (.skip rfl (.skip rfl .rfl'))) ?_
  refine at_cd ?_
  refine cd_sq ?_
  refine fl_tags (off := 5) rfl hx hg.open.1 (by have := hg.open.2.1; omega) rfl (fun q hq => hq.elim) rfl (fun i hi u b5 mo l tv E N' X' hu hv h0 hnew hL htx hfr kb => ?_) (fun u mv ht hT => ?_)
  · exact fl_setL (off := 5) (hL _ _ rfl) htx Try.underlying126 rfl tipub_kmsg_Tags.size rfl (frs_via hfr (v := .bool true) rfl) (Nat.le_of_ble_eq_true rfl) h0 hnew kb
  have hx := hx.mv ht
  have hFc6 := hFc6.mv ht
  refine at_msg (M' := ([.int .i32 (IntKind.i32.wrap (y.at_ 0).n), .int .i64 (y.at_ 1).n, .int .i64 (y.at_ 2).n, .int .i32 (IntKind.i32.wrap (y.at_ 3).n), c6, mv] : List Value)) rfl ?_
  refine at_cd ?_
  have hR : RMp _ F_sOffsetCommitRequestTopicPartition y ([.int .i32 (IntKind.i32.wrap (y.at_ 0).n), .int .i64 (y.at_ 1).n, .int .i64 (y.at_ 2).n, .int .i32 (IntKind.i32.wrap (y.at_ 3).n), c6, mv] : List Value) := ⟨([.int .i32 (IntKind.i32.wrap (y.at_ 0).n), .int .i64 (y.at_ 1).n, .int .i64 (y.at_ 2).n, .int .i32 (IntKind.i32.wrap (y.at_ 3).n), c6] : List Value), mv, rfl, (RMl_cons (c := [.int .i32 (IntKind.i32.wrap (y.at_ 0).n)]) (RMf_i32.2 rfl) (RMl_cons (c := [.int .i64 (y.at_ 1).n]) (RMf_i64.2 ⟨rfl, hI2⟩) (RMl_cons (c := [.int .i64 (y.at_ 2).n]) (RMf_i64.2 ⟨rfl, hI3⟩) (RMl_cons (c := [.int .i32 (IntKind.i32.wrap (y.at_ 3).n)]) (RMf_i32.2 rfl) (RMl_cons (c := [c6]) ((RMf_txt (by decide)).2 ⟨_, rfl, hFc6⟩) RMl_nil))))), hT⟩
  have hsz : fszs F_sOffsetCommitRequestTopicPartition + 1 = 6 := by kernel_rfl
  obtain ⟨hl9, h19⟩ := hR.len
  rw [hsz] at hl9
  refine cd_sr ?_
  refine ln_pv (pv_ldO (i := 0) rfl Try.underlying126 rfl tipub_kmsg_OffsetCommitRequestTopicPartition.size rfl hl9) rfl ?_
  refine ln_storeW (i := 2) (vs := ([.int .i32 (IntKind.i32.wrap (y.at_ 0).n), .int .i64 (y.at_ 1).n, .int .i64 (y.at_ 2).n, .int .i32 (IntKind.i32.wrap (y.at_ 3).n), c6, mv] : List Value)) rfl rfl rfl rfl tipub_kmsg_OffsetCommitRequestTopicPartition.size hl9 h19 ?_
  refine ln_cd ?_
  refine cd_ret ?_
  exact at_retC (i := 2) rfl rfl rfl Try.underlying126 rfl tipub_kmsg_OffsetCommitRequestTopicPartition.size hl9 (fun w hS => ⟨_, rfl, hR.mv hS.trFin⟩)
theorem make_makeOffsetCommitRequestTopic (t : Vw) (y : Tre) (cs : List Value) (hx : RT t y cs) (hsm : smT y) (hg : gT y) : CA Try.prog 73 [.agg cs.toArray] t fun u v => ∃ c, v = .agg c.toArray ∧ RMp u F_sOffsetCommitRequestTopic y c := by
  refine ca_enter Try.func73 rfl Try.ntmps73 rfl ?_
  refine cd_sr ?_
  refine ln_box (l := cs) rfl rfl rfl (fun b1 => ?_)
  refine ln_alloc (l := ([.string .empty, .int .u8 0, .int .u8 0, .int .u8 0, .int .u8 0, .int .u8 0, .int .u8 0, .int .u8 0, .int .u8 0, .int .u8 0, .int .u8 0, .int .u8 0, .int .u8 0, .int .u8 0, .int .u8 0, .int .u8 0, .int .u8 0, .slice none 0 0, .map none] : List Value)) tipub_kmsg_OffsetCommitRequestTopic rfl rfl (fun b2 => ?_)
  refine ln_cd ?_
  refine cd_sr ?_
  refine ln_alloc (l := ([.string .empty, .int .u8 0, .int .u8 0, .int .u8 0, .int .u8 0, .int .u8 0, .int .u8 0, .int .u8 0, .int .u8 0, .int .u8 0, .int .u8 0, .int .u8 0, .int .u8 0, .int .u8 0, .int .u8 0, .int .u8 0, .int .u8 0, .slice none 0 0, .map none] : List Value)) tipub_kmsg_OffsetCommitRequestTopic rfl rfl (fun b3 => ?_)
  refine ln_cd ?_
  refine cd_perm (H' := [MsgBox b3 118 ([.string .empty, .int .u8 0, .int .u8 0, .int .u8 0, .int .u8 0, .int .u8 0, .int .u8 0, .int .u8 0, .int .u8 0, .int .u8 0, .int .u8 0, .int .u8 0, .int .u8 0, .int .u8 0, .int .u8 0, .int .u8 0, .int .u8 0, .slice none 0 0, .map none] : List Value), TreeBox b1 cs, MsgBox b2 118 ([.string .empty, .int .u8 0, .int .u8 0, .int .u8 0, .int .u8 0, .int .u8 0, .int .u8 0, .int .u8 0, .int .u8 0, .int .u8 0, .int .u8 0, .int .u8 0, .int .u8 0, .int .u8 0, .int .u8 0, .int .u8 0, .int .u8 0, .slice none 0 0, .map none] : List Value)]) (List.Perm.cons _ (List.Perm.swap _ _ _)) ?_
  refine cd_sq ?_
  refine cd_region ?_
  refine ln_at (i0 := 1) (j := 0) rfl rfl hx rfl (fun u1 sS1 sL1 sU1 ht1 hd1 => ?_)
  have hx := hx.mv ht1
  have hS1 := hd1.str
  refine ln_pv (pv_field1 (v := sS1) Try.underlying39 rfl Try.underlying22 rfl lk_eq rfl) rfl ?_
  refine ln_pv (pv_b2s hS1 Try.underlying22 Try.underlying5 Try.underlying9 lk_eq) rfl ?_
  refine ln_pv (pv_fieldAddr (off := 0) (r := 0) Try.underlying118 rfl tistring.size rfl rfl rfl) rfl ?_
  refine ln_storeM (M' := ([.string ⟨(y.at_ 0).s.toArray⟩, .int .u8 0, .int .u8 0, .int .u8 0, .int .u8 0, .int .u8 0, .int .u8 0, .int .u8 0, .int .u8 0, .int .u8 0, .int .u8 0, .int .u8 0, .int .u8 0, .int .u8 0, .int .u8 0, .int .u8 0, .int .u8 0, .slice none 0 0, .map none] : List Value)) rfl rfl rfl tistring.size (Nat.le_of_ble_eq_true rfl) rfl ?_
  refine ln_nil ?_
  refine at_sub (.skip rfl (.skip rfl (.skip rfl (.skip rfl .rfl')))) ?_
  refine at_cd ?_
  refine cd_sq ?_
  refine cd_region ?_
  refine ln_at (i0 := 1) (j := 1) rfl rfl hx rfl (fun u2 sS2 sL2 sU2 ht2 hd2 => ?_)
  have hx := hx.mv ht2
  have hS2 := hd2.str
  refine ln_pv (pv_field1 (v := sS2) Try.underlying39 rfl Try.underlying22 rfl lk_eq rfl) rfl ?_
  refine ln_callA (vals := [sS2]) en_90 rfl (fun u hu => impl_sixteen u _ (y.at_ 1).s (RSv.mv hS2 hu)) rfl ?_
  rintro uc3 _ htc3 rfl
  have hx := hx.mv htc3
  refine ln_pv (pv_fieldAddr (off := 1) (r := 1) Try.underlying118 rfl ti_16_uint8.size rfl rfl rfl) rfl ?_
  refine ln_storeMA (m := 16) (M' := ([.string ⟨(y.at_ 0).s.toArray⟩] ++ (u8s (uuid (y.at_ 1).s) ++ ([.slice none 0 0, .map none])) : List Value)) rfl rfl (by simp [uuid_length]) (u8s_one _) ti_16_uint8.size (Nat.le_of_ble_eq_true rfl) (by simp [wr, uuid_length]) ?_
  refine ln_nil ?_
  refine at_sub (.skip rfl (.skip rfl (.skip rfl (.skip rfl .rfl')))) ?_
  refine at_cd ?_
  refine cd_sq ?_
  refine fl_nl (o := 10) (sb := F_sOffsetCommitRequestTopicPartition) (j := 2) (off := 17) rfl hx rfl (by simp [List.set_append, List.getElem?_append, wr, uuid_length]) (fun u4 c4 ht4 hF4 => ?_) (fun hz u4a hu4 kk => ?_)
  rotate_left
  · skip
    have hx := hx.mv hu4
    have hle4 : (y.at_ 2).l.length ≤ 32767 := (hg.at_ 2).open.2.2.1
    refine cd_sq ?_
    refine fl_makeL (ez := 6) (j := 2) (off := 17) rfl rfl hx hle4 Try.underlying118 rfl rfl tiSl_kmsg_OffsetCommitRequestTopicPartition.size rfl Try.underlying116 tipub_kmsg_OffsetCommitRequestTopicPartition (by decide) rfl (by simp [uuid_length]) (fun u4b g4 cap4 hb4 => ?_)
    have hx := hx.mv hb4
    refine at_cd ?_
    refine fl_list (o := 10) (sb := F_sOffsetCommitRequestTopicPartition) (j := 2) (off := 17) (ez := 6) (by kernel_rfl) rfl hx hle4 hz rfl (fun q hq => hq.elim) rfl (fun i hi u b5 g cap xs ci sl N' X' hu hxl hci kb => ?_) (fun u c hu hF => kk u c (hb4.trans hu) hF)
    have hmk : ∀ u2, Tr u u2 → CA Try.prog 91 [.agg ci.toArray] u2 fun u3 v => ∃ c, v = .agg c.toArray ∧ RMp u3 F_sOffsetCommitRequestTopicPartition (y.at_ 2).l[i] c := fun u2 h2 => make_makeOffsetCommitRequestTopicPartition u2 _ _ (hci.mv h2) (smTs.mem (hsm.at_ 2).open.2.2.2 _ (List.getElem_mem hi)) (gTs.mem (hg.at_ 2).open.2.2.2 _ (List.getElem_mem hi))
    exact fl_appLS (sb := F_sOffsetCommitRequestTopicPartition) (off := 17) rfl rfl Try.underlying118 rfl rfl tiSl_kmsg_OffsetCommitRequestTopicPartition.size rfl Try.underlying116 tipub_kmsg_OffsetCommitRequestTopicPartition rfl (by decide) (by decide) (by decide) (by kernel_rfl) en_91 hci.len hmk rfl (by simp [uuid_length]) (by omega) hxl (by kernel_rfl) (by kernel_rfl) kb
  have hx := hx.mv ht4
  refine at_msg (M' := ([.string ⟨(y.at_ 0).s.toArray⟩] ++ (u8s (uuid (y.at_ 1).s) ++ ([c4, .map none])) : List Value)) (by simp [List.set_append, List.getElem?_append, wr, uuid_length]) ?_
  refine at_cd ?_
  refine cd_sq ?_
  refine fl_tags (off := 18) rfl hx hg.open.1 (by have := hg.open.2.1; omega) rfl (fun q hq => hq.elim) (by simp [List.set_append, List.getElem?_append, wr, uuid_length]) (fun i hi u b5 mo l tv E N' X' hu hv h0 hnew hL htx hfr kb => ?_) (fun u mv ht hT => ?_)
  · exact fl_setL (off := 18) (hL _ _ rfl) htx Try.underlying118 rfl tipub_kmsg_Tags.size rfl (frs_via hfr (v := .bool true) rfl) (by simp [uuid_length]) h0 hnew kb
  have hx := hx.mv ht
  have hF4 := hF4.mv ht
  refine at_msg (M' := ([.string ⟨(y.at_ 0).s.toArray⟩] ++ (u8s (uuid (y.at_ 1).s) ++ ([c4, mv])) : List Value)) (by simp [List.set_append, List.getElem?_append, wr, uuid_length]) ?_
  refine at_cd ?_
  have hR : RMp _ F_sOffsetCommitRequestTopic y ([.string ⟨(y.at_ 0).s.toArray⟩] ++ (u8s (uuid (y.at_ 1).s) ++ ([c4, mv])) : List Value) := ⟨([.string ⟨(y.at_ 0).s.toArray⟩] ++ (u8s (uuid (y.at_ 1).s) ++ ([c4])) : List Value), mv, by simp, (RMl_cons (c := [.string ⟨(y.at_ 0).s.toArray⟩]) ((RMf_str (by decide)).2 rfl) (RMl_cons (c := u8s (uuid (y.at_ 1).s)) (RMf_uuid.2 rfl) (RMl_cons (c := [c4]) (RMf_list.2 ⟨_, rfl, hF4⟩) RMl_nil))), hT⟩
  have hsz : fszs F_sOffsetCommitRequestTopic + 1 = 19 := by kernel_rfl
  obtain ⟨hl9, h19⟩ := hR.len
  rw [hsz] at hl9
  refine cd_sr ?_
  refine ln_pv (pv_ldO (i := 0) rfl Try.underlying118 rfl tipub_kmsg_OffsetCommitRequestTopic.size rfl hl9) rfl ?_
  refine ln_storeW (i := 2) (vs := ([.string ⟨(y.at_ 0).s.toArray⟩] ++ (u8s (uuid (y.at_ 1).s) ++ ([c4, mv])) : List Value)) rfl rfl rfl rfl tipub_kmsg_OffsetCommitRequestTopic.size hl9 h19 ?_
  refine ln_cd ?_
  refine cd_ret ?_
  exact at_retC (i := 2) rfl rfl rfl Try.underlying118 rfl tipub_kmsg_OffsetCommitRequestTopic.size hl9 (fun w hS => ⟨_, rfl, hR.mv hS.trFin⟩)
theorem fill_OffsetCommitRequest (t : Vw) (b : Nat) (v : Int) (y : Tre) (cs : List Value) (hx : RT t y cs) (hsm : smT y) (hg : gT y) (hok : (MsgBox b 75 ([.int .i16 v, .string .empty, .int .i32 0, .string .empty, .pointer none, .int .i64 0, .slice none 0 0, .map none] : List Value)).ok t.w) (hav : ∀ q ∈ (MsgBox b 75 ([.int .i16 v, .string .empty, .int .i32 0, .string .empty, .pointer none, .int .i64 0, .slice none 0 0, .map none] : List Value)).blk, t.av q) : CT Try.prog 38 [.pointer (some ⟨b, 0, none⟩), .agg cs.toArray] t (MsgBox b 75 ([.int .i16 v, .string .empty, .int .i32 0, .string .empty, .pointer none, .int .i64 0, .slice none 0 0, .map none] : List Value)) fun u r e' => ∃ cells, e' = MsgBox b 75 (.int .i16 v :: cells) ∧ RMp u F_OffsetCommitRequest y cells := by
  refine ct_enter Try.func38 rfl Try.ntmps38 rfl hok hav (by simp [Ent.blk]) ?_
  refine cd_sr ?_
  refine ln_box (l := cs) rfl rfl rfl (fun b1 => ?_)
  refine ln_cd ?_
  refine cd_perm (H' := [MsgBox b 75 ([.int .i16 v, .string .empty, .int .i32 0, .string .empty, .pointer none, .int .i64 0, .slice none 0 0, .map none] : List Value), TreeBox b1 cs]) (List.Perm.swap _ _ _) ?_
  refine cd_sq ?_
  refine cd_region ?_
  refine ln_pv (pv_move rfl) rfl ?_
  refine ln_at (i0 := 1) (j := 0) rfl rfl hx rfl (fun u1 sS1 sL1 sU1 ht1 hd1 => ?_)
  have hx := hx.mv ht1
  have hS1 := hd1.str
  refine ln_pv (pv_field1 (v := sS1) Try.underlying39 rfl Try.underlying22 rfl lk_eq rfl) rfl ?_
  refine ln_pv (pv_b2s hS1 Try.underlying22 Try.underlying5 Try.underlying9 lk_eq) rfl ?_
  refine ln_pv (pv_nilCheck rfl) rfl ?_
  refine ln_pv (pv_fieldAddr (off := 1) (r := 1) Try.underlying75 rfl tistring.size rfl rfl rfl) rfl ?_
  refine ln_storeM (M' := ([.int .i16 v, .string ⟨(y.at_ 0).s.toArray⟩, .int .i32 0, .string .empty, .pointer none, .int .i64 0, .slice none 0 0, .map none] : List Value)) rfl rfl rfl tistring.size (Nat.le_of_ble_eq_true rfl) rfl ?_
  refine ln_nil ?_
  refine at_sub (.skip rfl (.skip rfl (.skip rfl (.skip rfl (.skip rfl (.skip rfl .rfl')))))) ?_
  refine at_cd ?_
  refine cd_sq ?_
  refine cd_region ?_
  refine ln_pv (pv_move rfl) rfl ?_
  refine ln_at (i0 := 1) (j := 1) rfl rfl hx rfl (fun u2 sS2 sL2 sU2 ht2 hd2 => ?_)
  have hx := hx.mv ht2
  refine ln_pv (pv_field1 (v := .int .i64 (y.at_ 1).n) Try.underlying39 rfl Try.underlying2 rfl lk_eq rfl) rfl ?_
  refine ln_pv (pv_conv' (k := .i64) (i := (y.at_ 1).n) Try.underlying2 Try.underlying21 lk_eq rfl) rfl ?_
  refine ln_pv (pv_nilCheck rfl) rfl ?_
  refine ln_pv (pv_fieldAddr (off := 2) (r := 2) Try.underlying75 rfl tiint32.size rfl rfl rfl) rfl ?_
  refine ln_storeM (M' := ([.int .i16 v, .string ⟨(y.at_ 0).s.toArray⟩, .int .i32 (IntKind.i32.wrap (y.at_ 1).n), .string .empty, .pointer none, .int .i64 0, .slice none 0 0, .map none] : List Value)) rfl rfl rfl tiint32.size (Nat.le_of_ble_eq_true rfl) rfl ?_
  refine ln_nil ?_
  refine at_sub (.skip rfl (.skip rfl (.skip rfl (.skip rfl (.skip rfl (.skip rfl .rfl')))))) ?_
  refine at_cd ?_
  refine cd_sq ?_
  refine cd_region ?_
  refine ln_pv (pv_move rfl) rfl ?_
  refine ln_at (i0 := 1) (j := 2) rfl rfl hx rfl (fun u3 sS3 sL3 sU3 ht3 hd3 => ?_)
  have hx := hx.mv ht3
  have hS3 := hd3.str
  refine ln_pv (pv_field1 (v := sS3) Try.underlying39 rfl Try.underlying22 rfl lk_eq rfl) rfl ?_
  refine ln_pv (pv_b2s hS3 Try.underlying22 Try.underlying5 Try.underlying9 lk_eq) rfl ?_
  refine ln_pv (pv_nilCheck rfl) rfl ?_
  refine ln_pv (pv_fieldAddr (off := 3) (r := 3) Try.underlying75 rfl tistring.size rfl rfl rfl) rfl ?_
  refine ln_storeM (M' := ([.int .i16 v, .string ⟨(y.at_ 0).s.toArray⟩, .int .i32 (IntKind.i32.wrap (y.at_ 1).n), .string ⟨(y.at_ 2).s.toArray⟩, .pointer none, .int .i64 0, .slice none 0 0, .map none] : List Value)) rfl rfl rfl tistring.size (Nat.le_of_ble_eq_true rfl) rfl ?_
  refine ln_nil ?_
  refine at_sub (.skip rfl (.skip rfl (.skip rfl (.skip rfl (.skip rfl (.skip rfl .rfl')))))) ?_
  refine at_cd ?_
  refine cd_sq ?_
  refine cd_region ?_
  refine ln_pv (pv_move rfl) rfl ?_
  refine ln_at (i0 := 1) (j := 3) rfl rfl hx rfl (fun u4 sS4 sL4 sU4 ht4 hd4 => ?_)
  have hx := hx.mv ht4
  refine ln_callA (vals := [.agg _]) en_72 rfl (fun u hu => impl_textOf u (y.at_ 3) _ (hd4.mv hu)) rfl (fun uc5 c5 htc5 hFc5 => ?_)
  have hx := hx.mv htc5
  refine ln_pv (pv_nilCheck rfl) rfl ?_
  refine ln_pv (pv_fieldAddr (off := 4) (r := 4) Try.underlying75 rfl tiPt_string.size rfl rfl rfl) rfl ?_
  refine ln_storeM (M' := ([.int .i16 v, .string ⟨(y.at_ 0).s.toArray⟩, .int .i32 (IntKind.i32.wrap (y.at_ 1).n), .string ⟨(y.at_ 2).s.toArray⟩, c5, .int .i64 0, .slice none 0 0, .map none] : List Value)) rfl rfl hFc5.one tiPt_string.size (Nat.le_of_ble_eq_true rfl) rfl ?_
  refine ln_nil ?_
  refine at_sub (.skip rfl (.skip rfl (.skip rfl (.skip rfl (.skip rfl .rfl'))))) ?_
  refine at_cd ?_
  refine cd_sq ?_
  refine cd_region ?_
  refine ln_pv (pv_move rfl) rfl ?_
  refine ln_at (i0 := 1) (j := 4) rfl rfl hx rfl (fun u6 sS6 sL6 sU6 ht6 hd6 => ?_)
  have hx := hx.mv ht6
  have hFc5 := hFc5.mv ht6
  refine ln_pv (pv_field1 (v := .int .i64 (y.at_ 4).n) Try.underlying39 rfl Try.underlying2 rfl lk_eq rfl) rfl ?_
  have hI6 := hd6.i64
  refine ln_pv (pv_nilCheck rfl) rfl ?_
  refine ln_pv (pv_fieldAddr (off := 5) (r := 5) Try.underlying75 rfl tiint64.size rfl rfl rfl) rfl ?_
  refine ln_storeM (M' := ([.int .i16 v, .string ⟨(y.at_ 0).s.toArray⟩, .int .i32 (IntKind.i32.wrap (y.at_ 1).n), .string ⟨(y.at_ 2).s.toArray⟩, c5, .int .i64 (y.at_ 4).n, .slice none 0 0, .map none] : List Value)) rfl rfl rfl tiint64.size (Nat.le_of_ble_eq_true rfl) rfl ?_
  refine ln_nil ?_
  refine at_sub (.skip rfl (.skip rfl (.skip rfl (.skip rfl (.skip rfl .rfl'))))) ?_
  refine at_cd ?_
  refine cd_sq ?_
  refine fl_nl (o := 10) (sb := F_sOffsetCommitRequestTopic) (j := 5) (off := 6) rfl hx rfl rfl (fun u7 c7 ht7 hF7 => ?_) (fun hz u7a hu7 kk => ?_)
  rotate_left
  · skip
    have hx := hx.mv hu7
    have hFc5 := hFc5.mv hu7
    have hle7 : (y.at_ 5).l.length ≤ 32767 := (hg.at_ 5).open.2.2.1
    refine cd_sq ?_
    refine fl_makeP (ez := 19) (j := 5) (off := 6) rfl rfl hx hle7 Try.underlying75 rfl rfl tiSl_kmsg_OffsetCommitRequestTopic.size rfl Try.underlying73 tipub_kmsg_OffsetCommitRequestTopic (by decide) rfl (Nat.le_of_ble_eq_true rfl) (fun u7b g7 cap7 hb7 => ?_)
    have hx := hx.mv hb7
    have hFc5 := hFc5.mv hb7
    refine at_cd ?_
    refine fl_list (o := 10) (sb := F_sOffsetCommitRequestTopic) (j := 5) (off := 6) (ez := 19) (by kernel_rfl) rfl hx hle7 hz rfl (fun q hq => by simpa [Ent.blk] using hq) rfl (fun i hi u b5 g cap xs ci sl N' X' hu hxl hci kb => ?_) (fun u c hu hF => kk u c (hb7.trans hu) hF)
    have hmk : ∀ u2, Tr u u2 → CA Try.prog 73 [.agg ci.toArray] u2 fun u3 v => ∃ c, v = .agg c.toArray ∧ RMp u3 F_sOffsetCommitRequestTopic (y.at_ 5).l[i] c := fun u2 h2 => make_makeOffsetCommitRequestTopic u2 _ _ (hci.mv h2) (smTs.mem (hsm.at_ 5).open.2.2.2 _ (List.getElem_mem hi)) (gTs.mem (hg.at_ 5).open.2.2.2 _ (List.getElem_mem hi))
    exact fl_appPS (sb := F_sOffsetCommitRequestTopic) (off := 6) rfl rfl Try.underlying75 rfl rfl tiSl_kmsg_OffsetCommitRequestTopic.size rfl Try.underlying73 tipub_kmsg_OffsetCommitRequestTopic rfl (by decide) (by decide) (by decide) (by kernel_rfl) en_73 hci.len hmk rfl (Nat.le_of_ble_eq_true rfl) (by omega) hxl (by kernel_rfl) (by kernel_rfl) kb
  have hx := hx.mv ht7
  have hFc5 := hFc5.mv ht7
  refine at_msg (M' := ([.int .i16 v, .string ⟨(y.at_ 0).s.toArray⟩, .int .i32 (IntKind.i32.wrap (y.at_ 1).n), .string ⟨(y.at_ 2).s.toArray⟩, c5, .int .i64 (y.at_ 4).n, c7, .map none] : List Value)) rfl ?_
  refine at_cd ?_
  refine fl_tags (off := 7) rfl hx hg.open.1 (by have := hg.open.2.1; omega) rfl (fun q hq => by simpa [Ent.blk] using hq) rfl (fun i hi u b5 mo l tv E N' X' hu hv h0 hnew hL htx hfr kb => ?_) (fun u mv ht hT => ?_)
  · exact fl_setP (off := 7) (hL _ _ rfl) htx Try.underlying75 rfl tipub_kmsg_Tags.size rfl (frs_via hfr (v := .bool true) rfl) (Nat.le_of_ble_eq_true rfl) h0 hnew (by kernel_rfl) kb
  have hx := hx.mv ht
  have hFc5 := hFc5.mv ht
  have hF7 := hF7.mv ht
  refine at_msg (M' := ([.int .i16 v, .string ⟨(y.at_ 0).s.toArray⟩, .int .i32 (IntKind.i32.wrap (y.at_ 1).n), .string ⟨(y.at_ 2).s.toArray⟩, c5, .int .i64 (y.at_ 4).n, c7, mv] : List Value)) rfl ?_
  have hR : RMp _ F_OffsetCommitRequest y ([.string ⟨(y.at_ 0).s.toArray⟩, .int .i32 (IntKind.i32.wrap (y.at_ 1).n), .string ⟨(y.at_ 2).s.toArray⟩, c5, .int .i64 (y.at_ 4).n, c7, mv] : List Value) := ⟨([.string ⟨(y.at_ 0).s.toArray⟩, .int .i32 (IntKind.i32.wrap (y.at_ 1).n), .string ⟨(y.at_ 2).s.toArray⟩, c5, .int .i64 (y.at_ 4).n, c7] : List Value), mv, rfl, (RMl_cons (c := [.string ⟨(y.at_ 0).s.toArray⟩]) ((RMf_str (by decide)).2 rfl) (RMl_cons (c := [.int .i32 (IntKind.i32.wrap (y.at_ 1).n)]) (RMf_i32.2 rfl) (RMl_cons (c := [.string ⟨(y.at_ 2).s.toArray⟩]) ((RMf_str (by decide)).2 rfl) (RMl_cons (c := [c5]) ((RMf_txt (by decide)).2 ⟨_, rfl, hFc5⟩) (RMl_cons (c := [.int .i64 (y.at_ 4).n]) (RMf_i64.2 ⟨rfl, hI6⟩) (RMl_cons (c := [c7]) (RMf_list.2 ⟨_, rfl, hF7⟩) RMl_nil)))))), hT⟩
  exact at_retT0 (i := 0) rfl rfl (fun w hS => ⟨_, rfl, hR.mv (hS.trFinT _ _)⟩)
end K
end Go.Proofs.Ytmknncmdbmnmgab
