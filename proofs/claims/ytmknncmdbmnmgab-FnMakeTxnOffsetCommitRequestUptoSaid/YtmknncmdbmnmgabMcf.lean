import Derived.Test.YtmknncmdbmnmgabB5
import Derived.Test.YtmknncmdbmnmgabMcs
set_option linter.unusedVariables false
set_option linter.unusedSimpArgs false
namespace Go.Proofs.Ytmknncmdbmnmgab
namespace K
open Go Go.Lib
theorem make_makeTxnOffsetCommitRequestTopicPartition (t : Vw) (y : Tre) (cs : List Value) (hx : RT t y cs) (hsm : smT y) (hg : gT y) : CA Try.prog 93 [.agg cs.toArray] t fun u v => ∃ c, v = .agg c.toArray ∧ RMp u F_sTxnOffsetCommitRequestTopicPartition y c := by
  refine ca_enter Try.func93 rfl Try.ntmps93 rfl ?_
  refine cd_sr ?_
  refine ln_box (l := cs) rfl rfl rfl (fun b1 => ?_)
  refine ln_alloc (l := ([.int .i32 0, .int .i64 0, .int .i32 0, .pointer none, .map none] : List Value)) tipub_kmsg_TxnOffsetCommitRequestTopicPartition rfl rfl (fun b2 => ?_)
  refine ln_cd ?_
  refine cd_sr ?_
  refine ln_alloc (l := ([.int .i32 0, .int .i64 0, .int .i32 0, .pointer none, .map none] : List Value)) tipub_kmsg_TxnOffsetCommitRequestTopicPartition rfl rfl (fun b3 => ?_)
  refine ln_cd ?_
  refine cd_perm (H' := [MsgBox b3 134 ([.int .i32 0, .int .i64 0, .int .i32 0, .pointer none, .map none] : List Value), TreeBox b1 cs, MsgBox b2 134 ([.int .i32 0, .int .i64 0, .int .i32 0, .pointer none, .map none] : List Value)]) (List.Perm.cons _ (List.Perm.swap _ _ _)) ?_
  refine cd_sq ?_
  refine cd_region ?_
  refine ln_at (i0 := 1) (j := 0) rfl rfl hx rfl (fun u1 sS1 sL1 sU1 ht1 hd1 => ?_)
  have hx := hx.mv ht1
  refine ln_pv (pv_field1 (v := .int .i64 (y.at_ 0).n) Try.underlying39 rfl Try.underlying2 rfl lk_eq rfl) rfl ?_
  refine ln_pv (pv_conv' (k := .i64) (i := (y.at_ 0).n) Try.underlying2 Try.underlying21 lk_eq rfl) rfl ?_
  refine ln_pv (pv_fieldAddr (off := 0) (r := 0) Try.underlying134 rfl tiint32.size rfl rfl rfl) rfl ?_
  refine ln_storeM (M' := ([.int .i32 (IntKind.i32.wrap (y.at_ 0).n), .int .i64 0, .int .i32 0, .pointer none, .map none] : List Value)) rfl rfl rfl tiint32.size (Nat.le_of_ble_eq_true rfl) rfl ?_
  refine ln_nil ?_
  refine at_sub (.skip rfl (.skip rfl (.skip rfl (.skip rfl .rfl')))) ?_
  refine at_cd ?_
  refine cd_sq ?_
  refine cd_region ?_
  refine ln_at (i0 := 1) (j := 1) rfl rfl hx rfl (fun u2 sS2 sL2 sU2 ht2 hd2 => ?_)
  have hx := hx.mv ht2
  refine ln_pv (pv_field1 (v := .int .i64 (y.at_ 1).n) Try.underlying39 rfl Try.underlying2 rfl lk_eq rfl) rfl ?_
  have hI2 := hd2.i64
  refine ln_pv (pv_fieldAddr (off := 1) (r := 1) Try.underlying134 rfl tiint64.size rfl rfl rfl) rfl ?_
  refine ln_storeM (M' := ([.int .i32 (IntKind.i32.wrap (y.at_ 0).n), .int .i64 (y.at_ 1).n, .int .i32 0, .pointer none, .map none] : List Value)) rfl rfl rfl tiint64.size (Nat.le_of_ble_eq_true rfl) rfl ?_
  refine ln_nil ?_
  refine at_sub (.skip rfl (.skip rfl (.skip rfl .rfl'))) ?_
  refine at_cd ?_
  refine cd_sq ?_
  refine cd_region ?_
  refine ln_at (i0 := 1) (j := 2) rfl rfl hx rfl (fun u3 sS3 sL3 sU3 ht3 hd3 => ?_)
  have hx := hx.mv ht3
  refine ln_pv (pv_field1 (v := .int .i64 (y.at_ 2).n) Try.underlying39 rfl Try.underlying2 rfl lk_eq rfl) rfl ?_
  refine ln_pv (pv_conv' (k := .i64) (i := (y.at_ 2).n) Try.underlying2 Try.underlying21 lk_eq rfl) rfl ?_
  refine ln_pv (pv_fieldAddr (off := 2) (r := 2) Try.underlying134 rfl tiint32.size rfl rfl rfl) rfl ?_
  refine ln_storeM (M' := ([.int .i32 (IntKind.i32.wrap (y.at_ 0).n), .int .i64 (y.at_ 1).n, .int .i32 (IntKind.i32.wrap (y.at_ 2).n), .pointer none, .map none] : List Value)) rfl rfl rfl tiint32.size (Nat.le_of_ble_eq_true rfl) rfl ?_
  refine ln_nil ?_
  refine at_sub (.skip rfl (.skip rfl (.skip rfl (.skip rfl .rfl')))) ?_
  refine at_cd ?_
  refine cd_sq ?_
  refine cd_region ?_
  refine ln_at (i0 := 1) (j := 3) rfl rfl hx rfl (fun u4 sS4 sL4 sU4 ht4 hd4 => ?_)
  have hx := hx.mv ht4
  refine ln_callA (vals := [.agg _]) en_72 rfl (fun u hu => impl_textOf u (y.at_ 3) _ (hd4.mv hu)) rfl (fun uc5 c5 htc5 hFc5 => ?_)
  have hx := hx.mv htc5
  refine ln_pv (pv_fieldAddr (off := 3) (r := 3) Try.underlying134 rfl tiPt_string.size rfl rfl rfl) rfl ?_
  refine ln_storeM (M' := ([.int .i32 (IntKind.i32.wrap (y.at_ 0).n), .int .i64 (y.at_ 1).n, .int .i32 (IntKind.i32.wrap (y.at_ 2).n), c5, .map none] : List Value)) rfl rfl hFc5.one tiPt_string.size (Nat.le_of_ble_eq_true rfl) rfl ?_
  refine ln_nil ?_
  refine at_sub (.skip rfl (.skip rfl (.skip rfl .rfl'))) ?_
  refine at_cd ?_
  refine cd_sq ?_
  refine fl_tags (off := 4) rfl hx hg.open.1 (by have := hg.open.2.1; omega) rfl (fun q hq => hq.elim) rfl (fun i hi u b5 mo l tv E N' X' hu hv h0 hnew hL htx hfr kb => ?_) (fun u mv ht hT => ?_)
  · exact fl_setL (off := 4) (hL _ _ rfl) htx Try.underlying134 rfl tipub_kmsg_Tags.size rfl (frs_via hfr (v := .bool true) rfl) (Nat.le_of_ble_eq_true rfl) h0 hnew kb
  have hx := hx.mv ht
  have hFc5 := hFc5.mv ht
  refine at_msg (M' := ([.int .i32 (IntKind.i32.wrap (y.at_ 0).n), .int .i64 (y.at_ 1).n, .int .i32 (IntKind.i32.wrap (y.at_ 2).n), c5, mv] : List Value)) rfl ?_
  refine at_cd ?_
  have hR : RMp _ F_sTxnOffsetCommitRequestTopicPartition y ([.int .i32 (IntKind.i32.wrap (y.at_ 0).n), .int .i64 (y.at_ 1).n, .int .i32 (IntKind.i32.wrap (y.at_ 2).n), c5, mv] : List Value) := ⟨([.int .i32 (IntKind.i32.wrap (y.at_ 0).n), .int .i64 (y.at_ 1).n, .int .i32 (IntKind.i32.wrap (y.at_ 2).n), c5] : List Value), mv, rfl, (RMl_cons (c := [.int .i32 (IntKind.i32.wrap (y.at_ 0).n)]) (RMf_i32.2 rfl) (RMl_cons (c := [.int .i64 (y.at_ 1).n]) (RMf_i64.2 ⟨rfl, hI2⟩) (RMl_cons (c := [.int .i32 (IntKind.i32.wrap (y.at_ 2).n)]) (RMf_i32.2 rfl) (RMl_cons (c := [c5]) ((RMf_txt (by decide)).2 ⟨_, rfl, hFc5⟩) RMl_nil)))), hT⟩
  have hsz : fszs F_sTxnOffsetCommitRequestTopicPartition + 1 = 5 := by kernel_rfl
  obtain ⟨hl9, h19⟩ := hR.len
  rw [hsz] at hl9
  refine cd_sr ?_
  refine ln_pv (pv_ldO (i := 0) rfl Try.underlying134 rfl tipub_kmsg_TxnOffsetCommitRequestTopicPartition.size rfl hl9) rfl ?_
  refine ln_storeW (i := 2) (vs := ([.int .i32 (IntKind.i32.wrap (y.at_ 0).n), .int .i64 (y.at_ 1).n, .int .i32 (IntKind.i32.wrap (y.at_ 2).n), c5, mv] : List Value)) rfl rfl rfl rfl tipub_kmsg_TxnOffsetCommitRequestTopicPartition.size hl9 h19 ?_
  refine ln_cd ?_
  refine cd_ret ?_
  exact at_retC (i := 2) rfl rfl rfl Try.underlying134 rfl tipub_kmsg_TxnOffsetCommitRequestTopicPartition.size hl9 (fun w hS => ⟨_, rfl, hR.mv hS.trFin⟩)
theorem make_makeTxnOffsetCommitRequestTopic (t : Vw) (y : Tre) (cs : List Value) (hx : RT t y cs) (hsm : smT y) (hg : gT y) : CA Try.prog 80 [.agg cs.toArray] t fun u v => ∃ c, v = .agg c.toArray ∧ RMp u F_sTxnOffsetCommitRequestTopic y c := by
  refine ca_enter Try.func80 rfl Try.ntmps80 rfl ?_
  refine cd_sr ?_
  refine ln_box (l := cs) rfl rfl rfl (fun b1 => ?_)
  refine ln_alloc (l := ([.string .empty, .int .u8 0, .int .u8 0, .int .u8 0, .int .u8 0, .int .u8 0, .int .u8 0, .int .u8 0, .int .u8 0, .int .u8 0, .int .u8 0, .int .u8 0, .int .u8 0, .int .u8 0, .int .u8 0, .int .u8 0, .int .u8 0, .slice none 0 0, .map none] : List Value)) tipub_kmsg_TxnOffsetCommitRequestTopic rfl rfl (fun b2 => ?_)
  refine ln_cd ?_
  refine cd_sr ?_
  refine ln_alloc (l := ([.string .empty, .int .u8 0, .int .u8 0, .int .u8 0, .int .u8 0, .int .u8 0, .int .u8 0, .int .u8 0, .int .u8 0, .int .u8 0, .int .u8 0, .int .u8 0, .int .u8 0, .int .u8 0, .int .u8 0, .int .u8 0, .int .u8 0, .slice none 0 0, .map none] : List Value)) tipub_kmsg_TxnOffsetCommitRequestTopic rfl rfl (fun b3 => ?_)
  refine ln_cd ?_
  refine cd_perm (H' := [MsgBox b3 129 ([.string .empty, .int .u8 0, .int .u8 0, .int .u8 0, .int .u8 0, .int .u8 0, .int .u8 0, .int .u8 0, .int .u8 0, .int .u8 0, .int .u8 0, .int .u8 0, .int .u8 0, .int .u8 0, .int .u8 0, .int .u8 0, .int .u8 0, .slice none 0 0, .map none] : List Value), TreeBox b1 cs, MsgBox b2 129 ([.string .empty, .int .u8 0, .int .u8 0, .int .u8 0, .int .u8 0, .int .u8 0, .int .u8 0, .int .u8 0, .int .u8 0, .int .u8 0, .int .u8 0, .int .u8 0, .int .u8 0, .int .u8 0, .int .u8 0, .int .u8 0, .int .u8 0, .slice none 0 0, .map none] : List Value)]) (List.Perm.cons _ (List.Perm.swap _ _ _)) ?_
  refine cd_sq ?_
  refine cd_region ?_
  refine ln_at (i0 := 1) (j := 0) rfl rfl hx rfl (fun u1 sS1 sL1 sU1 ht1 hd1 => ?_)
  have hx := hx.mv ht1
  have hS1 := hd1.str
  refine ln_pv (pv_field1 (v := sS1) Try.underlying39 rfl Try.underlying22 rfl lk_eq rfl) rfl ?_
  refine ln_pv (pv_b2s hS1 Try.underlying22 Try.underlying5 Try.underlying9 lk_eq) rfl ?_
  refine ln_pv (pv_fieldAddr (off := 0) (r := 0) Try.underlying129 rfl tistring.size rfl rfl rfl) rfl ?_
  refine ln_storeM (M' := ([.string ⟨(y.at_ 0).s.toArray⟩, .int .u8 0, .int .u8 0, .int .u8 0, .int .u8 0, .int .u8 0, .int .u8 0, .int .u8 0, .int .u8 0, .int .u8 0, .int .u8 0, .int .u8 0, .int .u8 0, .int .u8 0, .int .u8 0, .int .u8 0, .int .u8 0, .slice none 0 0, .map none] : List Value)) rfl rfl rfl tistring.size (Nat.le_of_ble_eq_true rfl) rfl ?_
  refine ln_nil ?_
  refine at_sub (.skip rfl (.skip rfl (.skip rfl (.skip rfl .rfl')))) ?_
  refine at_cd ?_
  refine cd_sq ?_
  refine cd_region ?_
  refine ln_at (i0 := 1) (j := 1) rfl rfl hx rfl (fun u2 sS2 sL2 sU2 ht2 hd2 => ?_)
  have hx := hx.mv ht2
  have hS2 := hd2.str
  refine ln_pv (pv_field1 (v := sS2) Try.underlying39 rfl Try.underlying22 rfl lk_eq rfl) rfl ?_
  refine ln_callA (vals := [sS2]) en_90 rfl (fun u hu => impl_sixteen u _ (y.at_ 1).s (RSv.mv hS2 hu)) rfl ?_
  rintro uc3 _ htc3 rfl
  have hx := hx.mv htc3
  refine ln_pv (pv_fieldAddr (off := 1) (r := 1) Try.underlying129 rfl ti_16_uint8.size rfl rfl rfl) rfl ?_
  refine ln_storeMA (m := 16) (M' := ([.string ⟨(y.at_ 0).s.toArray⟩] ++ (u8s (uuid (y.at_ 1).s) ++ ([.slice none 0 0, .map none])) : List Value)) rfl rfl (by simp [uuid_length]) (u8s_one _) ti_16_uint8.size (Nat.le_of_ble_eq_true rfl) (by simp [wr, uuid_length]) ?_
  refine ln_nil ?_
  refine at_sub (.skip rfl (.skip rfl (.skip rfl (.skip rfl .rfl')))) ?_
  refine at_cd ?_
  refine cd_sq ?_
  refine fl_nl (o := 10) (sb := F_sTxnOffsetCommitRequestTopicPartition) (j := 2) (off := 17) rfl hx rfl (by simp [List.set_append, List.getElem?_append, wr, uuid_length]) (fun u4 c4 ht4 hF4 => ?_) (fun hz u4a hu4 kk => ?_)
  rotate_left
  · skip
    have hx := hx.mv hu4
    have hle4 : (y.at_ 2).l.length ≤ 32767 := (hg.at_ 2).open.2.2.1
    refine cd_sq ?_
    refine fl_makeL (ez := 5) (j := 2) (off := 17) rfl rfl hx hle4 Try.underlying129 rfl rfl tiSl_kmsg_TxnOffsetCommitRequestTopicPartition.size rfl Try.underlying127 tipub_kmsg_TxnOffsetCommitRequestTopicPartition (by decide) rfl (by simp [uuid_length]) (fun u4b g4 cap4 hb4 => ?_)
    have hx := hx.mv hb4
    refine at_cd ?_
    refine fl_list (o := 10) (sb := F_sTxnOffsetCommitRequestTopicPartition) (j := 2) (off := 17) (ez := 5) (by kernel_rfl) rfl hx hle4 hz rfl (fun q hq => hq.elim) rfl (fun i hi u b5 g cap xs ci sl N' X' hu hxl hci kb => ?_) (fun u c hu hF => kk u c (hb4.trans hu) hF)
    have hmk : ∀ u2, Tr u u2 → CA Try.prog 93 [.agg ci.toArray] u2 fun u3 v => ∃ c, v = .agg c.toArray ∧ RMp u3 F_sTxnOffsetCommitRequestTopicPartition (y.at_ 2).l[i] c := fun u2 h2 => make_makeTxnOffsetCommitRequestTopicPartition u2 _ _ (hci.mv h2) (smTs.mem (hsm.at_ 2).open.2.2.2 _ (List.getElem_mem hi)) (gTs.mem (hg.at_ 2).open.2.2.2 _ (List.getElem_mem hi))
    exact fl_appLS (sb := F_sTxnOffsetCommitRequestTopicPartition) (off := 17) rfl rfl Try.underlying129 rfl rfl tiSl_kmsg_TxnOffsetCommitRequestTopicPartition.size rfl Try.underlying127 tipub_kmsg_TxnOffsetCommitRequestTopicPartition rfl (by decide) (by decide) (by decide) (by kernel_rfl) en_93 hci.len hmk rfl (by simp [uuid_length]) (by omega) hxl (by kernel_rfl) (by kernel_rfl) kb
  have hx := hx.mv ht4
  refine at_msg (M' := ([.string ⟨(y.at_ 0).s.toArray⟩] ++ (u8s (uuid (y.at_ 1).s) ++ ([c4, .map none])) : List Value)) (by simp [List.set_append, List.getElem?_append, wr, uuid_length]) ?_
  refine at_cd ?_
  refine cd_sq ?_
  refine fl_tags (off := 18) rfl hx hg.open.1 (by have := hg.open.2.1; omega) rfl (fun q hq => hq.elim) (by simp [List.set_append, List.getElem?_append, wr, uuid_length]) (fun i hi u b5 mo l tv E N' X' hu hv h0 hnew hL htx hfr kb => ?_) (fun u mv ht hT => ?_)
  · exact fl_setL (off := 18) (hL _ _ rfl) htx Try.underlying129 rfl tipub_kmsg_Tags.size rfl (frs_via hfr (v := .bool true) rfl) (by simp [uuid_length]) h0 hnew kb
  have hx := hx.mv ht
  have hF4 := hF4.mv ht
  refine at_msg (M' := ([.string ⟨(y.at_ 0).s.toArray⟩] ++ (u8s (uuid (y.at_ 1).s) ++ ([c4, mv])) : List Value)) (by simp [List.set_append, List.getElem?_append, wr, uuid_length]) ?_
  refine at_cd ?_
  have hR : RMp _ F_sTxnOffsetCommitRequestTopic y ([.string ⟨(y.at_ 0).s.toArray⟩] ++ (u8s (uuid (y.at_ 1).s) ++ ([c4, mv])) : List Value) := ⟨([.string ⟨(y.at_ 0).s.toArray⟩] ++ (u8s (uuid (y.at_ 1).s) ++ ([c4])) : List Value), mv, by simp, (RMl_cons (c := [.string ⟨(y.at_ 0).s.toArray⟩]) ((RMf_str (by decide)).2 rfl) (RMl_cons (c := u8s (uuid (y.at_ 1).s)) (RMf_uuid.2 rfl) (RMl_cons (c := [c4]) (RMf_list.2 ⟨_, rfl, hF4⟩) RMl_nil))), hT⟩
  have hsz : fszs F_sTxnOffsetCommitRequestTopic + 1 = 19 := by kernel_rfl
  obtain ⟨hl9, h19⟩ := hR.len
  rw [hsz] at hl9
  refine cd_sr ?_
  refine ln_pv (pv_ldO (i := 0) rfl Try.underlying129 rfl tipub_kmsg_TxnOffsetCommitRequestTopic.size rfl hl9) rfl ?_
  refine ln_storeW (i := 2) (vs := ([.string ⟨(y.at_ 0).s.toArray⟩] ++ (u8s (uuid (y.at_ 1).s) ++ ([c4, mv])) : List Value)) rfl rfl rfl rfl tipub_kmsg_TxnOffsetCommitRequestTopic.size hl9 h19 ?_
  refine ln_cd ?_
  refine cd_ret ?_
  exact at_retC (i := 2) rfl rfl rfl Try.underlying129 rfl tipub_kmsg_TxnOffsetCommitRequestTopic.size hl9 (fun w hS => ⟨_, rfl, hR.mv hS.trFin⟩)
theorem fill_TxnOffsetCommitRequest (t : Vw) (b : Nat) (v : Int) (y : Tre) (cs : List Value) (hx : RT t y cs) (hsm : smT y) (hg : gT y) (hok : (MsgBox b 81 ([.int .i16 v, .string .empty, .string .empty, .int .i64 0, .int .i16 0, .int .i32 0, .string .empty, .pointer none, .slice none 0 0, .map none] : List Value)).ok t.w) (hav : ∀ q ∈ (MsgBox b 81 ([.int .i16 v, .string .empty, .string .empty, .int .i64 0, .int .i16 0, .int .i32 0, .string .empty, .pointer none, .slice none 0 0, .map none] : List Value)).blk, t.av q) : CT Try.prog 44 [.pointer (some ⟨b, 0, none⟩), .agg cs.toArray] t (MsgBox b 81 ([.int .i16 v, .string .empty, .string .empty, .int .i64 0, .int .i16 0, .int .i32 0, .string .empty, .pointer none, .slice none 0 0, .map none] : List Value)) fun u r e' => ∃ cells, e' = MsgBox b 81 (.int .i16 v :: cells) ∧ RMp u F_TxnOffsetCommitRequest y cells := by
  refine ct_enter Try.func44 rfl Try.ntmps44 rfl hok hav (by simp [Ent.blk]) ?_
  refine cd_sr ?_
  refine ln_box (l := cs) rfl rfl rfl (fun b1 => ?_)
  refine ln_cd ?_
  refine cd_perm (H' := [MsgBox b 81 ([.int .i16 v, .string .empty, .string .empty, .int .i64 0, .int .i16 0, .int .i32 0, .string .empty, .pointer none, .slice none 0 0, .map none] : List Value), TreeBox b1 cs]) (List.Perm.swap _ _ _) ?_
  refine cd_sq ?_
  refine cd_region ?_
  refine ln_pv (pv_move rfl) rfl ?_
  refine ln_at (i0 := 1) (j := 0) rfl rfl hx rfl (fun u1 sS1 sL1 sU1 ht1 hd1 => ?_)
  have hx := hx.mv ht1
  have hS1 := hd1.str
  refine ln_pv (pv_field1 (v := sS1) Try.underlying39 rfl Try.underlying22 rfl lk_eq rfl) rfl ?_
  refine ln_pv (pv_b2s hS1 Try.underlying22 Try.underlying5 Try.underlying9 lk_eq) rfl ?_
  refine ln_pv (pv_nilCheck rfl) rfl ?_
  refine ln_pv (pv_fieldAddr (off := 1) (r := 1) Try.underlying81 rfl tistring.size rfl rfl rfl) rfl ?_
  refine ln_storeM (M' := ([.int .i16 v, .string ⟨(y.at_ 0).s.toArray⟩, .string .empty, .int .i64 0, .int .i16 0, .int .i32 0, .string .empty, .pointer none, .slice none 0 0, .map none] : List Value)) rfl rfl rfl tistring.size (Nat.le_of_ble_eq_true rfl) rfl ?_
  refine ln_nil ?_
  refine at_sub (.skip rfl (.skip rfl (.skip rfl (.skip rfl (.skip rfl (.skip rfl .rfl')))))) ?_
  refine at_cd ?_
  refine cd_sq ?_
  refine cd_region ?_
  refine ln_pv (pv_move rfl) rfl ?_
  refine ln_at (i0 := 1) (j := 1) rfl rfl hx rfl (fun u2 sS2 sL2 sU2 ht2 hd2 => ?_)
  have hx := hx.mv ht2
  have hS2 := hd2.str
  refine ln_pv (pv_field1 (v := sS2) Try.underlying39 rfl Try.underlying22 rfl lk_eq rfl) rfl ?_
  refine ln_pv (pv_b2s hS2 Try.underlying22 Try.underlying5 Try.underlying9 lk_eq) rfl ?_
  refine ln_pv (pv_nilCheck rfl) rfl ?_
  refine ln_pv (pv_fieldAddr (off := 2) (r := 2) Try.underlying81 rfl tistring.size rfl rfl rfl) rfl ?_
  refine ln_storeM (M' := ([.int .i16 v, .string ⟨(y.at_ 0).s.toArray⟩, .string ⟨(y.at_ 1).s.toArray⟩, .int .i64 0, .int .i16 0, .int .i32 0, .string .empty, .pointer none, .slice none 0 0, .map none] : List Value)) rfl rfl rfl tistring.size (Nat.le_of_ble_eq_true rfl) rfl ?_
  refine ln_nil ?_
  refine at_sub (.skip rfl (.skip rfl (.skip rfl (.skip rfl (.skip rfl (.skip rfl .rfl')))))) ?_
  refine at_cd ?_
  refine cd_sq ?_
  refine cd_region ?_
  refine ln_pv (pv_move rfl) rfl ?_
  refine ln_at (i0 := 1) (j := 2) rfl rfl hx rfl (fun u3 sS3 sL3 sU3 ht3 hd3 => ?_)
  have hx := hx.mv ht3
  refine ln_pv (pv_field1 (v := .int .i64 (y.at_ 2).n) Try.underlying39 rfl Try.underlying2 rfl lk_eq rfl) rfl ?_
  have hI3 := hd3.i64
  refine ln_pv (pv_nilCheck rfl) rfl ?_
  refine ln_pv (pv_fieldAddr (off := 3) (r := 3) Try.underlying81 rfl tiint64.size rfl rfl rfl) rfl ?_
  refine ln_storeM (M' := ([.int .i16 v, .string ⟨(y.at_ 0).s.toArray⟩, .string ⟨(y.at_ 1).s.toArray⟩, .int .i64 (y.at_ 2).n, .int .i16 0, .int .i32 0, .string .empty, .pointer none, .slice none 0 0, .map none] : List Value)) rfl rfl rfl tiint64.size (Nat.le_of_ble_eq_true rfl) rfl ?_
  refine ln_nil ?_
  refine at_sub (.skip rfl (.skip rfl (.skip rfl (.skip rfl (.skip rfl .rfl'))))) ?_
  refine at_cd ?_
  refine cd_sq ?_
  refine cd_region ?_
  refine ln_pv (pv_move rfl) rfl ?_
  refine ln_at (i0 := 1) (j := 3) rfl rfl hx rfl (fun u4 sS4 sL4 sU4 ht4 hd4 => ?_)
  have hx := hx.mv ht4
  refine ln_pv (pv_field1 (v := .int .i64 (y.at_ 3).n) Try.underlying39 rfl Try.underlying2 rfl lk_eq rfl) rfl ?_
  refine ln_pv (pv_conv' (k := .i64) (i := (y.at_ 3).n) Try.underlying2 Try.underlying45 lk_eq rfl) rfl ?_
  refine ln_pv (pv_nilCheck rfl) rfl ?_
  refine ln_pv (pv_fieldAddr (off := 4) (r := 4) Try.underlying81 rfl tiint16.size rfl rfl rfl) rfl ?_
  refine ln_storeM (M' := ([.int .i16 v, .string ⟨(y.at_ 0).s.toArray⟩, .string ⟨(y.at_ 1).s.toArray⟩, .int .i64 (y.at_ 2).n, .int .i16 (IntKind.i16.wrap (y.at_ 3).n), .int .i32 0, .string .empty, .pointer none, .slice none 0 0, .map none] : List Value)) rfl rfl rfl tiint16.size (Nat.le_of_ble_eq_true rfl) rfl ?_
  refine ln_nil ?_
  refine at_sub (.skip rfl (.skip rfl (.skip rfl (.skip rfl (.skip rfl (.skip rfl .rfl')))))) ?_
  refine at_cd ?_
  refine cd_sq ?_
  refine cd_region ?_
  refine ln_pv (pv_move rfl) rfl ?_
  refine ln_at (i0 := 1) (j := 4) rfl rfl hx rfl (fun u5 sS5 sL5 sU5 ht5 hd5 => ?_)
  have hx := hx.mv ht5
  refine ln_pv (pv_field1 (v := .int .i64 (y.at_ 4).n) Try.underlying39 rfl Try.underlying2 rfl lk_eq rfl) rfl ?_
  refine ln_pv (pv_conv' (k := .i64) (i := (y.at_ 4).n) Try.underlying2 Try.underlying21 lk_eq rfl) rfl ?_
  refine ln_pv (pv_nilCheck rfl) rfl ?_
  refine ln_pv (pv_fieldAddr (off := 5) (r := 5) Try.underlying81 rfl tiint32.size rfl rfl rfl) rfl ?_
  refine ln_storeM (M' := ([.int .i16 v, .string ⟨(y.at_ 0).s.toArray⟩, .string ⟨(y.at_ 1).s.toArray⟩, .int .i64 (y.at_ 2).n, .int .i16 (IntKind.i16.wrap (y.at_ 3).n), .int .i32 (IntKind.i32.wrap (y.at_ 4).n), .string .empty, .pointer none, .slice none 0 0, .map none] : List Value)) rfl rfl rfl tiint32.size (Nat.le_of_ble_eq_true rfl) rfl ?_
  refine ln_nil ?_
  refine at_sub (.skip rfl (.skip rfl (.skip rfl (.skip rfl (.skip rfl (.skip rfl .rfl')))))) ?_
  refine at_cd ?_
  refine cd_sq ?_
  refine cd_region ?_
  refine ln_pv (pv_move rfl) rfl ?_
  refine ln_at (i0 := 1) (j := 5) rfl rfl hx rfl (fun u6 sS6 sL6 sU6 ht6 hd6 => ?_)
  have hx := hx.mv ht6
  have hS6 := hd6.str
  refine ln_pv (pv_field1 (v := sS6) Try.underlying39 rfl Try.underlying22 rfl lk_eq rfl) rfl ?_
  refine ln_pv (pv_b2s hS6 Try.underlying22 Try.underlying5 Try.underlying9 lk_eq) rfl ?_
  refine ln_pv (pv_nilCheck rfl) rfl ?_
  refine ln_pv (pv_fieldAddr (off := 6) (r := 6) Try.underlying81 rfl tistring.size rfl rfl rfl) rfl ?_
  refine ln_storeM (M' := ([.int .i16 v, .string ⟨(y.at_ 0).s.toArray⟩, .string ⟨(y.at_ 1).s.toArray⟩, .int .i64 (y.at_ 2).n, .int .i16 (IntKind.i16.wrap (y.at_ 3).n), .int .i32 (IntKind.i32.wrap (y.at_ 4).n), .string ⟨(y.at_ 5).s.toArray⟩, .pointer none, .slice none 0 0, .map none] : List Value)) rfl rfl rfl tistring.size (Nat.le_of_ble_eq_true rfl) rfl ?_
  refine ln_nil ?_
  refine at_sub (.skip rfl (.skip rfl (.skip rfl (.skip rfl (.skip rfl (.skip rfl .rfl')))))) ?_
  refine at_cd ?_
  refine cd_sq ?_
  refine cd_region ?_
  refine ln_pv (pv_move rfl) rfl ?_
  refine ln_at (i0 := 1) (j := 6) rfl rfl hx rfl (fun u7 sS7 sL7 sU7 ht7 hd7 => ?_)
  have hx := hx.mv ht7
  refine ln_callA (vals := [.agg _]) en_72 rfl (fun u hu => impl_textOf u (y.at_ 6) _ (hd7.mv hu)) rfl (fun uc8 c8 htc8 hFc8 => ?_)
  have hx := hx.mv htc8
  refine ln_pv (pv_nilCheck rfl) rfl ?_
  refine ln_pv (pv_fieldAddr (off := 7) (r := 7) Try.underlying81 rfl tiPt_string.size rfl rfl rfl) rfl ?_
  refine ln_storeM (M' := ([.int .i16 v, .string ⟨(y.at_ 0).s.toArray⟩, .string ⟨(y.at_ 1).s.toArray⟩, .int .i64 (y.at_ 2).n, .int .i16 (IntKind.i16.wrap (y.at_ 3).n), .int .i32 (IntKind.i32.wrap (y.at_ 4).n), .string ⟨(y.at_ 5).s.toArray⟩, c8, .slice none 0 0, .map none] : List Value)) rfl rfl hFc8.one tiPt_string.size (Nat.le_of_ble_eq_true rfl) rfl ?_
  refine ln_nil ?_
  refine at_sub (.skip rfl (.skip rfl (.skip rfl (.skip rfl (.skip rfl .rfl'))))) ?_
  refine at_cd ?_
  refine cd_sq ?_
  refine fl_nl (o := 10) (sb := F_sTxnOffsetCommitRequestTopic) (j := 7) (off := 8) rfl hx rfl rfl (fun u9 c9 ht9 hF9 => ?_) (fun hz u9a hu9 kk => ?_)
  rotate_left
  · skip
    have hx := hx.mv hu9
    have hFc8 := hFc8.mv hu9
    have hle9 : (y.at_ 7).l.length ≤ 32767 := (hg.at_ 7).open.2.2.1
    refine cd_sq ?_
    refine fl_makeP (ez := 19) (j := 7) (off := 8) rfl rfl hx hle9 Try.underlying81 rfl rfl tiSl_kmsg_TxnOffsetCommitRequestTopic.size rfl Try.underlying79 tipub_kmsg_TxnOffsetCommitRequestTopic (by decide) rfl (Nat.le_of_ble_eq_true rfl) (fun u9b g9 cap9 hb9 => ?_)
    have hx := hx.mv hb9
    have hFc8 := hFc8.mv hb9
    refine at_cd ?_
    refine fl_list (o := 10) (sb := F_sTxnOffsetCommitRequestTopic) (j := 7) (off := 8) (ez := 19) (by kernel_rfl) rfl hx hle9 hz rfl (fun q hq => by simpa [Ent.blk] using hq) rfl (fun i hi u b5 g cap xs ci sl N' X' hu hxl hci kb => ?_) (fun u c hu hF => kk u c (hb9.trans hu) hF)
    have hmk : ∀ u2, Tr u u2 → CA Try.prog 80 [.agg ci.toArray] u2 fun u3 v => ∃ c, v = .agg c.toArray ∧ RMp u3 F_sTxnOffsetCommitRequestTopic (y.at_ 7).l[i] c := fun u2 h2 => make_makeTxnOffsetCommitRequestTopic u2 _ _ (hci.mv h2) (smTs.mem (hsm.at_ 7).open.2.2.2 _ (List.getElem_mem hi)) (gTs.mem (hg.at_ 7).open.2.2.2 _ (List.getElem_mem hi))
    exact fl_appPS (sb := F_sTxnOffsetCommitRequestTopic) (off := 8) rfl rfl Try.underlying81 rfl rfl tiSl_kmsg_TxnOffsetCommitRequestTopic.size rfl Try.underlying79 tipub_kmsg_TxnOffsetCommitRequestTopic rfl (by decide) (by decide) (by decide) (by kernel_rfl) en_80 hci.len hmk rfl (Nat.le_of_ble_eq_true rfl) (by omega) hxl (by kernel_rfl) (by kernel_rfl) kb
  have hx := hx.mv ht9
  have hFc8 := hFc8.mv ht9
  refine at_msg (M' := ([.int .i16 v, .string ⟨(y.at_ 0).s.toArray⟩, .string ⟨(y.at_ 1).s.toArray⟩, .int .i64 (y.at_ 2).n, .int .i16 (IntKind.i16.wrap (y.at_ 3).n), .int .i32 (IntKind.i32.wrap (y.at_ 4).n), .string ⟨(y.at_ 5).s.toArray⟩, c8, c9, .map none] : List Value)) rfl ?_
  refine at_cd ?_
  refine fl_tags (off := 9) rfl hx hg.open.1 (by have := hg.open.2.1; omega) rfl (fun q hq => by simpa [Ent.blk] using hq) rfl (fun i hi u b5 mo l tv E N' X' hu hv h0 hnew hL htx hfr kb => ?_) (fun u mv ht hT => ?_)
  · exact fl_setP (off := 9) (hL _ _ rfl) htx Try.underlying81 rfl tipub_kmsg_Tags.size rfl (frs_via hfr (v := .bool true) rfl) (Nat.le_of_ble_eq_true rfl) h0 hnew (by kernel_rfl) kb
  have hx := hx.mv ht
  have hFc8 := hFc8.mv ht
  have hF9 := hF9.mv ht
  refine at_msg (M' := ([.int .i16 v, .string ⟨(y.at_ 0).s.toArray⟩, .string ⟨(y.at_ 1).s.toArray⟩, .int .i64 (y.at_ 2).n, .int .i16 (IntKind.i16.wrap (y.at_ 3).n), .int .i32 (IntKind.i32.wrap (y.at_ 4).n), .string ⟨(y.at_ 5).s.toArray⟩, c8, c9, mv] : List Value)) rfl ?_
  have hR : RMp _ F_TxnOffsetCommitRequest y ([.string ⟨(y.at_ 0).s.toArray⟩, .string ⟨(y.at_ 1).s.toArray⟩, .int .i64 (y.at_ 2).n, .int .i16 (IntKind.i16.wrap (y.at_ 3).n), .int .i32 (IntKind.i32.wrap (y.at_ 4).n), .string ⟨(y.at_ 5).s.toArray⟩, c8, c9, mv] : List Value) := ⟨([.string ⟨(y.at_ 0).s.toArray⟩, .string ⟨(y.at_ 1).s.toArray⟩, .int .i64 (y.at_ 2).n, .int .i16 (IntKind.i16.wrap (y.at_ 3).n), .int .i32 (IntKind.i32.wrap (y.at_ 4).n), .string ⟨(y.at_ 5).s.toArray⟩, c8, c9] : List Value), mv, rfl, (RMl_cons (c := [.string ⟨(y.at_ 0).s.toArray⟩]) ((RMf_str (by decide)).2 rfl) (RMl_cons (c := [.string ⟨(y.at_ 1).s.toArray⟩]) ((RMf_str (by decide)).2 rfl) (RMl_cons (c := [.int .i64 (y.at_ 2).n]) (RMf_i64.2 ⟨rfl, hI3⟩) (RMl_cons (c := [.int .i16 (IntKind.i16.wrap (y.at_ 3).n)]) (RMf_i16.2 rfl) (RMl_cons (c := [.int .i32 (IntKind.i32.wrap (y.at_ 4).n)]) (RMf_i32.2 rfl) (RMl_cons (c := [.string ⟨(y.at_ 5).s.toArray⟩]) ((RMf_str (by decide)).2 rfl) (RMl_cons (c := [c8]) ((RMf_txt (by decide)).2 ⟨_, rfl, hFc8⟩) (RMl_cons (c := [c9]) (RMf_list.2 ⟨_, rfl, hF9⟩) RMl_nil)))))))), hT⟩
  exact at_retT0 (i := 0) rfl rfl (fun w hS => ⟨_, rfl, hR.mv (hS.trFinT _ _)⟩)
end K
end Go.Proofs.Ytmknncmdbmnmgab
