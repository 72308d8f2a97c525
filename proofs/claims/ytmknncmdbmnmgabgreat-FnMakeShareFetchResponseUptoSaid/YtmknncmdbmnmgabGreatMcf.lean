import Derived.Test.YtmknncmdbmnmgabGreatB5
import Derived.Test.YtmknncmdbmnmgabGreatMcs
set_option linter.unusedVariables false
set_option linter.unusedSimpArgs false
namespace Go.Proofs.YtmknncmdbmnmgabGreat
namespace K
open Go Go.Lib
theorem make_makeShareFetchResponseTopicPartitionCurrentLeader (t : Vw) (y : Tre) (cs : List Value) (hx : RT t y cs) (hsm : smT y) (hg : gT y) : CA Tryz.prog 128 [.agg cs.toArray] t fun u v => ∃ c, v = .agg c.toArray ∧ RMp u F_sShareFetchResponseTopicPartitionCurrentLeader y c := by
  refine ca_enter Tryz.func128 rfl Tryz.ntmps128 rfl ?_
  refine cd_sr ?_
  refine ln_box (l := cs) rfl rfl rfl (fun b1 => ?_)
  refine ln_alloc (l := ([.int .i32 0, .int .i32 0, .map none] : List Value)) tipub_kmsg_ShareFetchResponseTopicPartitionCurrentLeader rfl rfl (fun b2 => ?_)
  refine ln_cd ?_
  refine cd_sr ?_
  refine ln_alloc (l := ([.int .i32 0, .int .i32 0, .map none] : List Value)) tipub_kmsg_ShareFetchResponseTopicPartitionCurrentLeader rfl rfl (fun b3 => ?_)
  refine ln_cd ?_
  refine cd_perm (H' := [MsgBox b3 145 ([.int .i32 0, .int .i32 0, .map none] : List Value), TreeBox b1 cs, MsgBox b2 145 ([.int .i32 0, .int .i32 0, .map none] : List Value)]) (List.Perm.cons _ (List.Perm.swap _ _ _)) ?_
  refine cd_sq ?_
  refine cd_region ?_
  refine ln_at (i0 := 1) (j := 0) rfl rfl hx rfl (fun u1 sS1 sL1 sU1 ht1 hd1 => ?_)
  have hx := hx.mv ht1
  refine ln_pv (pv_field1 (v := .int .i64 (y.at_ 0).n) Tryz.underlying39 rfl Tryz.underlying2 rfl lk_eq rfl) rfl ?_
  refine ln_pv (pv_conv' (k := .i64) (i := (y.at_ 0).n) Tryz.underlying2 Tryz.underlying21 lk_eq rfl) rfl ?_
  refine ln_pv (pv_fieldAddr (off := 0) (r := 0) Tryz.underlying145 rfl tiint32.size rfl rfl rfl) rfl ?_
  refine ln_storeM (M' := ([.int .i32 (IntKind.i32.wrap (y.at_ 0).n), .int .i32 0, .map none] : List Value)) rfl rfl rfl tiint32.size (Nat.le_of_ble_eq_true rfl) rfl ?_
  refine ln_nil ?_
  refine at_sub (.skip rfl (.skip rfl (.skip rfl (.skip rfl .rfl')))) ?_
  refine at_cd ?_
  refine cd_sq ?_
  refine cd_region ?_
  refine ln_at (i0 := 1) (j := 1) rfl rfl hx rfl (fun u2 sS2 sL2 sU2 ht2 hd2 => ?_)
  have hx := hx.mv ht2
  refine ln_pv (pv_field1 (v := .int .i64 (y.at_ 1).n) Tryz.underlying39 rfl Tryz.underlying2 rfl lk_eq rfl) rfl ?_
  refine ln_pv (pv_conv' (k := .i64) (i := (y.at_ 1).n) Tryz.underlying2 Tryz.underlying21 lk_eq rfl) rfl ?_
  refine ln_pv (pv_fieldAddr (off := 1) (r := 1) Tryz.underlying145 rfl tiint32.size rfl rfl rfl) rfl ?_
  refine ln_storeM (M' := ([.int .i32 (IntKind.i32.wrap (y.at_ 0).n), .int .i32 (IntKind.i32.wrap (y.at_ 1).n), .map none] : List Value)) rfl rfl rfl tiint32.size (Nat.le_of_ble_eq_true rfl) rfl ?_
  refine ln_nil ?_
  refine at_sub (.skip rfl (.skip rfl (.skip rfl (.skip rfl .rfl')))) ?_
  refine at_cd ?_
  refine cd_sq ?_
  refine fl_tags (off := 2) rfl hx hg.open.1 (by have := hg.open.2.1; omega) rfl (fun q hq => hq.elim) rfl (fun i hi u b5 mo l tv E N' X' hu hv h0 hnew hL htx hfr kb => ?_) (fun u mv ht hT => ?_)
  · exact fl_setL (off := 2) (hL _ _ rfl) htx Tryz.underlying145 rfl tipub_kmsg_Tags.size rfl (frs_via hfr (v := .bool true) rfl) (Nat.le_of_ble_eq_true rfl) h0 hnew kb
  have hx := hx.mv ht
  refine at_msg (M' := ([.int .i32 (IntKind.i32.wrap (y.at_ 0).n), .int .i32 (IntKind.i32.wrap (y.at_ 1).n), mv] : List Value)) rfl ?_
  refine at_cd ?_
  have hR : RMp _ F_sShareFetchResponseTopicPartitionCurrentLeader y ([.int .i32 (IntKind.i32.wrap (y.at_ 0).n), .int .i32 (IntKind.i32.wrap (y.at_ 1).n), mv] : List Value) := ⟨([.int .i32 (IntKind.i32.wrap (y.at_ 0).n), .int .i32 (IntKind.i32.wrap (y.at_ 1).n)] : List Value), mv, rfl, (RMl_cons (c := [.int .i32 (IntKind.i32.wrap (y.at_ 0).n)]) (RMf_i32.2 rfl) (RMl_cons (c := [.int .i32 (IntKind.i32.wrap (y.at_ 1).n)]) (RMf_i32.2 rfl) RMl_nil)), hT⟩
  have hsz : fszs F_sShareFetchResponseTopicPartitionCurrentLeader + 1 = 3 := by kernel_rfl
  obtain ⟨hl9, h19⟩ := hR.len
  rw [hsz] at hl9
  refine cd_sr ?_
  refine ln_pv (pv_ldO (i := 0) rfl Tryz.underlying145 rfl tipub_kmsg_ShareFetchResponseTopicPartitionCurrentLeader.size rfl hl9) rfl ?_
  refine ln_storeW (i := 2) (vs := ([.int .i32 (IntKind.i32.wrap (y.at_ 0).n), .int .i32 (IntKind.i32.wrap (y.at_ 1).n), mv] : List Value)) rfl rfl rfl rfl tipub_kmsg_ShareFetchResponseTopicPartitionCurrentLeader.size hl9 h19 ?_
  refine ln_cd ?_
  refine cd_ret ?_
  exact at_retC (i := 2) rfl rfl rfl Tryz.underlying145 rfl tipub_kmsg_ShareFetchResponseTopicPartitionCurrentLeader.size hl9 (fun w hS => ⟨_, rfl, hR.mv hS.trFin⟩)
theorem make_makeShareFetchResponseTopicPartitionAcquiredRecord (t : Vw) (y : Tre) (cs : List Value) (hx : RT t y cs) (hsm : smT y) (hg : gT y) : CA Tryz.prog 130 [.agg cs.toArray] t fun u v => ∃ c, v = .agg c.toArray ∧ RMp u F_sShareFetchResponseTopicPartitionAcquiredRecord y c := by
  refine ca_enter Tryz.func130 rfl Tryz.ntmps130 rfl ?_
  refine cd_sr ?_
  refine ln_box (l := cs) rfl rfl rfl (fun b1 => ?_)
  refine ln_alloc (l := ([.int .i64 0, .int .i64 0, .int .i16 0, .map none] : List Value)) tipub_kmsg_ShareFetchResponseTopicPartitionAcquiredRecord rfl rfl (fun b2 => ?_)
  refine ln_cd ?_
  refine cd_sr ?_
  refine ln_alloc (l := ([.int .i64 0, .int .i64 0, .int .i16 0, .map none] : List Value)) tipub_kmsg_ShareFetchResponseTopicPartitionAcquiredRecord rfl rfl (fun b3 => ?_)
  refine ln_cd ?_
  refine cd_perm (H' := [MsgBox b3 153 ([.int .i64 0, .int .i64 0, .int .i16 0, .map none] : List Value), TreeBox b1 cs, MsgBox b2 153 ([.int .i64 0, .int .i64 0, .int .i16 0, .map none] : List Value)]) (List.Perm.cons _ (List.Perm.swap _ _ _)) ?_
  refine cd_sq ?_
  refine cd_region ?_
  refine ln_at (i0 := 1) (j := 0) rfl rfl hx rfl (fun u1 sS1 sL1 sU1 ht1 hd1 => ?_)
  have hx := hx.mv ht1
  refine ln_pv (pv_field1 (v := .int .i64 (y.at_ 0).n) Tryz.underlying39 rfl Tryz.underlying2 rfl lk_eq rfl) rfl ?_
  have hI1 := hd1.i64
  refine ln_pv (pv_fieldAddr (off := 0) (r := 0) Tryz.underlying153 rfl tiint64.size rfl rfl rfl) rfl ?_
  refine ln_storeM (M' := ([.int .i64 (y.at_ 0).n, .int .i64 0, .int .i16 0, .map none] : List Value)) rfl rfl rfl tiint64.size (Nat.le_of_ble_eq_true rfl) rfl ?_
  refine ln_nil ?_
  refine at_sub (.skip rfl (.skip rfl (.skip rfl .rfl'))) ?_
  refine at_cd ?_
  refine cd_sq ?_
  refine cd_region ?_
  refine ln_at (i0 := 1) (j := 1) rfl rfl hx rfl (fun u2 sS2 sL2 sU2 ht2 hd2 => ?_)
  have hx := hx.mv ht2
  refine ln_pv (pv_field1 (v := .int .i64 (y.at_ 1).n) Tryz.underlying39 rfl Tryz.underlying2 rfl lk_eq rfl) rfl ?_
  have hI2 := hd2.i64
  refine ln_pv (pv_fieldAddr (off := 1) (r := 1) Tryz.underlying153 rfl tiint64.size rfl rfl rfl) rfl ?_
  refine ln_storeM (M' := ([.int .i64 (y.at_ 0).n, .int .i64 (y.at_ 1).n, .int .i16 0, .map none] : List Value)) rfl rfl rfl tiint64.size (Nat.le_of_ble_eq_true rfl) rfl ?_
  refine ln_nil ?_
  refine at_sub (.skip rfl (.skip rfl (.skip rfl .rfl'))) ?_
  refine at_cd ?_
  refine cd_sq ?_
  refine cd_region ?_
  refine ln_at (i0 := 1) (j := 2) rfl rfl hx rfl (fun u3 sS3 sL3 sU3 ht3 hd3 => ?_)
  have hx := hx.mv ht3
  refine ln_pv (pv_field1 (v := .int .i64 (y.at_ 2).n) Tryz.underlying39 rfl Tryz.underlying2 rfl lk_eq rfl) rfl ?_
  refine ln_pv (pv_conv' (k := .i64) (i := (y.at_ 2).n) Tryz.underlying2 Tryz.underlying45 lk_eq rfl) rfl ?_
  refine ln_pv (pv_fieldAddr (off := 2) (r := 2) Tryz.underlying153 rfl tiint16.size rfl rfl rfl) rfl ?_
  refine ln_storeM (M' := ([.int .i64 (y.at_ 0).n, .int .i64 (y.at_ 1).n, .int .i16 (IntKind.i16.wrap (y.at_ 2).n), .map none] : List Value)) rfl rfl rfl tiint16.size (Nat.le_of_ble_eq_true rfl) rfl ?_
  refine ln_nil ?_
  refine at_sub (.skip rfl (.skip rfl (.skip rfl (.skip rfl .rfl')))) ?_
  refine at_cd ?_
  refine cd_sq ?_
  refine fl_tags (off := 3) rfl hx hg.open.1 (by have := hg.open.2.1; omega) rfl (fun q hq => hq.elim) rfl (fun i hi u b5 mo l tv E N' X' hu hv h0 hnew hL htx hfr kb => ?_) (fun u mv ht hT => ?_)
  · exact fl_setL (off := 3) (hL _ _ rfl) htx Tryz.underlying153 rfl tipub_kmsg_Tags.size rfl (frs_via hfr (v := .bool true) rfl) (Nat.le_of_ble_eq_true rfl) h0 hnew kb
  have hx := hx.mv ht
  refine at_msg (M' := ([.int .i64 (y.at_ 0).n, .int .i64 (y.at_ 1).n, .int .i16 (IntKind.i16.wrap (y.at_ 2).n), mv] : List Value)) rfl ?_
  refine at_cd ?_
  have hR : RMp _ F_sShareFetchResponseTopicPartitionAcquiredRecord y ([.int .i64 (y.at_ 0).n, .int .i64 (y.at_ 1).n, .int .i16 (IntKind.i16.wrap (y.at_ 2).n), mv] : List Value) := ⟨([.int .i64 (y.at_ 0).n, .int .i64 (y.at_ 1).n, .int .i16 (IntKind.i16.wrap (y.at_ 2).n)] : List Value), mv, rfl, (RMl_cons (c := [.int .i64 (y.at_ 0).n]) (RMf_i64.2 ⟨rfl, hI1⟩) (RMl_cons (c := [.int .i64 (y.at_ 1).n]) (RMf_i64.2 ⟨rfl, hI2⟩) (RMl_cons (c := [.int .i16 (IntKind.i16.wrap (y.at_ 2).n)]) (RMf_i16.2 rfl) RMl_nil))), hT⟩
  have hsz : fszs F_sShareFetchResponseTopicPartitionAcquiredRecord + 1 = 4 := by kernel_rfl
  obtain ⟨hl9, h19⟩ := hR.len
  rw [hsz] at hl9
  refine cd_sr ?_
  refine ln_pv (pv_ldO (i := 0) rfl Tryz.underlying153 rfl tipub_kmsg_ShareFetchResponseTopicPartitionAcquiredRecord.size rfl hl9) rfl ?_
  refine ln_storeW (i := 2) (vs := ([.int .i64 (y.at_ 0).n, .int .i64 (y.at_ 1).n, .int .i16 (IntKind.i16.wrap (y.at_ 2).n), mv] : List Value)) rfl rfl rfl rfl tipub_kmsg_ShareFetchResponseTopicPartitionAcquiredRecord.size hl9 h19 ?_
  refine ln_cd ?_
  refine cd_ret ?_
  exact at_retC (i := 2) rfl rfl rfl Tryz.underlying153 rfl tipub_kmsg_ShareFetchResponseTopicPartitionAcquiredRecord.size hl9 (fun w hS => ⟨_, rfl, hR.mv hS.trFin⟩)
theorem make_makeShareFetchResponseTopicPartition (t : Vw) (y : Tre) (cs : List Value) (hx : RT t y cs) (hsm : smT y) (hg : gT y) : CA Tryz.prog 118 [.agg cs.toArray] t fun u v => ∃ c, v = .agg c.toArray ∧ RMp u F_sShareFetchResponseTopicPartition y c := by
  refine ca_enter Tryz.func118 rfl Tryz.ntmps118 rfl ?_
  refine cd_sr ?_
  refine ln_box (l := cs) rfl rfl rfl (fun b1 => ?_)
  refine ln_alloc (l := ([.int .i32 0, .int .i16 0, .pointer none, .int .i16 0, .pointer none, .int .i32 0, .int .i32 0, .map none, .slice none 0 0, .slice none 0 0, .map none] : List Value)) tipub_kmsg_ShareFetchResponseTopicPartition rfl rfl (fun b2 => ?_)
  refine ln_cd ?_
  refine cd_sr ?_
  refine ln_alloc (l := ([.int .i32 0, .int .i16 0, .pointer none, .int .i16 0, .pointer none, .int .i32 0, .int .i32 0, .map none, .slice none 0 0, .slice none 0 0, .map none] : List Value)) tipub_kmsg_ShareFetchResponseTopicPartition rfl rfl (fun b3 => ?_)
  refine ln_cd ?_
  refine cd_perm (H' := [MsgBox b3 148 ([.int .i32 0, .int .i16 0, .pointer none, .int .i16 0, .pointer none, .int .i32 0, .int .i32 0, .map none, .slice none 0 0, .slice none 0 0, .map none] : List Value), TreeBox b1 cs, MsgBox b2 148 ([.int .i32 0, .int .i16 0, .pointer none, .int .i16 0, .pointer none, .int .i32 0, .int .i32 0, .map none, .slice none 0 0, .slice none 0 0, .map none] : List Value)]) (List.Perm.cons _ (List.Perm.swap _ _ _)) ?_
  refine cd_sq ?_
  refine cd_region ?_
  refine ln_at (i0 := 1) (j := 0) rfl rfl hx rfl (fun u1 sS1 sL1 sU1 ht1 hd1 => ?_)
  have hx := hx.mv ht1
  refine ln_pv (pv_field1 (v := .int .i64 (y.at_ 0).n) Tryz.underlying39 rfl Tryz.underlying2 rfl lk_eq rfl) rfl ?_
  refine ln_pv (pv_conv' (k := .i64) (i := (y.at_ 0).n) Tryz.underlying2 Tryz.underlying21 lk_eq rfl) rfl ?_
  refine ln_pv (pv_fieldAddr (off := 0) (r := 0) Tryz.underlying148 rfl tiint32.size rfl rfl rfl) rfl ?_
  refine ln_storeM (M' := ([.int .i32 (IntKind.i32.wrap (y.at_ 0).n), .int .i16 0, .pointer none, .int .i16 0, .pointer none, .int .i32 0, .int .i32 0, .map none, .slice none 0 0, .slice none 0 0, .map none] : List Value)) rfl rfl rfl tiint32.size (Nat.le_of_ble_eq_true rfl) rfl ?_
  refine ln_nil ?_
  refine at_sub (.skip rfl (.skip rfl (.skip rfl (.skip rfl .rfl')))) ?_
  refine at_cd ?_
  refine cd_sq ?_
  refine cd_region ?_
  refine ln_at (i0 := 1) (j := 1) rfl rfl hx rfl (fun u2 sS2 sL2 sU2 ht2 hd2 => ?_)
  have hx := hx.mv ht2
  refine ln_pv (pv_field1 (v := .int .i64 (y.at_ 1).n) Tryz.underlying39 rfl Tryz.underlying2 rfl lk_eq rfl) rfl ?_
  refine ln_pv (pv_conv' (k := .i64) (i := (y.at_ 1).n) Tryz.underlying2 Tryz.underlying45 lk_eq rfl) rfl ?_
  refine ln_pv (pv_fieldAddr (off := 1) (r := 1) Tryz.underlying148 rfl tiint16.size rfl rfl rfl) rfl ?_
  refine ln_storeM (M' := ([.int .i32 (IntKind.i32.wrap (y.at_ 0).n), .int .i16 (IntKind.i16.wrap (y.at_ 1).n), .pointer none, .int .i16 0, .pointer none, .int .i32 0, .int .i32 0, .map none, .slice none 0 0, .slice none 0 0, .map none] : List Value)) rfl rfl rfl tiint16.size (Nat.le_of_ble_eq_true rfl) rfl ?_
  refine ln_nil ?_
  refine at_sub (.skip rfl (.skip rfl (.skip rfl (.skip rfl .rfl')))) ?_
  refine at_cd ?_
  refine cd_sq ?_
  refine cd_region ?_
  refine ln_at (i0 := 1) (j := 2) rfl rfl hx rfl (fun u3 sS3 sL3 sU3 ht3 hd3 => ?_)
  have hx := hx.mv ht3
  refine ln_callA (vals := [.agg _]) en_60 rfl (fun u hu => impl_textOf u (y.at_ 2) _ (hd3.mv hu)) rfl (fun uc4 c4 htc4 hFc4 => ?_)
  have hx := hx.mv htc4
  refine ln_pv (pv_fieldAddr (off := 2) (r := 2) Tryz.underlying148 rfl tiPt_string.size rfl rfl rfl) rfl ?_
  refine ln_storeM (M' := ([.int .i32 (IntKind.i32.wrap (y.at_ 0).n), .int .i16 (IntKind.i16.wrap (y.at_ 1).n), c4, .int .i16 0, .pointer none, .int .i32 0, .int .i32 0, .map none, .slice none 0 0, .slice none 0 0, .map none] : List Value)) rfl rfl hFc4.one tiPt_string.size (Nat.le_of_ble_eq_true rfl) rfl ?_
  refine ln_nil ?_
  refine at_sub (.skip rfl (.skip rfl (.skip rfl .rfl'))) ?_
  refine at_cd ?_
  refine cd_sq ?_
  refine cd_region ?_
  refine ln_at (i0 := 1) (j := 3) rfl rfl hx rfl (fun u5 sS5 sL5 sU5 ht5 hd5 => ?_)
  have hx := hx.mv ht5
  have hFc4 := hFc4.mv ht5
  refine ln_pv (pv_field1 (v := .int .i64 (y.at_ 3).n) Tryz.underlying39 rfl Tryz.underlying2 rfl lk_eq rfl) rfl ?_
  refine ln_pv (pv_conv' (k := .i64) (i := (y.at_ 3).n) Tryz.underlying2 Tryz.underlying45 lk_eq rfl) rfl ?_
  refine ln_pv (pv_fieldAddr (off := 3) (r := 3) Tryz.underlying148 rfl tiint16.size rfl rfl rfl) rfl ?_
  refine ln_storeM (M' := ([.int .i32 (IntKind.i32.wrap (y.at_ 0).n), .int .i16 (IntKind.i16.wrap (y.at_ 1).n), c4, .int .i16 (IntKind.i16.wrap (y.at_ 3).n), .pointer none, .int .i32 0, .int .i32 0, .map none, .slice none 0 0, .slice none 0 0, .map none] : List Value)) rfl rfl rfl tiint16.size (Nat.le_of_ble_eq_true rfl) rfl ?_
  refine ln_nil ?_
  refine at_sub (.skip rfl (.skip rfl (.skip rfl (.skip rfl .rfl')))) ?_
  refine at_cd ?_
  refine cd_sq ?_
  refine cd_region ?_
  refine ln_at (i0 := 1) (j := 4) rfl rfl hx rfl (fun u6 sS6 sL6 sU6 ht6 hd6 => ?_)
  have hx := hx.mv ht6
  have hFc4 := hFc4.mv ht6
  refine ln_callA (vals := [.agg _]) en_60 rfl (fun u hu => impl_textOf u (y.at_ 4) _ (hd6.mv hu)) rfl (fun uc7 c7 htc7 hFc7 => ?_)
  have hx := hx.mv htc7
  have hFc4 := hFc4.mv htc7
  refine ln_pv (pv_fieldAddr (off := 4) (r := 4) Tryz.underlying148 rfl tiPt_string.size rfl rfl rfl) rfl ?_
  refine ln_storeM (M' := ([.int .i32 (IntKind.i32.wrap (y.at_ 0).n), .int .i16 (IntKind.i16.wrap (y.at_ 1).n), c4, .int .i16 (IntKind.i16.wrap (y.at_ 3).n), c7, .int .i32 0, .int .i32 0, .map none, .slice none 0 0, .slice none 0 0, .map none] : List Value)) rfl rfl hFc7.one tiPt_string.size (Nat.le_of_ble_eq_true rfl) rfl ?_
  refine ln_nil ?_
  refine at_sub (.skip rfl (.skip rfl (.skip rfl .rfl'))) ?_
  refine at_cd ?_
  refine cd_sq ?_
  refine cd_region ?_
  refine ln_at (i0 := 1) (j := 5) rfl rfl hx rfl (fun u8 sS8 sL8 sU8 ht8 hd8 => ?_)
  have hx := hx.mv ht8
  have hFc4 := hFc4.mv ht8
  have hFc7 := hFc7.mv ht8
  refine ln_callA (vals := [.agg _]) en_128 rfl (fun u hu => make_makeShareFetchResponseTopicPartitionCurrentLeader u (y.at_ 5) _ (hd8.mv hu) (hsm.at_ 5) (hg.at_ 5)) rfl ?_
  rintro uc9 _ htc9 ⟨c9, rfl, hFc9⟩
  have hx := hx.mv htc9
  have hFc4 := hFc4.mv htc9
  have hFc7 := hFc7.mv htc9
  have hLc9 : c9.length = 3 := hFc9.len.1.trans (by kernel_rfl)
  refine ln_pv (pv_fieldAddr (off := 5) (r := 5) Tryz.underlying148 rfl tipub_kmsg_ShareFetchResponseTopicPartitionCurrentLeader.size rfl rfl rfl) rfl ?_
  refine ln_storeMA (m := 3) (M' := ([.int .i32 (IntKind.i32.wrap (y.at_ 0).n), .int .i16 (IntKind.i16.wrap (y.at_ 1).n), c4, .int .i16 (IntKind.i16.wrap (y.at_ 3).n), c7] ++ (c9 ++ ([.slice none 0 0, .slice none 0 0, .map none])) : List Value)) rfl rfl hLc9 hFc9.len.2 tipub_kmsg_ShareFetchResponseTopicPartitionCurrentLeader.size (Nat.le_of_ble_eq_true rfl) (by simp [wr, hLc9]) ?_
  refine ln_nil ?_
  refine at_sub (.skip rfl (.skip rfl (.skip rfl .rfl'))) ?_
  refine at_cd ?_
  refine cd_sq ?_
  refine cd_region ?_
  refine ln_at (i0 := 1) (j := 6) rfl rfl hx rfl (fun u10 sS10 sL10 sU10 ht10 hd10 => ?_)
  have hx := hx.mv ht10
  have hFc4 := hFc4.mv ht10
  have hFc7 := hFc7.mv ht10
  have hFc9 := hFc9.mv ht10
  refine ln_callA (vals := [.agg _]) en_129 rfl (fun u hu => impl_octetsOf u (y.at_ 6) _ (hd10.mv hu) (by have := (hsm.at_ 6).open.1; omega)) rfl (fun uc11 c11 htc11 hFc11 => ?_)
  have hx := hx.mv htc11
  have hFc4 := hFc4.mv htc11
  have hFc7 := hFc7.mv htc11
  have hFc9 := hFc9.mv htc11
  refine ln_pv (pv_fieldAddr (off := 8) (r := 8) Tryz.underlying148 rfl tiSl_uint8.size rfl rfl rfl) rfl ?_
  refine ln_storeM (M' := ([.int .i32 (IntKind.i32.wrap (y.at_ 0).n), .int .i16 (IntKind.i16.wrap (y.at_ 1).n), c4, .int .i16 (IntKind.i16.wrap (y.at_ 3).n), c7] ++ (c9 ++ ([c11, .slice none 0 0, .map none])) : List Value)) rfl rfl hFc11.one tiSl_uint8.size (by simp [hLc9]) (by simp [List.set_append, List.getElem?_append, wr, hLc9]) ?_
  refine ln_nil ?_
  refine at_sub (.skip rfl (.skip rfl (.skip rfl .rfl'))) ?_
  refine at_cd ?_
  refine cd_sq ?_
  refine fl_nl (o := 10) (sb := F_sShareFetchResponseTopicPartitionAcquiredRecord) (j := 7) (off := 9) rfl hx rfl (by simp [List.set_append, List.getElem?_append, wr, hLc9]) (fun u12 c12 ht12 hF12 => ?_) (fun hz u12a hu12 kk => ?_)
  rotate_left
  · skip
    have hx := hx.mv hu12
    have hFc4 := hFc4.mv hu12
    have hFc7 := hFc7.mv hu12
    have hFc9 := hFc9.mv hu12
    have hFc11 := hFc11.mv hu12
    have hle12 : (y.at_ 7).l.length ≤ 32767 := (hg.at_ 7).open.2.2.1
    refine cd_sq ?_
    refine fl_makeL (ez := 4) (j := 7) (off := 9) rfl rfl hx hle12 Tryz.underlying148 rfl rfl tiSl_kmsg_ShareFetchResponseTopicPartitionAcquiredRecord.size rfl Tryz.underlying146 tipub_kmsg_ShareFetchResponseTopicPartitionAcquiredRecord (by decide) rfl (by simp [hLc9]) (fun u12b g12 cap12 hb12 => ?_)
    have hx := hx.mv hb12
    have hFc4 := hFc4.mv hb12
    have hFc7 := hFc7.mv hb12
    have hFc9 := hFc9.mv hb12
    have hFc11 := hFc11.mv hb12
    refine at_cd ?_
    refine fl_list (o := 10) (sb := F_sShareFetchResponseTopicPartitionAcquiredRecord) (j := 7) (off := 9) (ez := 4) (by kernel_rfl) rfl hx hle12 hz rfl (fun q hq => hq.elim) rfl (fun i hi u b5 g cap xs ci sl N' X' hu hxl hci kb => ?_) (fun u c hu hF => kk u c (hb12.trans hu) hF)
    have hmk : ∀ u2, Tr u u2 → CA Tryz.prog 130 [.agg ci.toArray] u2 fun u3 v => ∃ c, v = .agg c.toArray ∧ RMp u3 F_sShareFetchResponseTopicPartitionAcquiredRecord (y.at_ 7).l[i] c := fun u2 h2 => make_makeShareFetchResponseTopicPartitionAcquiredRecord u2 _ _ (hci.mv h2) (smTs.mem (hsm.at_ 7).open.2.2.2 _ (List.getElem_mem hi)) (gTs.mem (hg.at_ 7).open.2.2.2 _ (List.getElem_mem hi))
    exact fl_appLS (sb := F_sShareFetchResponseTopicPartitionAcquiredRecord) (off := 9) rfl rfl Tryz.underlying148 rfl rfl tiSl_kmsg_ShareFetchResponseTopicPartitionAcquiredRecord.size rfl Tryz.underlying146 tipub_kmsg_ShareFetchResponseTopicPartitionAcquiredRecord rfl (by decide) (by decide) (by decide) (by kernel_rfl) en_130 hci.len hmk rfl (by simp [hLc9]) (by omega) hxl (by kernel_rfl) (by kernel_rfl) kb
  have hx := hx.mv ht12
  have hFc4 := hFc4.mv ht12
  have hFc7 := hFc7.mv ht12
  have hFc9 := hFc9.mv ht12
  have hFc11 := hFc11.mv ht12
  refine at_msg (M' := ([.int .i32 (IntKind.i32.wrap (y.at_ 0).n), .int .i16 (IntKind.i16.wrap (y.at_ 1).n), c4, .int .i16 (IntKind.i16.wrap (y.at_ 3).n), c7] ++ (c9 ++ ([c11, c12, .map none])) : List Value)) (by simp [List.set_append, List.getElem?_append, wr, hLc9]) ?_
  refine at_cd ?_
  refine cd_sq ?_
  refine fl_tags (off := 10) rfl hx hg.open.1 (by have := hg.open.2.1; omega) rfl (fun q hq => hq.elim) (by simp [List.set_append, List.getElem?_append, wr, hLc9]) (fun i hi u b5 mo l tv E N' X' hu hv h0 hnew hL htx hfr kb => ?_) (fun u mv ht hT => ?_)
  · exact fl_setL (off := 10) (hL _ _ rfl) htx Tryz.underlying148 rfl tipub_kmsg_Tags.size rfl (frs_via hfr (v := .bool true) rfl) (by simp [hLc9]) h0 hnew kb
  have hx := hx.mv ht
  have hFc4 := hFc4.mv ht
  have hFc7 := hFc7.mv ht
  have hFc9 := hFc9.mv ht
  have hFc11 := hFc11.mv ht
  have hF12 := hF12.mv ht
  refine at_msg (M' := ([.int .i32 (IntKind.i32.wrap (y.at_ 0).n), .int .i16 (IntKind.i16.wrap (y.at_ 1).n), c4, .int .i16 (IntKind.i16.wrap (y.at_ 3).n), c7] ++ (c9 ++ ([c11, c12, mv])) : List Value)) (by simp [List.set_append, List.getElem?_append, wr, hLc9]) ?_
  refine at_cd ?_
  have hR : RMp _ F_sShareFetchResponseTopicPartition y ([.int .i32 (IntKind.i32.wrap (y.at_ 0).n), .int .i16 (IntKind.i16.wrap (y.at_ 1).n), c4, .int .i16 (IntKind.i16.wrap (y.at_ 3).n), c7] ++ (c9 ++ ([c11, c12, mv])) : List Value) := ⟨([.int .i32 (IntKind.i32.wrap (y.at_ 0).n), .int .i16 (IntKind.i16.wrap (y.at_ 1).n), c4, .int .i16 (IntKind.i16.wrap (y.at_ 3).n), c7] ++ (c9 ++ ([c11, c12])) : List Value), mv, by simp, (RMl_cons (c := [.int .i32 (IntKind.i32.wrap (y.at_ 0).n)]) (RMf_i32.2 rfl) (RMl_cons (c := [.int .i16 (IntKind.i16.wrap (y.at_ 1).n)]) (RMf_i16.2 rfl) (RMl_cons (c := [c4]) ((RMf_txt (by decide)).2 ⟨_, rfl, hFc4⟩) (RMl_cons (c := [.int .i16 (IntKind.i16.wrap (y.at_ 3).n)]) (RMf_i16.2 rfl) (RMl_cons (c := [c7]) ((RMf_txt (by decide)).2 ⟨_, rfl, hFc7⟩) (RMl_cons (c := c9) ((RMf_part (by decide)).2 hFc9) (RMl_cons (c := [c11]) (RMf_oct.2 ⟨_, rfl, hFc11⟩) (RMl_cons (c := [c12]) (RMf_list.2 ⟨_, rfl, hF12⟩) RMl_nil)))))))), hT⟩
  have hsz : fszs F_sShareFetchResponseTopicPartition + 1 = 11 := by kernel_rfl
  obtain ⟨hl9, h19⟩ := hR.len
  rw [hsz] at hl9
  refine cd_sr ?_
  refine ln_pv (pv_ldO (i := 0) rfl Tryz.underlying148 rfl tipub_kmsg_ShareFetchResponseTopicPartition.size rfl hl9) rfl ?_
  refine ln_storeW (i := 2) (vs := ([.int .i32 (IntKind.i32.wrap (y.at_ 0).n), .int .i16 (IntKind.i16.wrap (y.at_ 1).n), c4, .int .i16 (IntKind.i16.wrap (y.at_ 3).n), c7] ++ (c9 ++ ([c11, c12, mv])) : List Value)) rfl rfl rfl rfl tipub_kmsg_ShareFetchResponseTopicPartition.size hl9 h19 ?_
  refine ln_cd ?_
  refine cd_ret ?_
  exact at_retC (i := 2) rfl rfl rfl Tryz.underlying148 rfl tipub_kmsg_ShareFetchResponseTopicPartition.size hl9 (fun w hS => ⟨_, rfl, hR.mv hS.trFin⟩)
theorem make_makeShareFetchResponseTopic (t : Vw) (y : Tre) (cs : List Value) (hx : RT t y cs) (hsm : smT y) (hg : gT y) : CA Tryz.prog 93 [.agg cs.toArray] t fun u v => ∃ c, v = .agg c.toArray ∧ RMp u F_sShareFetchResponseTopic y c := by
  refine ca_enter Tryz.func93 rfl Tryz.ntmps93 rfl ?_
  refine cd_sr ?_
  refine ln_box (l := cs) rfl rfl rfl (fun b1 => ?_)
  refine ln_alloc (l := ([.int .u8 0, .int .u8 0, .int .u8 0, .int .u8 0, .int .u8 0, .int .u8 0, .int .u8 0, .int .u8 0, .int .u8 0, .int .u8 0, .int .u8 0, .int .u8 0, .int .u8 0, .int .u8 0, .int .u8 0, .int .u8 0, .slice none 0 0, .map none] : List Value)) tipub_kmsg_ShareFetchResponseTopic rfl rfl (fun b2 => ?_)
  refine ln_cd ?_
  refine cd_sr ?_
  refine ln_alloc (l := ([.int .u8 0, .int .u8 0, .int .u8 0, .int .u8 0, .int .u8 0, .int .u8 0, .int .u8 0, .int .u8 0, .int .u8 0, .int .u8 0, .int .u8 0, .int .u8 0, .int .u8 0, .int .u8 0, .int .u8 0, .int .u8 0, .slice none 0 0, .map none] : List Value)) tipub_kmsg_ShareFetchResponseTopic rfl rfl (fun b3 => ?_)
  refine ln_cd ?_
  refine cd_perm (H' := [MsgBox b3 137 ([.int .u8 0, .int .u8 0, .int .u8 0, .int .u8 0, .int .u8 0, .int .u8 0, .int .u8 0, .int .u8 0, .int .u8 0, .int .u8 0, .int .u8 0, .int .u8 0, .int .u8 0, .int .u8 0, .int .u8 0, .int .u8 0, .slice none 0 0, .map none] : List Value), TreeBox b1 cs, MsgBox b2 137 ([.int .u8 0, .int .u8 0, .int .u8 0, .int .u8 0, .int .u8 0, .int .u8 0, .int .u8 0, .int .u8 0, .int .u8 0, .int .u8 0, .int .u8 0, .int .u8 0, .int .u8 0, .int .u8 0, .int .u8 0, .int .u8 0, .slice none 0 0, .map none] : List Value)]) (List.Perm.cons _ (List.Perm.swap _ _ _)) ?_
  refine cd_sq ?_
  refine cd_region ?_
  refine ln_at (i0 := 1) (j := 0) rfl rfl hx rfl (fun u1 sS1 sL1 sU1 ht1 hd1 => ?_)
  have hx := hx.mv ht1
  have hS1 := hd1.str
  refine ln_pv (pv_field1 (v := sS1) Tryz.underlying39 rfl Tryz.underlying22 rfl lk_eq rfl) rfl ?_
  refine ln_callA (vals := [sS1]) en_114 rfl (fun u hu => impl_sixteen u _ (y.at_ 0).s (RSv.mv hS1 hu)) rfl ?_
  rintro uc2 _ htc2 rfl
  have hx := hx.mv htc2
  refine ln_pv (pv_fieldAddr (off := 0) (r := 0) Tryz.underlying137 rfl ti_16_uint8.size rfl rfl rfl) rfl ?_
  refine ln_storeMA (m := 16) (M' := ([] ++ (u8s (uuid (y.at_ 0).s) ++ ([.slice none 0 0, .map none])) : List Value)) rfl rfl (by simp [uuid_length]) (u8s_one _) ti_16_uint8.size (Nat.le_of_ble_eq_true rfl) (by simp [wr, uuid_length]) ?_
  refine ln_nil ?_
  refine at_sub (.skip rfl (.skip rfl (.skip rfl (.skip rfl .rfl')))) ?_
  refine at_cd ?_
  refine cd_sq ?_
  refine fl_nl (o := 10) (sb := F_sShareFetchResponseTopicPartition) (j := 1) (off := 16) rfl hx rfl (by simp [List.set_append, List.getElem?_append, wr, uuid_length]) (fun u3 c3 ht3 hF3 => ?_) (fun hz u3a hu3 kk => ?_)
  rotate_left
  · skip
    have hx := hx.mv hu3
    have hle3 : (y.at_ 1).l.length ≤ 32767 := (hg.at_ 1).open.2.2.1
    refine cd_sq ?_
    refine fl_makeL (ez := 11) (j := 1) (off := 16) rfl rfl hx hle3 Tryz.underlying137 rfl rfl tiSl_kmsg_ShareFetchResponseTopicPartition.size rfl Tryz.underlying135 tipub_kmsg_ShareFetchResponseTopicPartition (by decide) rfl (by simp [uuid_length]) (fun u3b g3 cap3 hb3 => ?_)
    have hx := hx.mv hb3
    refine at_cd ?_
    refine fl_list (o := 10) (sb := F_sShareFetchResponseTopicPartition) (j := 1) (off := 16) (ez := 11) (by kernel_rfl) rfl hx hle3 hz rfl (fun q hq => hq.elim) rfl (fun i hi u b5 g cap xs ci sl N' X' hu hxl hci kb => ?_) (fun u c hu hF => kk u c (hb3.trans hu) hF)
    have hmk : ∀ u2, Tr u u2 → CA Tryz.prog 118 [.agg ci.toArray] u2 fun u3 v => ∃ c, v = .agg c.toArray ∧ RMp u3 F_sShareFetchResponseTopicPartition (y.at_ 1).l[i] c := fun u2 h2 => make_makeShareFetchResponseTopicPartition u2 _ _ (hci.mv h2) (smTs.mem (hsm.at_ 1).open.2.2.2 _ (List.getElem_mem hi)) (gTs.mem (hg.at_ 1).open.2.2.2 _ (List.getElem_mem hi))
    exact fl_appLS (sb := F_sShareFetchResponseTopicPartition) (off := 16) rfl rfl Tryz.underlying137 rfl rfl tiSl_kmsg_ShareFetchResponseTopicPartition.size rfl Tryz.underlying135 tipub_kmsg_ShareFetchResponseTopicPartition rfl (by decide) (by decide) (by decide) (by kernel_rfl) en_118 hci.len hmk rfl (by simp [uuid_length]) (by omega) hxl (by kernel_rfl) (by kernel_rfl) kb
  have hx := hx.mv ht3
  refine at_msg (M' := ([] ++ (u8s (uuid (y.at_ 0).s) ++ ([c3, .map none])) : List Value)) (by simp [List.set_append, List.getElem?_append, wr, uuid_length]) ?_
  refine at_cd ?_
  refine cd_sq ?_
  refine fl_tags (off := 17) rfl hx hg.open.1 (by have := hg.open.2.1; omega) rfl (fun q hq => hq.elim) (by simp [List.set_append, List.getElem?_append, wr, uuid_length]) (fun i hi u b5 mo l tv E N' X' hu hv h0 hnew hL htx hfr kb => ?_) (fun u mv ht hT => ?_)
  · exact fl_setL (off := 17) (hL _ _ rfl) htx Tryz.underlying137 rfl tipub_kmsg_Tags.size rfl (frs_via hfr (v := .bool true) rfl) (by simp [uuid_length]) h0 hnew kb
  have hx := hx.mv ht
  have hF3 := hF3.mv ht
  refine at_msg (M' := ([] ++ (u8s (uuid (y.at_ 0).s) ++ ([c3, mv])) : List Value)) (by simp [List.set_append, List.getElem?_append, wr, uuid_length]) ?_
  refine at_cd ?_
  have hR : RMp _ F_sShareFetchResponseTopic y ([] ++ (u8s (uuid (y.at_ 0).s) ++ ([c3, mv])) : List Value) := ⟨([] ++ (u8s (uuid (y.at_ 0).s) ++ ([c3])) : List Value), mv, by simp, (RMl_cons (c := u8s (uuid (y.at_ 0).s)) (RMf_uuid.2 rfl) (RMl_cons (c := [c3]) (RMf_list.2 ⟨_, rfl, hF3⟩) RMl_nil)), hT⟩
  have hsz : fszs F_sShareFetchResponseTopic + 1 = 18 := by kernel_rfl
  obtain ⟨hl9, h19⟩ := hR.len
  rw [hsz] at hl9
  refine cd_sr ?_
  refine ln_pv (pv_ldO (i := 0) rfl Tryz.underlying137 rfl tipub_kmsg_ShareFetchResponseTopic.size rfl hl9) rfl ?_
  refine ln_storeW (i := 2) (vs := ([] ++ (u8s (uuid (y.at_ 0).s) ++ ([c3, mv])) : List Value)) rfl rfl rfl rfl tipub_kmsg_ShareFetchResponseTopic.size hl9 h19 ?_
  refine ln_cd ?_
  refine cd_ret ?_
  exact at_retC (i := 2) rfl rfl rfl Tryz.underlying137 rfl tipub_kmsg_ShareFetchResponseTopic.size hl9 (fun w hS => ⟨_, rfl, hR.mv hS.trFin⟩)
theorem make_makeShareFetchResponseNodeEndpoint (t : Vw) (y : Tre) (cs : List Value) (hx : RT t y cs) (hsm : smT y) (hg : gT y) : CA Tryz.prog 94 [.agg cs.toArray] t fun u v => ∃ c, v = .agg c.toArray ∧ RMp u F_sShareFetchResponseNodeEndpoint y c := by
  refine ca_enter Tryz.func94 rfl Tryz.ntmps94 rfl ?_
  refine cd_sr ?_
  refine ln_box (l := cs) rfl rfl rfl (fun b1 => ?_)
  refine ln_alloc (l := ([.int .i32 0, .string .empty, .int .i32 0, .pointer none, .map none] : List Value)) tipub_kmsg_ShareFetchResponseNodeEndpoint rfl rfl (fun b2 => ?_)
  refine ln_cd ?_
  refine cd_sr ?_
  refine ln_alloc (l := ([.int .i32 0, .string .empty, .int .i32 0, .pointer none, .map none] : List Value)) tipub_kmsg_ShareFetchResponseNodeEndpoint rfl rfl (fun b3 => ?_)
  refine ln_cd ?_
  refine cd_perm (H' := [MsgBox b3 140 ([.int .i32 0, .string .empty, .int .i32 0, .pointer none, .map none] : List Value), TreeBox b1 cs, MsgBox b2 140 ([.int .i32 0, .string .empty, .int .i32 0, .pointer none, .map none] : List Value)]) (List.Perm.cons _ (List.Perm.swap _ _ _)) ?_
  refine cd_sq ?_
  refine cd_region ?_
  refine ln_at (i0 := 1) (j := 0) rfl rfl hx rfl (fun u1 sS1 sL1 sU1 ht1 hd1 => ?_)
  have hx := hx.mv ht1
  refine ln_pv (pv_field1 (v := .int .i64 (y.at_ 0).n) Tryz.underlying39 rfl Tryz.underlying2 rfl lk_eq rfl) rfl ?_
  refine ln_pv (pv_conv' (k := .i64) (i := (y.at_ 0).n) Tryz.underlying2 Tryz.underlying21 lk_eq rfl) rfl ?_
  refine ln_pv (pv_fieldAddr (off := 0) (r := 0) Tryz.underlying140 rfl tiint32.size rfl rfl rfl) rfl ?_
  refine ln_storeM (M' := ([.int .i32 (IntKind.i32.wrap (y.at_ 0).n), .string .empty, .int .i32 0, .pointer none, .map none] : List Value)) rfl rfl rfl tiint32.size (Nat.le_of_ble_eq_true rfl) rfl ?_
  refine ln_nil ?_
  refine at_sub (.skip rfl (.skip rfl (.skip rfl (.skip rfl .rfl')))) ?_
  refine at_cd ?_
  refine cd_sq ?_
  refine cd_region ?_
  refine ln_at (i0 := 1) (j := 1) rfl rfl hx rfl (fun u2 sS2 sL2 sU2 ht2 hd2 => ?_)
  have hx := hx.mv ht2
  have hS2 := hd2.str
  refine ln_pv (pv_field1 (v := sS2) Tryz.underlying39 rfl Tryz.underlying22 rfl lk_eq rfl) rfl ?_
  refine ln_pv (pv_b2s hS2 Tryz.underlying22 Tryz.underlying5 Tryz.underlying9 lk_eq) rfl ?_
  refine ln_pv (pv_fieldAddr (off := 1) (r := 1) Tryz.underlying140 rfl tistring.size rfl rfl rfl) rfl ?_
  refine ln_storeM (M' := ([.int .i32 (IntKind.i32.wrap (y.at_ 0).n), .string ⟨(y.at_ 1).s.toArray⟩, .int .i32 0, .pointer none, .map none] : List Value)) rfl rfl rfl tistring.size (Nat.le_of_ble_eq_true rfl) rfl ?_
  refine ln_nil ?_
  refine at_sub (.skip rfl (.skip rfl (.skip rfl (.skip rfl .rfl')))) ?_
  refine at_cd ?_
  refine cd_sq ?_
  refine cd_region ?_
  refine ln_at (i0 := 1) (j := 2) rfl rfl hx rfl (fun u3 sS3 sL3 sU3 ht3 hd3 => ?_)
  have hx := hx.mv ht3
  refine ln_pv (pv_field1 (v := .int .i64 (y.at_ 2).n) Tryz.underlying39 rfl Tryz.underlying2 rfl lk_eq rfl) rfl ?_
  refine ln_pv (pv_conv' (k := .i64) (i := (y.at_ 2).n) Tryz.underlying2 Tryz.underlying21 lk_eq rfl) rfl ?_
  refine ln_pv (pv_fieldAddr (off := 2) (r := 2) Tryz.underlying140 rfl tiint32.size rfl rfl rfl) rfl ?_
  refine ln_storeM (M' := ([.int .i32 (IntKind.i32.wrap (y.at_ 0).n), .string ⟨(y.at_ 1).s.toArray⟩, .int .i32 (IntKind.i32.wrap (y.at_ 2).n), .pointer none, .map none] : List Value)) rfl rfl rfl tiint32.size (Nat.le_of_ble_eq_true rfl) rfl ?_
  refine ln_nil ?_
  refine at_sub (.skip rfl (.skip rfl (.skip rfl (.skip rfl .rfl')))) ?_
  refine at_cd ?_
  refine cd_sq ?_
  refine cd_region ?_
  refine ln_at (i0 := 1) (j := 3) rfl rfl hx rfl (fun u4 sS4 sL4 sU4 ht4 hd4 => ?_)
  have hx := hx.mv ht4
  refine ln_callA (vals := [.agg _]) en_60 rfl (fun u hu => impl_textOf u (y.at_ 3) _ (hd4.mv hu)) rfl (fun uc5 c5 htc5 hFc5 => ?_)
  have hx := hx.mv htc5
  refine ln_pv (pv_fieldAddr (off := 3) (r := 3) Tryz.underlying140 rfl tiPt_string.size rfl rfl rfl) rfl ?_
  refine ln_storeM (M' := ([.int .i32 (IntKind.i32.wrap (y.at_ 0).n), .string ⟨(y.at_ 1).s.toArray⟩, .int .i32 (IntKind.i32.wrap (y.at_ 2).n), c5, .map none] : List Value)) rfl rfl hFc5.one tiPt_string.size (Nat.le_of_ble_eq_true rfl) rfl ?_
  refine ln_nil ?_
  refine at_sub (.skip rfl (.skip rfl (.skip rfl .rfl'))) ?_
  refine at_cd ?_
  refine cd_sq ?_
  refine fl_tags (off := 4) rfl hx hg.open.1 (by have := hg.open.2.1; omega) rfl (fun q hq => hq.elim) rfl (fun i hi u b5 mo l tv E N' X' hu hv h0 hnew hL htx hfr kb => ?_) (fun u mv ht hT => ?_)
  · exact fl_setL (off := 4) (hL _ _ rfl) htx Tryz.underlying140 rfl tipub_kmsg_Tags.size rfl (frs_via hfr (v := .bool true) rfl) (Nat.le_of_ble_eq_true rfl) h0 hnew kb
  have hx := hx.mv ht
  have hFc5 := hFc5.mv ht
  refine at_msg (M' := ([.int .i32 (IntKind.i32.wrap (y.at_ 0).n), .string ⟨(y.at_ 1).s.toArray⟩, .int .i32 (IntKind.i32.wrap (y.at_ 2).n), c5, mv] : List Value)) rfl ?_
  refine at_cd ?_
  have hR : RMp _ F_sShareFetchResponseNodeEndpoint y ([.int .i32 (IntKind.i32.wrap (y.at_ 0).n), .string ⟨(y.at_ 1).s.toArray⟩, .int .i32 (IntKind.i32.wrap (y.at_ 2).n), c5, mv] : List Value) := ⟨([.int .i32 (IntKind.i32.wrap (y.at_ 0).n), .string ⟨(y.at_ 1).s.toArray⟩, .int .i32 (IntKind.i32.wrap (y.at_ 2).n), c5] : List Value), mv, rfl, (RMl_cons (c := [.int .i32 (IntKind.i32.wrap (y.at_ 0).n)]) (RMf_i32.2 rfl) (RMl_cons (c := [.string ⟨(y.at_ 1).s.toArray⟩]) ((RMf_str (by decide)).2 rfl) (RMl_cons (c := [.int .i32 (IntKind.i32.wrap (y.at_ 2).n)]) (RMf_i32.2 rfl) (RMl_cons (c := [c5]) ((RMf_txt (by decide)).2 ⟨_, rfl, hFc5⟩) RMl_nil)))), hT⟩
  have hsz : fszs F_sShareFetchResponseNodeEndpoint + 1 = 5 := by kernel_rfl
  obtain ⟨hl9, h19⟩ := hR.len
  rw [hsz] at hl9
  refine cd_sr ?_
  refine ln_pv (pv_ldO (i := 0) rfl Tryz.underlying140 rfl tipub_kmsg_ShareFetchResponseNodeEndpoint.size rfl hl9) rfl ?_
  refine ln_storeW (i := 2) (vs := ([.int .i32 (IntKind.i32.wrap (y.at_ 0).n), .string ⟨(y.at_ 1).s.toArray⟩, .int .i32 (IntKind.i32.wrap (y.at_ 2).n), c5, mv] : List Value)) rfl rfl rfl rfl tipub_kmsg_ShareFetchResponseNodeEndpoint.size hl9 h19 ?_
  refine ln_cd ?_
  refine cd_ret ?_
  exact at_retC (i := 2) rfl rfl rfl Tryz.underlying140 rfl tipub_kmsg_ShareFetchResponseNodeEndpoint.size hl9 (fun w hS => ⟨_, rfl, hR.mv hS.trFin⟩)
theorem fill_ShareFetchResponse (t : Vw) (b : Nat) (v : Int) (y : Tre) (cs : List Value) (hx : RT t y cs) (hsm : smT y) (hg : gT y) (hok : (MsgBox b 81 ([.int .i16 v, .int .i32 0, .int .i16 0, .pointer none, .int .i32 0, .slice none 0 0, .slice none 0 0, .map none] : List Value)).ok t.w) (hav : ∀ q ∈ (MsgBox b 81 ([.int .i16 v, .int .i32 0, .int .i16 0, .pointer none, .int .i32 0, .slice none 0 0, .slice none 0 0, .map none] : List Value)).blk, t.av q) : CT Tryz.prog 48 [.pointer (some ⟨b, 0, none⟩), .agg cs.toArray] t (MsgBox b 81 ([.int .i16 v, .int .i32 0, .int .i16 0, .pointer none, .int .i32 0, .slice none 0 0, .slice none 0 0, .map none] : List Value)) fun u r e' => ∃ cells, e' = MsgBox b 81 (.int .i16 v :: cells) ∧ RMp u F_ShareFetchResponse y cells := by
  refine ct_enter Tryz.func48 rfl Tryz.ntmps48 rfl hok hav (by simp [Ent.blk]) ?_
  refine cd_sr ?_
  refine ln_box (l := cs) rfl rfl rfl (fun b1 => ?_)
  refine ln_cd ?_
  refine cd_perm (H' := [MsgBox b 81 ([.int .i16 v, .int .i32 0, .int .i16 0, .pointer none, .int .i32 0, .slice none 0 0, .slice none 0 0, .map none] : List Value), TreeBox b1 cs]) (List.Perm.swap _ _ _) ?_
  refine cd_sq ?_
  refine cd_region ?_
  refine ln_pv (pv_move rfl) rfl ?_
  refine ln_at (i0 := 1) (j := 0) rfl rfl hx rfl (fun u1 sS1 sL1 sU1 ht1 hd1 => ?_)
  have hx := hx.mv ht1
  refine ln_pv (pv_field1 (v := .int .i64 (y.at_ 0).n) Tryz.underlying39 rfl Tryz.underlying2 rfl lk_eq rfl) rfl ?_
  refine ln_pv (pv_conv' (k := .i64) (i := (y.at_ 0).n) Tryz.underlying2 Tryz.underlying21 lk_eq rfl) rfl ?_
  refine ln_pv (pv_nilCheck rfl) rfl ?_
  refine ln_pv (pv_fieldAddr (off := 1) (r := 1) Tryz.underlying81 rfl tiint32.size rfl rfl rfl) rfl ?_
  refine ln_storeM (M' := ([.int .i16 v, .int .i32 (IntKind.i32.wrap (y.at_ 0).n), .int .i16 0, .pointer none, .int .i32 0, .slice none 0 0, .slice none 0 0, .map none] : List Value)) rfl rfl rfl tiint32.size (Nat.le_of_ble_eq_true rfl) rfl ?_
  refine ln_nil ?_
  refine at_sub (.skip rfl (.skip rfl (.skip rfl (.skip rfl (.skip rfl (.skip rfl .rfl')))))) ?_
  refine at_cd ?_
  refine cd_sq ?_
  refine cd_region ?_
  refine ln_pv (pv_move rfl) rfl ?_
  refine ln_at (i0 := 1) (j := 1) rfl rfl hx rfl (fun u2 sS2 sL2 sU2 ht2 hd2 => ?_)
  have hx := hx.mv ht2
  refine ln_pv (pv_field1 (v := .int .i64 (y.at_ 1).n) Tryz.underlying39 rfl Tryz.underlying2 rfl lk_eq rfl) rfl ?_
  refine ln_pv (pv_conv' (k := .i64) (i := (y.at_ 1).n) Tryz.underlying2 Tryz.underlying45 lk_eq rfl) rfl ?_
  refine ln_pv (pv_nilCheck rfl) rfl ?_
  refine ln_pv (pv_fieldAddr (off := 2) (r := 2) Tryz.underlying81 rfl tiint16.size rfl rfl rfl) rfl ?_
  refine ln_storeM (M' := ([.int .i16 v, .int .i32 (IntKind.i32.wrap (y.at_ 0).n), .int .i16 (IntKind.i16.wrap (y.at_ 1).n), .pointer none, .int .i32 0, .slice none 0 0, .slice none 0 0, .map none] : List Value)) rfl rfl rfl tiint16.size (Nat.le_of_ble_eq_true rfl) rfl ?_
  refine ln_nil ?_
  refine at_sub (.skip rfl (.skip rfl (.skip rfl (.skip rfl (.skip rfl (.skip rfl .rfl')))))) ?_
  refine at_cd ?_
  refine cd_sq ?_
  refine cd_region ?_
  refine ln_pv (pv_move rfl) rfl ?_
  refine ln_at (i0 := 1) (j := 2) rfl rfl hx rfl (fun u3 sS3 sL3 sU3 ht3 hd3 => ?_)
  have hx := hx.mv ht3
  refine ln_callA (vals := [.agg _]) en_60 rfl (fun u hu => impl_textOf u (y.at_ 2) _ (hd3.mv hu)) rfl (fun uc4 c4 htc4 hFc4 => ?_)
  have hx := hx.mv htc4
  refine ln_pv (pv_nilCheck rfl) rfl ?_
  refine ln_pv (pv_fieldAddr (off := 3) (r := 3) Tryz.underlying81 rfl tiPt_string.size rfl rfl rfl) rfl ?_
  refine ln_storeM (M' := ([.int .i16 v, .int .i32 (IntKind.i32.wrap (y.at_ 0).n), .int .i16 (IntKind.i16.wrap (y.at_ 1).n), c4, .int .i32 0, .slice none 0 0, .slice none 0 0, .map none] : List Value)) rfl rfl hFc4.one tiPt_string.size (Nat.le_of_ble_eq_true rfl) rfl ?_
  refine ln_nil ?_
  refine at_sub (.skip rfl (.skip rfl (.skip rfl (.skip rfl (.skip rfl .rfl'))))) ?_
  refine at_cd ?_
  refine cd_sq ?_
  refine cd_region ?_
  refine ln_pv (pv_move rfl) rfl ?_
  refine ln_at (i0 := 1) (j := 3) rfl rfl hx rfl (fun u5 sS5 sL5 sU5 ht5 hd5 => ?_)
  have hx := hx.mv ht5
  have hFc4 := hFc4.mv ht5
  refine ln_pv (pv_field1 (v := .int .i64 (y.at_ 3).n) Tryz.underlying39 rfl Tryz.underlying2 rfl lk_eq rfl) rfl ?_
  refine ln_pv (pv_conv' (k := .i64) (i := (y.at_ 3).n) Tryz.underlying2 Tryz.underlying21 lk_eq rfl) rfl ?_
  refine ln_pv (pv_nilCheck rfl) rfl ?_
  refine ln_pv (pv_fieldAddr (off := 4) (r := 4) Tryz.underlying81 rfl tiint32.size rfl rfl rfl) rfl ?_
  refine ln_storeM (M' := ([.int .i16 v, .int .i32 (IntKind.i32.wrap (y.at_ 0).n), .int .i16 (IntKind.i16.wrap (y.at_ 1).n), c4, .int .i32 (IntKind.i32.wrap (y.at_ 3).n), .slice none 0 0, .slice none 0 0, .map none] : List Value)) rfl rfl rfl tiint32.size (Nat.le_of_ble_eq_true rfl) rfl ?_
  refine ln_nil ?_
  refine at_sub (.skip rfl (.skip rfl (.skip rfl (.skip rfl (.skip rfl (.skip rfl .rfl')))))) ?_
  refine at_cd ?_
  refine cd_sq ?_
  refine fl_nl (o := 10) (sb := F_sShareFetchResponseTopic) (j := 4) (off := 5) rfl hx rfl rfl (fun u6 c6 ht6 hF6 => ?_) (fun hz u6a hu6 kk => ?_)
  rotate_left
  · skip
    have hx := hx.mv hu6
    have hFc4 := hFc4.mv hu6
    have hle6 : (y.at_ 4).l.length ≤ 32767 := (hg.at_ 4).open.2.2.1
    refine cd_sq ?_
    refine fl_makeP (ez := 18) (j := 4) (off := 5) rfl rfl hx hle6 Tryz.underlying81 rfl rfl tiSl_kmsg_ShareFetchResponseTopic.size rfl Tryz.underlying78 tipub_kmsg_ShareFetchResponseTopic (by decide) rfl (Nat.le_of_ble_eq_true rfl) (fun u6b g6 cap6 hb6 => ?_)
    have hx := hx.mv hb6
    have hFc4 := hFc4.mv hb6
    refine at_cd ?_
    refine fl_list (o := 10) (sb := F_sShareFetchResponseTopic) (j := 4) (off := 5) (ez := 18) (by kernel_rfl) rfl hx hle6 hz rfl (fun q hq => by simpa [Ent.blk] using hq) rfl (fun i hi u b5 g cap xs ci sl N' X' hu hxl hci kb => ?_) (fun u c hu hF => kk u c (hb6.trans hu) hF)
    have hmk : ∀ u2, Tr u u2 → CA Tryz.prog 93 [.agg ci.toArray] u2 fun u3 v => ∃ c, v = .agg c.toArray ∧ RMp u3 F_sShareFetchResponseTopic (y.at_ 4).l[i] c := fun u2 h2 => make_makeShareFetchResponseTopic u2 _ _ (hci.mv h2) (smTs.mem (hsm.at_ 4).open.2.2.2 _ (List.getElem_mem hi)) (gTs.mem (hg.at_ 4).open.2.2.2 _ (List.getElem_mem hi))
    exact fl_appPS (sb := F_sShareFetchResponseTopic) (off := 5) rfl rfl Tryz.underlying81 rfl rfl tiSl_kmsg_ShareFetchResponseTopic.size rfl Tryz.underlying78 tipub_kmsg_ShareFetchResponseTopic rfl (by decide) (by decide) (by decide) (by kernel_rfl) en_93 hci.len hmk rfl (Nat.le_of_ble_eq_true rfl) (by omega) hxl (by kernel_rfl) (by kernel_rfl) kb
  have hx := hx.mv ht6
  have hFc4 := hFc4.mv ht6
  refine at_msg (M' := ([.int .i16 v, .int .i32 (IntKind.i32.wrap (y.at_ 0).n), .int .i16 (IntKind.i16.wrap (y.at_ 1).n), c4, .int .i32 (IntKind.i32.wrap (y.at_ 3).n), c6, .slice none 0 0, .map none] : List Value)) rfl ?_
  refine at_cd ?_
  refine cd_sq ?_
  refine fl_nl (o := 10) (sb := F_sShareFetchResponseNodeEndpoint) (j := 5) (off := 6) rfl hx rfl rfl (fun u7 c7 ht7 hF7 => ?_) (fun hz u7a hu7 kk => ?_)
  rotate_left
  · skip
    have hx := hx.mv hu7
    have hFc4 := hFc4.mv hu7
    have hF6 := hF6.mv hu7
    have hle7 : (y.at_ 5).l.length ≤ 32767 := (hg.at_ 5).open.2.2.1
    refine cd_sq ?_
    refine fl_makeP (ez := 5) (j := 5) (off := 6) rfl rfl hx hle7 Tryz.underlying81 rfl rfl tiSl_kmsg_ShareFetchResponseNodeEndpoint.size rfl Tryz.underlying79 tipub_kmsg_ShareFetchResponseNodeEndpoint (by decide) rfl (Nat.le_of_ble_eq_true rfl) (fun u7b g7 cap7 hb7 => ?_)
    have hx := hx.mv hb7
    have hFc4 := hFc4.mv hb7
    have hF6 := hF6.mv hb7
    refine at_cd ?_
    refine fl_list (o := 10) (sb := F_sShareFetchResponseNodeEndpoint) (j := 5) (off := 6) (ez := 5) (by kernel_rfl) rfl hx hle7 hz rfl (fun q hq => by simpa [Ent.blk] using hq) rfl (fun i hi u b5 g cap xs ci sl N' X' hu hxl hci kb => ?_) (fun u c hu hF => kk u c (hb7.trans hu) hF)
    have hmk : ∀ u2, Tr u u2 → CA Tryz.prog 94 [.agg ci.toArray] u2 fun u3 v => ∃ c, v = .agg c.toArray ∧ RMp u3 F_sShareFetchResponseNodeEndpoint (y.at_ 5).l[i] c := fun u2 h2 => make_makeShareFetchResponseNodeEndpoint u2 _ _ (hci.mv h2) (smTs.mem (hsm.at_ 5).open.2.2.2 _ (List.getElem_mem hi)) (gTs.mem (hg.at_ 5).open.2.2.2 _ (List.getElem_mem hi))
    exact fl_appPS (sb := F_sShareFetchResponseNodeEndpoint) (off := 6) rfl rfl Tryz.underlying81 rfl rfl tiSl_kmsg_ShareFetchResponseNodeEndpoint.size rfl Tryz.underlying79 tipub_kmsg_ShareFetchResponseNodeEndpoint rfl (by decide) (by decide) (by decide) (by kernel_rfl) en_94 hci.len hmk rfl (Nat.le_of_ble_eq_true rfl) (by omega) hxl (by kernel_rfl) (by kernel_rfl) kb
  have hx := hx.mv ht7
  have hFc4 := hFc4.mv ht7
  have hF6 := hF6.mv ht7
  refine at_msg (M' := ([.int .i16 v, .int .i32 (IntKind.i32.wrap (y.at_ 0).n), .int .i16 (IntKind.i16.wrap (y.at_ 1).n), c4, .int .i32 (IntKind.i32.wrap (y.at_ 3).n), c6, c7, .map none] : List Value)) rfl ?_
  refine at_cd ?_
  refine fl_tags (off := 7) rfl hx hg.open.1 (by have := hg.open.2.1; omega) rfl (fun q hq => by simpa [Ent.blk] using hq) rfl (fun i hi u b5 mo l tv E N' X' hu hv h0 hnew hL htx hfr kb => ?_) (fun u mv ht hT => ?_)
  · exact fl_setP (off := 7) (hL _ _ rfl) htx Tryz.underlying81 rfl tipub_kmsg_Tags.size rfl (frs_via hfr (v := .bool true) rfl) (Nat.le_of_ble_eq_true rfl) h0 hnew (by kernel_rfl) kb
  have hx := hx.mv ht
  have hFc4 := hFc4.mv ht
  have hF6 := hF6.mv ht
  have hF7 := hF7.mv ht
  refine at_msg (M' := ([.int .i16 v, .int .i32 (IntKind.i32.wrap (y.at_ 0).n), .int .i16 (IntKind.i16.wrap (y.at_ 1).n), c4, .int .i32 (IntKind.i32.wrap (y.at_ 3).n), c6, c7, mv] : List Value)) rfl ?_
  have hR : RMp _ F_ShareFetchResponse y ([.int .i32 (IntKind.i32.wrap (y.at_ 0).n), .int .i16 (IntKind.i16.wrap (y.at_ 1).n), c4, .int .i32 (IntKind.i32.wrap (y.at_ 3).n), c6, c7, mv] : List Value) := ⟨([.int .i32 (IntKind.i32.wrap (y.at_ 0).n), .int .i16 (IntKind.i16.wrap (y.at_ 1).n), c4, .int .i32 (IntKind.i32.wrap (y.at_ 3).n), c6, c7] : List Value), mv, rfl, (RMl_cons (c := [.int .i32 (IntKind.i32.wrap (y.at_ 0).n)]) (RMf_i32.2 rfl) (RMl_cons (c := [.int .i16 (IntKind.i16.wrap (y.at_ 1).n)]) (RMf_i16.2 rfl) (RMl_cons (c := [c4]) ((RMf_txt (by decide)).2 ⟨_, rfl, hFc4⟩) (RMl_cons (c := [.int .i32 (IntKind.i32.wrap (y.at_ 3).n)]) (RMf_i32.2 rfl) (RMl_cons (c := [c6]) (RMf_list.2 ⟨_, rfl, hF6⟩) (RMl_cons (c := [c7]) (RMf_list.2 ⟨_, rfl, hF7⟩) RMl_nil)))))), hT⟩
  exact at_retT0 (i := 0) rfl rfl (fun w hS => ⟨_, rfl, hR.mv (hS.trFinT _ _)⟩)
end K
end Go.Proofs.YtmknncmdbmnmgabGreat
