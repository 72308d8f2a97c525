import Derived.Test.YtmknncmdbmnmgabGreatB5
import Derived.Test.YtmknncmdbmnmgabGreatMds
set_option linter.unusedVariables false
set_option linter.unusedSimpArgs false
namespace Go.Proofs.YtmknncmdbmnmgabGreat
namespace K
open Go Go.Lib
theorem make_makeDescribeQuorumResponseTopicPartitionReplicaState (t : Vw) (y : Tre) (cs : List Value) (hx : RT t y cs) (hsm : smT y) (hg : gT y) : CA Tryz.prog 131 [.agg cs.toArray] t fun u v => ∃ c, v = .agg c.toArray ∧ RMp u F_sDescribeQuorumResponseTopicPartitionReplicaState y c := by
  refine ca_enter Tryz.func131 rfl Tryz.ntmps131 rfl ?_
  refine cd_sr ?_
  refine ln_box (l := cs) rfl rfl rfl (fun b1 => ?_)
  refine ln_alloc (l := ([.int .i32 0, .int .u8 0, .int .u8 0, .int .u8 0, .int .u8 0, .int .u8 0, .int .u8 0, .int .u8 0, .int .u8 0, .int .u8 0, .int .u8 0, .int .u8 0, .int .u8 0, .int .u8 0, .int .u8 0, .int .u8 0, .int .u8 0, .int .i64 0, .int .i64 0, .int .i64 0, .map none] : List Value)) tipub_kmsg_DescribeQuorumResponseTopicPartitionReplicaState rfl rfl (fun b2 => ?_)
  refine ln_cd ?_
  refine cd_sr ?_
  refine ln_alloc (l := ([.int .i32 0, .int .u8 0, .int .u8 0, .int .u8 0, .int .u8 0, .int .u8 0, .int .u8 0, .int .u8 0, .int .u8 0, .int .u8 0, .int .u8 0, .int .u8 0, .int .u8 0, .int .u8 0, .int .u8 0, .int .u8 0, .int .u8 0, .int .i64 0, .int .i64 0, .int .i64 0, .map none] : List Value)) tipub_kmsg_DescribeQuorumResponseTopicPartitionReplicaState rfl rfl (fun b3 => ?_)
  refine ln_cd ?_
  refine cd_perm (H' := [MsgBox b3 170 ([.int .i32 0, .int .u8 0, .int .u8 0, .int .u8 0, .int .u8 0, .int .u8 0, .int .u8 0, .int .u8 0, .int .u8 0, .int .u8 0, .int .u8 0, .int .u8 0, .int .u8 0, .int .u8 0, .int .u8 0, .int .u8 0, .int .u8 0, .int .i64 0, .int .i64 0, .int .i64 0, .map none] : List Value), TreeBox b1 cs, MsgBox b2 170 ([.int .i32 0, .int .u8 0, .int .u8 0, .int .u8 0, .int .u8 0, .int .u8 0, .int .u8 0, .int .u8 0, .int .u8 0, .int .u8 0, .int .u8 0, .int .u8 0, .int .u8 0, .int .u8 0, .int .u8 0, .int .u8 0, .int .u8 0, .int .i64 0, .int .i64 0, .int .i64 0, .map none] : List Value)]) (List.Perm.cons _ (List.Perm.swap _ _ _)) ?_
  refine cd_sq ?_
  refine cd_region ?_
  refine ln_at (i0 := 1) (j := 0) rfl rfl hx rfl (fun u1 sS1 sL1 sU1 ht1 hd1 => ?_)
  have hx := hx.mv ht1
  refine ln_pv (pv_field1 (v := .int .i64 (y.at_ 0).n) Tryz.underlying39 rfl Tryz.underlying2 rfl lk_eq rfl) rfl ?_
  refine ln_pv (pv_conv' (k := .i64) (i := (y.at_ 0).n) Tryz.underlying2 Tryz.underlying21 lk_eq rfl) rfl ?_
  refine ln_pv (pv_fieldAddr (off := 0) (r := 0) Tryz.underlying170 rfl tiint32.size rfl rfl rfl) rfl ?_
  refine ln_storeM (M' := ([.int .i32 (IntKind.i32.wrap (y.at_ 0).n), .int .u8 0, .int .u8 0, .int .u8 0, .int .u8 0, .int .u8 0, .int .u8 0, .int .u8 0, .int .u8 0, .int .u8 0, .int .u8 0, .int .u8 0, .int .u8 0, .int .u8 0, .int .u8 0, .int .u8 0, .int .u8 0, .int .i64 0, .int .i64 0, .int .i64 0, .map none] : List Value)) rfl rfl rfl tiint32.size (Nat.le_of_ble_eq_true rfl) rfl ?_
  refine ln_nil ?_
  refine at_sub (.skip rfl (.skip rfl (.skip rfl (.skip rfl .rfl')))) ?_
  refine at_cd ?_
  refine cd_sq ?_
  refine cd_region ?_
  refine ln_at (i0 := 1) (j := 1) rfl rfl hx rfl (fun u2 sS2 sL2 sU2 ht2 hd2 => ?_)
  have hx := hx.mv ht2
  have hS2 := hd2.str
  refine ln_pv (pv_field1 (v := sS2) Tryz.underlying39 rfl Tryz.underlying22 rfl lk_eq rfl) rfl ?_
  refine ln_callA (vals := [sS2]) en_114 rfl (fun u hu => impl_sixteen u _ (y.at_ 1).s (RSv.mv hS2 hu)) rfl ?_
  rintro uc3 _ htc3 rfl
  have hx := hx.mv htc3
  refine ln_pv (pv_fieldAddr (off := 1) (r := 1) Tryz.underlying170 rfl ti_16_uint8.size rfl rfl rfl) rfl ?_
  refine ln_storeMA (m := 16) (M' := ([.int .i32 (IntKind.i32.wrap (y.at_ 0).n)] ++ (u8s (uuid (y.at_ 1).s) ++ ([.int .i64 0, .int .i64 0, .int .i64 0, .map none])) : List Value)) rfl rfl (by simp [uuid_length]) (u8s_one _) ti_16_uint8.size (Nat.le_of_ble_eq_true rfl) (by simp [wr, uuid_length]) ?_
  refine ln_nil ?_
  refine at_sub (.skip rfl (.skip rfl (.skip rfl (.skip rfl .rfl')))) ?_
  refine at_cd ?_
  refine cd_sq ?_
  refine cd_region ?_
  refine ln_at (i0 := 1) (j := 2) rfl rfl hx rfl (fun u4 sS4 sL4 sU4 ht4 hd4 => ?_)
  have hx := hx.mv ht4
  refine ln_pv (pv_field1 (v := .int .i64 (y.at_ 2).n) Tryz.underlying39 rfl Tryz.underlying2 rfl lk_eq rfl) rfl ?_
  have hI4 := hd4.i64
  refine ln_pv (pv_fieldAddr (off := 17) (r := 17) Tryz.underlying170 rfl tiint64.size rfl rfl rfl) rfl ?_
  refine ln_storeM (M' := ([.int .i32 (IntKind.i32.wrap (y.at_ 0).n)] ++ (u8s (uuid (y.at_ 1).s) ++ ([.int .i64 (y.at_ 2).n, .int .i64 0, .int .i64 0, .map none])) : List Value)) rfl rfl rfl tiint64.size (by simp [uuid_length]) (by simp [List.set_append, List.getElem?_append, wr, uuid_length]) ?_
  refine ln_nil ?_
  refine at_sub (.skip rfl (.skip rfl (.skip rfl .rfl'))) ?_
  refine at_cd ?_
  refine cd_sq ?_
  refine cd_region ?_
  refine ln_at (i0 := 1) (j := 3) rfl rfl hx rfl (fun u5 sS5 sL5 sU5 ht5 hd5 => ?_)
  have hx := hx.mv ht5
  refine ln_pv (pv_field1 (v := .int .i64 (y.at_ 3).n) Tryz.underlying39 rfl Tryz.underlying2 rfl lk_eq rfl) rfl ?_
  have hI5 := hd5.i64
  refine ln_pv (pv_fieldAddr (off := 18) (r := 18) Tryz.underlying170 rfl tiint64.size rfl rfl rfl) rfl ?_
  refine ln_storeM (M' := ([.int .i32 (IntKind.i32.wrap (y.at_ 0).n)] ++ (u8s (uuid (y.at_ 1).s) ++ ([.int .i64 (y.at_ 2).n, .int .i64 (y.at_ 3).n, .int .i64 0, .map none])) : List Value)) rfl rfl rfl tiint64.size (by simp [uuid_length]) (by simp [List.set_append, List.getElem?_append, wr, uuid_length]) ?_
  refine ln_nil ?_
  refine at_sub (.skip rfl (.skip rfl (.skip rfl .rfl'))) ?_
  refine at_cd ?_
  refine cd_sq ?_
  refine cd_region ?_
  refine ln_at (i0 := 1) (j := 4) rfl rfl hx rfl (fun u6 sS6 sL6 sU6 ht6 hd6 => ?_)
  have hx := hx.mv ht6
  refine ln_pv (pv_field1 (v := .int .i64 (y.at_ 4).n) Tryz.underlying39 rfl Tryz.underlying2 rfl lk_eq rfl) rfl ?_
  have hI6 := hd6.i64
  refine ln_pv (pv_fieldAddr (off := 19) (r := 19) Tryz.underlying170 rfl tiint64.size rfl rfl rfl) rfl ?_
  refine ln_storeM (M' := ([.int .i32 (IntKind.i32.wrap (y.at_ 0).n)] ++ (u8s (uuid (y.at_ 1).s) ++ ([.int .i64 (y.at_ 2).n, .int .i64 (y.at_ 3).n, .int .i64 (y.at_ 4).n, .map none])) : List Value)) rfl rfl rfl tiint64.size (by simp [uuid_length]) (by simp [List.set_append, List.getElem?_append, wr, uuid_length]) ?_
  refine ln_nil ?_
  refine at_sub (.skip rfl (.skip rfl (.skip rfl .rfl'))) ?_
  refine at_cd ?_
  refine cd_sq ?_
  refine fl_tags (off := 20) rfl hx hg.open.1 (by have := hg.open.2.1; omega) rfl (fun q hq => hq.elim) (by simp [List.set_append, List.getElem?_append, wr, uuid_length]) (fun i hi u b5 mo l tv E N' X' hu hv h0 hnew hL htx hfr kb => ?_) (fun u mv ht hT => ?_)
  · exact fl_setL (off := 20) (hL _ _ rfl) htx Tryz.underlying170 rfl tipub_kmsg_Tags.size rfl (frs_via hfr (v := .bool true) rfl) (by simp [uuid_length]) h0 hnew kb
  have hx := hx.mv ht
  refine at_msg (M' := ([.int .i32 (IntKind.i32.wrap (y.at_ 0).n)] ++ (u8s (uuid (y.at_ 1).s) ++ ([.int .i64 (y.at_ 2).n, .int .i64 (y.at_ 3).n, .int .i64 (y.at_ 4).n, mv])) : List Value)) (by simp [List.set_append, List.getElem?_append, wr, uuid_length]) ?_
  refine at_cd ?_
  have hR : RMp _ F_sDescribeQuorumResponseTopicPartitionReplicaState y ([.int .i32 (IntKind.i32.wrap (y.at_ 0).n)] ++ (u8s (uuid (y.at_ 1).s) ++ ([.int .i64 (y.at_ 2).n, .int .i64 (y.at_ 3).n, .int .i64 (y.at_ 4).n, mv])) : List Value) := ⟨([.int .i32 (IntKind.i32.wrap (y.at_ 0).n)] ++ (u8s (uuid (y.at_ 1).s) ++ ([.int .i64 (y.at_ 2).n, .int .i64 (y.at_ 3).n, .int .i64 (y.at_ 4).n])) : List Value), mv, by simp, (RMl_cons (c := [.int .i32 (IntKind.i32.wrap (y.at_ 0).n)]) (RMf_i32.2 rfl) (RMl_cons (c := u8s (uuid (y.at_ 1).s)) (RMf_uuid.2 rfl) (RMl_cons (c := [.int .i64 (y.at_ 2).n]) (RMf_i64.2 ⟨rfl, hI4⟩) (RMl_cons (c := [.int .i64 (y.at_ 3).n]) (RMf_i64.2 ⟨rfl, hI5⟩) (RMl_cons (c := [.int .i64 (y.at_ 4).n]) (RMf_i64.2 ⟨rfl, hI6⟩) RMl_nil))))), hT⟩
  have hsz : fszs F_sDescribeQuorumResponseTopicPartitionReplicaState + 1 = 21 := by kernel_rfl
  obtain ⟨hl9, h19⟩ := hR.len
  rw [hsz] at hl9
  refine cd_sr ?_
  refine ln_pv (pv_ldO (i := 0) rfl Tryz.underlying170 rfl tipub_kmsg_DescribeQuorumResponseTopicPartitionReplicaState.size rfl hl9) rfl ?_
  refine ln_storeW (i := 2) (vs := ([.int .i32 (IntKind.i32.wrap (y.at_ 0).n)] ++ (u8s (uuid (y.at_ 1).s) ++ ([.int .i64 (y.at_ 2).n, .int .i64 (y.at_ 3).n, .int .i64 (y.at_ 4).n, mv])) : List Value)) rfl rfl rfl rfl tipub_kmsg_DescribeQuorumResponseTopicPartitionReplicaState.size hl9 h19 ?_
  refine ln_cd ?_
  refine cd_ret ?_
  exact at_retC (i := 2) rfl rfl rfl Tryz.underlying170 rfl tipub_kmsg_DescribeQuorumResponseTopicPartitionReplicaState.size hl9 (fun w hS => ⟨_, rfl, hR.mv hS.trFin⟩)
theorem make_makeDescribeQuorumResponseTopicPartition (t : Vw) (y : Tre) (cs : List Value) (hx : RT t y cs) (hsm : smT y) (hg : gT y) : CA Tryz.prog 122 [.agg cs.toArray] t fun u v => ∃ c, v = .agg c.toArray ∧ RMp u F_sDescribeQuorumResponseTopicPartition y c := by
  refine ca_enter Tryz.func122 rfl Tryz.ntmps122 rfl ?_
  refine cd_sr ?_
  refine ln_box (l := cs) rfl rfl rfl (fun b1 => ?_)
  refine ln_alloc (l := ([.int .i32 0, .int .i16 0, .pointer none, .int .i32 0, .int .i32 0, .int .i64 0, .slice none 0 0, .slice none 0 0, .map none] : List Value)) tipub_kmsg_DescribeQuorumResponseTopicPartition rfl rfl (fun b2 => ?_)
  refine ln_cd ?_
  refine cd_sr ?_
  refine ln_alloc (l := ([.int .i32 0, .int .i16 0, .pointer none, .int .i32 0, .int .i32 0, .int .i64 0, .slice none 0 0, .slice none 0 0, .map none] : List Value)) tipub_kmsg_DescribeQuorumResponseTopicPartition rfl rfl (fun b3 => ?_)
  refine ln_cd ?_
  refine cd_perm (H' := [MsgBox b3 167 ([.int .i32 0, .int .i16 0, .pointer none, .int .i32 0, .int .i32 0, .int .i64 0, .slice none 0 0, .slice none 0 0, .map none] : List Value), TreeBox b1 cs, MsgBox b2 167 ([.int .i32 0, .int .i16 0, .pointer none, .int .i32 0, .int .i32 0, .int .i64 0, .slice none 0 0, .slice none 0 0, .map none] : List Value)]) (List.Perm.cons _ (List.Perm.swap _ _ _)) ?_
  refine cd_sq ?_
  refine cd_region ?_
  refine ln_at (i0 := 1) (j := 0) rfl rfl hx rfl (fun u1 sS1 sL1 sU1 ht1 hd1 => ?_)
  have hx := hx.mv ht1
  refine ln_pv (pv_field1 (v := .int .i64 (y.at_ 0).n) Tryz.underlying39 rfl Tryz.underlying2 rfl lk_eq rfl) rfl ?_
  refine ln_pv (pv_conv' (k := .i64) (i := (y.at_ 0).n) Tryz.underlying2 Tryz.underlying21 lk_eq rfl) rfl ?_
  refine ln_pv (pv_fieldAddr (off := 0) (r := 0) Tryz.underlying167 rfl tiint32.size rfl rfl rfl) rfl ?_
  refine ln_storeM (M' := ([.int .i32 (IntKind.i32.wrap (y.at_ 0).n), .int .i16 0, .pointer none, .int .i32 0, .int .i32 0, .int .i64 0, .slice none 0 0, .slice none 0 0, .map none] : List Value)) rfl rfl rfl tiint32.size (Nat.le_of_ble_eq_true rfl) rfl ?_
  refine ln_nil ?_
  refine at_sub (.skip rfl (.skip rfl (.skip rfl (.skip rfl .rfl')))) ?_
  refine at_cd ?_
  refine cd_sq ?_
  refine cd_region ?_
  refine ln_at (i0 := 1) (j := 1) rfl rfl hx rfl (fun u2 sS2 sL2 sU2 ht2 hd2 => ?_)
  have hx := hx.mv ht2
  refine ln_pv (pv_field1 (v := .int .i64 (y.at_ 1).n) Tryz.underlying39 rfl Tryz.underlying2 rfl lk_eq rfl) rfl ?_
  refine ln_pv (pv_conv' (k := .i64) (i := (y.at_ 1).n) Tryz.underlying2 Tryz.underlying45 lk_eq rfl) rfl ?_
  refine ln_pv (pv_fieldAddr (off := 1) (r := 1) Tryz.underlying167 rfl tiint16.size rfl rfl rfl) rfl ?_
  refine ln_storeM (M' := ([.int .i32 (IntKind.i32.wrap (y.at_ 0).n), .int .i16 (IntKind.i16.wrap (y.at_ 1).n), .pointer none, .int .i32 0, .int .i32 0, .int .i64 0, .slice none 0 0, .slice none 0 0, .map none] : List Value)) rfl rfl rfl tiint16.size (Nat.le_of_ble_eq_true rfl) rfl ?_
  refine ln_nil ?_
  refine at_sub (.skip rfl (.skip rfl (.skip rfl (.skip rfl .rfl')))) ?_
  refine at_cd ?_
  refine cd_sq ?_
  refine cd_region ?_
  refine ln_at (i0 := 1) (j := 2) rfl rfl hx rfl (fun u3 sS3 sL3 sU3 ht3 hd3 => ?_)
  have hx := hx.mv ht3
  refine ln_callA (vals := [.agg _]) en_60 rfl (fun u hu => impl_textOf u (y.at_ 2) _ (hd3.mv hu)) rfl (fun uc4 c4 htc4 hFc4 => ?_)
  have hx := hx.mv htc4
  refine ln_pv (pv_fieldAddr (off := 2) (r := 2) Tryz.underlying167 rfl tiPt_string.size rfl rfl rfl) rfl ?_
  refine ln_storeM (M' := ([.int .i32 (IntKind.i32.wrap (y.at_ 0).n), .int .i16 (IntKind.i16.wrap (y.at_ 1).n), c4, .int .i32 0, .int .i32 0, .int .i64 0, .slice none 0 0, .slice none 0 0, .map none] : List Value)) rfl rfl hFc4.one tiPt_string.size (Nat.le_of_ble_eq_true rfl) rfl ?_
  refine ln_nil ?_
  refine at_sub (.skip rfl (.skip rfl (.skip rfl .rfl'))) ?_
  refine at_cd ?_
  refine cd_sq ?_
  refine cd_region ?_
  refine ln_at (i0 := 1) (j := 3) rfl rfl hx rfl (fun u5 sS5 sL5 sU5 ht5 hd5 => ?_)
  have hx := hx.mv ht5
  have hFc4 := hFc4.mv ht5
  refine ln_pv (pv_field1 (v := .int .i64 (y.at_ 3).n) Tryz.underlying39 rfl Tryz.underlying2 rfl lk_eq rfl) rfl ?_
  refine ln_pv (pv_conv' (k := .i64) (i := (y.at_ 3).n) Tryz.underlying2 Tryz.underlying21 lk_eq rfl) rfl ?_
  refine ln_pv (pv_fieldAddr (off := 3) (r := 3) Tryz.underlying167 rfl tiint32.size rfl rfl rfl) rfl ?_
  refine ln_storeM (M' := ([.int .i32 (IntKind.i32.wrap (y.at_ 0).n), .int .i16 (IntKind.i16.wrap (y.at_ 1).n), c4, .int .i32 (IntKind.i32.wrap (y.at_ 3).n), .int .i32 0, .int .i64 0, .slice none 0 0, .slice none 0 0, .map none] : List Value)) rfl rfl rfl tiint32.size (Nat.le_of_ble_eq_true rfl) rfl ?_
  refine ln_nil ?_
  refine at_sub (.skip rfl (.skip rfl (.skip rfl (.skip rfl .rfl')))) ?_
  refine at_cd ?_
  refine cd_sq ?_
  refine cd_region ?_
  refine ln_at (i0 := 1) (j := 4) rfl rfl hx rfl (fun u6 sS6 sL6 sU6 ht6 hd6 => ?_)
  have hx := hx.mv ht6
  have hFc4 := hFc4.mv ht6
  refine ln_pv (pv_field1 (v := .int .i64 (y.at_ 4).n) Tryz.underlying39 rfl Tryz.underlying2 rfl lk_eq rfl) rfl ?_
  refine ln_pv (pv_conv' (k := .i64) (i := (y.at_ 4).n) Tryz.underlying2 Tryz.underlying21 lk_eq rfl) rfl ?_
  refine ln_pv (pv_fieldAddr (off := 4) (r := 4) Tryz.underlying167 rfl tiint32.size rfl rfl rfl) rfl ?_
  refine ln_storeM (M' := ([.int .i32 (IntKind.i32.wrap (y.at_ 0).n), .int .i16 (IntKind.i16.wrap (y.at_ 1).n), c4, .int .i32 (IntKind.i32.wrap (y.at_ 3).n), .int .i32 (IntKind.i32.wrap (y.at_ 4).n), .int .i64 0, .slice none 0 0, .slice none 0 0, .map none] : List Value)) rfl rfl rfl tiint32.size (Nat.le_of_ble_eq_true rfl) rfl ?_
  refine ln_nil ?_
  refine at_sub (.skip rfl (.skip rfl (.skip rfl (.skip rfl .rfl')))) ?_
  refine at_cd ?_
  refine cd_sq ?_
  refine cd_region ?_
  refine ln_at (i0 := 1) (j := 5) rfl rfl hx rfl (fun u7 sS7 sL7 sU7 ht7 hd7 => ?_)
  have hx := hx.mv ht7
  have hFc4 := hFc4.mv ht7
  refine ln_pv (pv_field1 (v := .int .i64 (y.at_ 5).n) Tryz.underlying39 rfl Tryz.underlying2 rfl lk_eq rfl) rfl ?_
  have hI7 := hd7.i64
  refine ln_pv (pv_fieldAddr (off := 5) (r := 5) Tryz.underlying167 rfl tiint64.size rfl rfl rfl) rfl ?_
  refine ln_storeM (M' := ([.int .i32 (IntKind.i32.wrap (y.at_ 0).n), .int .i16 (IntKind.i16.wrap (y.at_ 1).n), c4, .int .i32 (IntKind.i32.wrap (y.at_ 3).n), .int .i32 (IntKind.i32.wrap (y.at_ 4).n), .int .i64 (y.at_ 5).n, .slice none 0 0, .slice none 0 0, .map none] : List Value)) rfl rfl rfl tiint64.size (Nat.le_of_ble_eq_true rfl) rfl ?_
  refine ln_nil ?_
  refine at_sub (.skip rfl (.skip rfl (.skip rfl .rfl'))) ?_
  refine at_cd ?_
  refine cd_sq ?_
  refine fl_nl (o := 10) (sb := F_sDescribeQuorumResponseTopicPartitionReplicaState) (j := 6) (off := 6) rfl hx rfl rfl (fun u8 c8 ht8 hF8 => ?_) (fun hz u8a hu8 kk => ?_)
  rotate_left
  · skip
    have hx := hx.mv hu8
    have hFc4 := hFc4.mv hu8
    have hle8 : (y.at_ 6).l.length ≤ 32767 := (hg.at_ 6).open.2.2.1
    refine cd_sq ?_
    refine fl_makeL (ez := 21) (j := 6) (off := 6) rfl rfl hx hle8 Tryz.underlying167 rfl rfl tiSl_kmsg_DescribeQuorumResponseTopicPartitionReplicaState.size rfl Tryz.underlying165 tipub_kmsg_DescribeQuorumResponseTopicPartitionReplicaState (by decide) rfl (Nat.le_of_ble_eq_true rfl) (fun u8b g8 cap8 hb8 => ?_)
    have hx := hx.mv hb8
    have hFc4 := hFc4.mv hb8
    refine at_cd ?_
    refine fl_list (o := 10) (sb := F_sDescribeQuorumResponseTopicPartitionReplicaState) (j := 6) (off := 6) (ez := 21) (by kernel_rfl) rfl hx hle8 hz rfl (fun q hq => hq.elim) rfl (fun i hi u b5 g cap xs ci sl N' X' hu hxl hci kb => ?_) (fun u c hu hF => kk u c (hb8.trans hu) hF)
    have hmk : ∀ u2, Tr u u2 → CA Tryz.prog 131 [.agg ci.toArray] u2 fun u3 v => ∃ c, v = .agg c.toArray ∧ RMp u3 F_sDescribeQuorumResponseTopicPartitionReplicaState (y.at_ 6).l[i] c := fun u2 h2 => make_makeDescribeQuorumResponseTopicPartitionReplicaState u2 _ _ (hci.mv h2) (smTs.mem (hsm.at_ 6).open.2.2.2 _ (List.getElem_mem hi)) (gTs.mem (hg.at_ 6).open.2.2.2 _ (List.getElem_mem hi))
    exact fl_appLS (sb := F_sDescribeQuorumResponseTopicPartitionReplicaState) (off := 6) rfl rfl Tryz.underlying167 rfl rfl tiSl_kmsg_DescribeQuorumResponseTopicPartitionReplicaState.size rfl Tryz.underlying165 tipub_kmsg_DescribeQuorumResponseTopicPartitionReplicaState rfl (by decide) (by decide) (by decide) (by kernel_rfl) en_131 hci.len hmk rfl (Nat.le_of_ble_eq_true rfl) (by omega) hxl (by kernel_rfl) (by kernel_rfl) kb
  have hx := hx.mv ht8
  have hFc4 := hFc4.mv ht8
  refine at_msg (M' := ([.int .i32 (IntKind.i32.wrap (y.at_ 0).n), .int .i16 (IntKind.i16.wrap (y.at_ 1).n), c4, .int .i32 (IntKind.i32.wrap (y.at_ 3).n), .int .i32 (IntKind.i32.wrap (y.at_ 4).n), .int .i64 (y.at_ 5).n, c8, .slice none 0 0, .map none] : List Value)) rfl ?_
  refine at_cd ?_
  refine cd_sq ?_
  refine fl_nl (o := 10) (sb := F_sDescribeQuorumResponseTopicPartitionReplicaState) (j := 7) (off := 7) rfl hx rfl rfl (fun u9 c9 ht9 hF9 => ?_) (fun hz u9a hu9 kk => ?_)
  rotate_left
  · skip
    have hx := hx.mv hu9
    have hFc4 := hFc4.mv hu9
    have hF8 := hF8.mv hu9
    have hle9 : (y.at_ 7).l.length ≤ 32767 := (hg.at_ 7).open.2.2.1
    refine cd_sq ?_
    refine fl_makeL (ez := 21) (j := 7) (off := 7) rfl rfl hx hle9 Tryz.underlying167 rfl rfl tiSl_kmsg_DescribeQuorumResponseTopicPartitionReplicaState.size rfl Tryz.underlying165 tipub_kmsg_DescribeQuorumResponseTopicPartitionReplicaState (by decide) rfl (Nat.le_of_ble_eq_true rfl) (fun u9b g9 cap9 hb9 => ?_)
    have hx := hx.mv hb9
    have hFc4 := hFc4.mv hb9
    have hF8 := hF8.mv hb9
    refine at_cd ?_
    refine fl_list (o := 10) (sb := F_sDescribeQuorumResponseTopicPartitionReplicaState) (j := 7) (off := 7) (ez := 21) (by kernel_rfl) rfl hx hle9 hz rfl (fun q hq => hq.elim) rfl (fun i hi u b5 g cap xs ci sl N' X' hu hxl hci kb => ?_) (fun u c hu hF => kk u c (hb9.trans hu) hF)
    have hmk : ∀ u2, Tr u u2 → CA Tryz.prog 131 [.agg ci.toArray] u2 fun u3 v => ∃ c, v = .agg c.toArray ∧ RMp u3 F_sDescribeQuorumResponseTopicPartitionReplicaState (y.at_ 7).l[i] c := fun u2 h2 => make_makeDescribeQuorumResponseTopicPartitionReplicaState u2 _ _ (hci.mv h2) (smTs.mem (hsm.at_ 7).open.2.2.2 _ (List.getElem_mem hi)) (gTs.mem (hg.at_ 7).open.2.2.2 _ (List.getElem_mem hi))
    exact fl_appLS (sb := F_sDescribeQuorumResponseTopicPartitionReplicaState) (off := 7) rfl rfl Tryz.underlying167 rfl rfl tiSl_kmsg_DescribeQuorumResponseTopicPartitionReplicaState.size rfl Tryz.underlying165 tipub_kmsg_DescribeQuorumResponseTopicPartitionReplicaState rfl (by decide) (by decide) (by decide) (by kernel_rfl) en_131 hci.len hmk rfl (Nat.le_of_ble_eq_true rfl) (by omega) hxl (by kernel_rfl) (by kernel_rfl) kb
  have hx := hx.mv ht9
  have hFc4 := hFc4.mv ht9
  have hF8 := hF8.mv ht9
  refine at_msg (M' := ([.int .i32 (IntKind.i32.wrap (y.at_ 0).n), .int .i16 (IntKind.i16.wrap (y.at_ 1).n), c4, .int .i32 (IntKind.i32.wrap (y.at_ 3).n), .int .i32 (IntKind.i32.wrap (y.at_ 4).n), .int .i64 (y.at_ 5).n, c8, c9, .map none] : List Value)) rfl ?_
  refine at_cd ?_
  refine cd_sq ?_
  refine fl_tags (off := 8) rfl hx hg.open.1 (by have := hg.open.2.1; omega) rfl (fun q hq => hq.elim) rfl (fun i hi u b5 mo l tv E N' X' hu hv h0 hnew hL htx hfr kb => ?_) (fun u mv ht hT => ?_)
  · exact fl_setL (off := 8) (hL _ _ rfl) htx Tryz.underlying167 rfl tipub_kmsg_Tags.size rfl (frs_via hfr (v := .bool true) rfl) (Nat.le_of_ble_eq_true rfl) h0 hnew kb
  have hx := hx.mv ht
  have hFc4 := hFc4.mv ht
  have hF8 := hF8.mv ht
  have hF9 := hF9.mv ht
  refine at_msg (M' := ([.int .i32 (IntKind.i32.wrap (y.at_ 0).n), .int .i16 (IntKind.i16.wrap (y.at_ 1).n), c4, .int .i32 (IntKind.i32.wrap (y.at_ 3).n), .int .i32 (IntKind.i32.wrap (y.at_ 4).n), .int .i64 (y.at_ 5).n, c8, c9, mv] : List Value)) rfl ?_
  refine at_cd ?_
  have hR : RMp _ F_sDescribeQuorumResponseTopicPartition y ([.int .i32 (IntKind.i32.wrap (y.at_ 0).n), .int .i16 (IntKind.i16.wrap (y.at_ 1).n), c4, .int .i32 (IntKind.i32.wrap (y.at_ 3).n), .int .i32 (IntKind.i32.wrap (y.at_ 4).n), .int .i64 (y.at_ 5).n, c8, c9, mv] : List Value) := ⟨([.int .i32 (IntKind.i32.wrap (y.at_ 0).n), .int .i16 (IntKind.i16.wrap (y.at_ 1).n), c4, .int .i32 (IntKind.i32.wrap (y.at_ 3).n), .int .i32 (IntKind.i32.wrap (y.at_ 4).n), .int .i64 (y.at_ 5).n, c8, c9] : List Value), mv, rfl, (RMl_cons (c := [.int .i32 (IntKind.i32.wrap (y.at_ 0).n)]) (RMf_i32.2 rfl) (RMl_cons (c := [.int .i16 (IntKind.i16.wrap (y.at_ 1).n)]) (RMf_i16.2 rfl) (RMl_cons (c := [c4]) ((RMf_txt (by decide)).2 ⟨_, rfl, hFc4⟩) (RMl_cons (c := [.int .i32 (IntKind.i32.wrap (y.at_ 3).n)]) (RMf_i32.2 rfl) (RMl_cons (c := [.int .i32 (IntKind.i32.wrap (y.at_ 4).n)]) (RMf_i32.2 rfl) (RMl_cons (c := [.int .i64 (y.at_ 5).n]) (RMf_i64.2 ⟨rfl, hI7⟩) (RMl_cons (c := [c8]) (RMf_list.2 ⟨_, rfl, hF8⟩) (RMl_cons (c := [c9]) (RMf_list.2 ⟨_, rfl, hF9⟩) RMl_nil)))))))), hT⟩
  have hsz : fszs F_sDescribeQuorumResponseTopicPartition + 1 = 9 := by kernel_rfl
  obtain ⟨hl9, h19⟩ := hR.len
  rw [hsz] at hl9
  refine cd_sr ?_
  refine ln_pv (pv_ldO (i := 0) rfl Tryz.underlying167 rfl tipub_kmsg_DescribeQuorumResponseTopicPartition.size rfl hl9) rfl ?_
  refine ln_storeW (i := 2) (vs := ([.int .i32 (IntKind.i32.wrap (y.at_ 0).n), .int .i16 (IntKind.i16.wrap (y.at_ 1).n), c4, .int .i32 (IntKind.i32.wrap (y.at_ 3).n), .int .i32 (IntKind.i32.wrap (y.at_ 4).n), .int .i64 (y.at_ 5).n, c8, c9, mv] : List Value)) rfl rfl rfl rfl tipub_kmsg_DescribeQuorumResponseTopicPartition.size hl9 h19 ?_
  refine ln_cd ?_
  refine cd_ret ?_
  exact at_retC (i := 2) rfl rfl rfl Tryz.underlying167 rfl tipub_kmsg_DescribeQuorumResponseTopicPartition.size hl9 (fun w hS => ⟨_, rfl, hR.mv hS.trFin⟩)
theorem make_makeDescribeQuorumResponseTopic (t : Vw) (y : Tre) (cs : List Value) (hx : RT t y cs) (hsm : smT y) (hg : gT y) : CA Tryz.prog 100 [.agg cs.toArray] t fun u v => ∃ c, v = .agg c.toArray ∧ RMp u F_sDescribeQuorumResponseTopic y c := by
  refine ca_enter Tryz.func100 rfl Tryz.ntmps100 rfl ?_
  refine cd_sr ?_
  refine ln_box (l := cs) rfl rfl rfl (fun b1 => ?_)
  refine ln_alloc (l := ([.string .empty, .slice none 0 0, .map none] : List Value)) tipub_kmsg_DescribeQuorumResponseTopic rfl rfl (fun b2 => ?_)
  refine ln_cd ?_
  refine cd_sr ?_
  refine ln_alloc (l := ([.string .empty, .slice none 0 0, .map none] : List Value)) tipub_kmsg_DescribeQuorumResponseTopic rfl rfl (fun b3 => ?_)
  refine ln_cd ?_
  refine cd_perm (H' := [MsgBox b3 157 ([.string .empty, .slice none 0 0, .map none] : List Value), TreeBox b1 cs, MsgBox b2 157 ([.string .empty, .slice none 0 0, .map none] : List Value)]) (List.Perm.cons _ (List.Perm.swap _ _ _)) ?_
  refine cd_sq ?_
  refine cd_region ?_
  refine ln_at (i0 := 1) (j := 0) rfl rfl hx rfl (fun u1 sS1 sL1 sU1 ht1 hd1 => ?_)
  have hx := hx.mv ht1
  have hS1 := hd1.str
  refine ln_pv (pv_field1 (v := sS1) Tryz.underlying39 rfl Tryz.underlying22 rfl lk_eq rfl) rfl ?_
  refine ln_pv (pv_b2s hS1 Tryz.underlying22 Tryz.underlying5 Tryz.underlying9 lk_eq) rfl ?_
  refine ln_pv (pv_fieldAddr (off := 0) (r := 0) Tryz.underlying157 rfl tistring.size rfl rfl rfl) rfl ?_
  refine ln_storeM (M' := ([.string ⟨(y.at_ 0).s.toArray⟩, .slice none 0 0, .map none] : List Value)) rfl rfl rfl tistring.size (Nat.le_of_ble_eq_true rfl) rfl ?_
  refine ln_nil ?_
  refine at_sub (.skip rfl (.skip rfl (.skip rfl (.skip rfl .rfl')))) ?_
  refine at_cd ?_
  refine cd_sq ?_
  refine fl_nl (o := 10) (sb := F_sDescribeQuorumResponseTopicPartition) (j := 1) (off := 1) rfl hx rfl rfl (fun u2 c2 ht2 hF2 => ?_) (fun hz u2a hu2 kk => ?_)
  rotate_left
  · skip
    have hx := hx.mv hu2
    have hle2 : (y.at_ 1).l.length ≤ 32767 := (hg.at_ 1).open.2.2.1
    refine cd_sq ?_
    refine fl_makeL (ez := 9) (j := 1) (off := 1) rfl rfl hx hle2 Tryz.underlying157 rfl rfl tiSl_kmsg_DescribeQuorumResponseTopicPartition.size rfl Tryz.underlying155 tipub_kmsg_DescribeQuorumResponseTopicPartition (by decide) rfl (Nat.le_of_ble_eq_true rfl) (fun u2b g2 cap2 hb2 => ?_)
    have hx := hx.mv hb2
    refine at_cd ?_
    refine fl_list (o := 10) (sb := F_sDescribeQuorumResponseTopicPartition) (j := 1) (off := 1) (ez := 9) (by kernel_rfl) rfl hx hle2 hz rfl (fun q hq => hq.elim) rfl (fun i hi u b5 g cap xs ci sl N' X' hu hxl hci kb => ?_) (fun u c hu hF => kk u c (hb2.trans hu) hF)
    have hmk : ∀ u2, Tr u u2 → CA Tryz.prog 122 [.agg ci.toArray] u2 fun u3 v => ∃ c, v = .agg c.toArray ∧ RMp u3 F_sDescribeQuorumResponseTopicPartition (y.at_ 1).l[i] c := fun u2 h2 => make_makeDescribeQuorumResponseTopicPartition u2 _ _ (hci.mv h2) (smTs.mem (hsm.at_ 1).open.2.2.2 _ (List.getElem_mem hi)) (gTs.mem (hg.at_ 1).open.2.2.2 _ (List.getElem_mem hi))
    exact fl_appLS (sb := F_sDescribeQuorumResponseTopicPartition) (off := 1) rfl rfl Tryz.underlying157 rfl rfl tiSl_kmsg_DescribeQuorumResponseTopicPartition.size rfl Tryz.underlying155 tipub_kmsg_DescribeQuorumResponseTopicPartition rfl (by decide) (by decide) (by decide) (by kernel_rfl) en_122 hci.len hmk rfl (Nat.le_of_ble_eq_true rfl) (by omega) hxl (by kernel_rfl) (by kernel_rfl) kb
  have hx := hx.mv ht2
  refine at_msg (M' := ([.string ⟨(y.at_ 0).s.toArray⟩, c2, .map none] : List Value)) rfl ?_
  refine at_cd ?_
  refine cd_sq ?_
  refine fl_tags (off := 2) rfl hx hg.open.1 (by have := hg.open.2.1; omega) rfl (fun q hq => hq.elim) rfl (fun i hi u b5 mo l tv E N' X' hu hv h0 hnew hL htx hfr kb => ?_) (fun u mv ht hT => ?_)
  · exact fl_setL (off := 2) (hL _ _ rfl) htx Tryz.underlying157 rfl tipub_kmsg_Tags.size rfl (frs_via hfr (v := .bool true) rfl) (Nat.le_of_ble_eq_true rfl) h0 hnew kb
  have hx := hx.mv ht
  have hF2 := hF2.mv ht
  refine at_msg (M' := ([.string ⟨(y.at_ 0).s.toArray⟩, c2, mv] : List Value)) rfl ?_
  refine at_cd ?_
  have hR : RMp _ F_sDescribeQuorumResponseTopic y ([.string ⟨(y.at_ 0).s.toArray⟩, c2, mv] : List Value) := ⟨([.string ⟨(y.at_ 0).s.toArray⟩, c2] : List Value), mv, rfl, (RMl_cons (c := [.string ⟨(y.at_ 0).s.toArray⟩]) ((RMf_str (by decide)).2 rfl) (RMl_cons (c := [c2]) (RMf_list.2 ⟨_, rfl, hF2⟩) RMl_nil)), hT⟩
  have hsz : fszs F_sDescribeQuorumResponseTopic + 1 = 3 := by kernel_rfl
  obtain ⟨hl9, h19⟩ := hR.len
  rw [hsz] at hl9
  refine cd_sr ?_
  refine ln_pv (pv_ldO (i := 0) rfl Tryz.underlying157 rfl tipub_kmsg_DescribeQuorumResponseTopic.size rfl hl9) rfl ?_
  refine ln_storeW (i := 2) (vs := ([.string ⟨(y.at_ 0).s.toArray⟩, c2, mv] : List Value)) rfl rfl rfl rfl tipub_kmsg_DescribeQuorumResponseTopic.size hl9 h19 ?_
  refine ln_cd ?_
  refine cd_ret ?_
  exact at_retC (i := 2) rfl rfl rfl Tryz.underlying157 rfl tipub_kmsg_DescribeQuorumResponseTopic.size hl9 (fun w hS => ⟨_, rfl, hR.mv hS.trFin⟩)
theorem make_makeDescribeQuorumResponseNodeListener (t : Vw) (y : Tre) (cs : List Value) (hx : RT t y cs) (hsm : smT y) (hg : gT y) : CA Tryz.prog 123 [.agg cs.toArray] t fun u v => ∃ c, v = .agg c.toArray ∧ RMp u F_sDescribeQuorumResponseNodeListener y c := by
  refine ca_enter Tryz.func123 rfl Tryz.ntmps123 rfl ?_
  refine cd_sr ?_
  refine ln_box (l := cs) rfl rfl rfl (fun b1 => ?_)
  refine ln_alloc (l := ([.string .empty, .string .empty, .int .u16 0, .map none] : List Value)) tipub_kmsg_DescribeQuorumResponseNodeListener rfl rfl (fun b2 => ?_)
  refine ln_cd ?_
  refine cd_sr ?_
  refine ln_alloc (l := ([.string .empty, .string .empty, .int .u16 0, .map none] : List Value)) tipub_kmsg_DescribeQuorumResponseNodeListener rfl rfl (fun b3 => ?_)
  refine ln_cd ?_
  refine cd_perm (H' := [MsgBox b3 175 ([.string .empty, .string .empty, .int .u16 0, .map none] : List Value), TreeBox b1 cs, MsgBox b2 175 ([.string .empty, .string .empty, .int .u16 0, .map none] : List Value)]) (List.Perm.cons _ (List.Perm.swap _ _ _)) ?_
  refine cd_sq ?_
  refine cd_region ?_
  refine ln_at (i0 := 1) (j := 0) rfl rfl hx rfl (fun u1 sS1 sL1 sU1 ht1 hd1 => ?_)
  have hx := hx.mv ht1
  have hS1 := hd1.str
  refine ln_pv (pv_field1 (v := sS1) Tryz.underlying39 rfl Tryz.underlying22 rfl lk_eq rfl) rfl ?_
  refine ln_pv (pv_b2s hS1 Tryz.underlying22 Tryz.underlying5 Tryz.underlying9 lk_eq) rfl ?_
  refine ln_pv (pv_fieldAddr (off := 0) (r := 0) Tryz.underlying175 rfl tistring.size rfl rfl rfl) rfl ?_
  refine ln_storeM (M' := ([.string ⟨(y.at_ 0).s.toArray⟩, .string .empty, .int .u16 0, .map none] : List Value)) rfl rfl rfl tistring.size (Nat.le_of_ble_eq_true rfl) rfl ?_
  refine ln_nil ?_
  refine at_sub (.skip rfl (.skip rfl (.skip rfl (.skip rfl .rfl')))) ?_
  refine at_cd ?_
  refine cd_sq ?_
  refine cd_region ?_
  refine ln_at (i0 := 1) (j := 1) rfl rfl hx rfl (fun u2 sS2 sL2 sU2 ht2 hd2 => ?_)
  have hx := hx.mv ht2
  have hS2 := hd2.str
  refine ln_pv (pv_field1 (v := sS2) Tryz.underlying39 rfl Tryz.underlying22 rfl lk_eq rfl) rfl ?_
  refine ln_pv (pv_b2s hS2 Tryz.underlying22 Tryz.underlying5 Tryz.underlying9 lk_eq) rfl ?_
  refine ln_pv (pv_fieldAddr (off := 1) (r := 1) Tryz.underlying175 rfl tistring.size rfl rfl rfl) rfl ?_
  refine ln_storeM (M' := ([.string ⟨(y.at_ 0).s.toArray⟩, .string ⟨(y.at_ 1).s.toArray⟩, .int .u16 0, .map none] : List Value)) rfl rfl rfl tistring.size (Nat.le_of_ble_eq_true rfl) rfl ?_
  refine ln_nil ?_
  refine at_sub (.skip rfl (.skip rfl (.skip rfl (.skip rfl .rfl')))) ?_
  refine at_cd ?_
  refine cd_sq ?_
  refine cd_region ?_
  refine ln_at (i0 := 1) (j := 2) rfl rfl hx rfl (fun u3 sS3 sL3 sU3 ht3 hd3 => ?_)
  have hx := hx.mv ht3
  refine ln_pv (pv_field1 (v := .int .i64 (y.at_ 2).n) Tryz.underlying39 rfl Tryz.underlying2 rfl lk_eq rfl) rfl ?_
  refine ln_pv (pv_conv' (k := .i64) (i := (y.at_ 2).n) Tryz.underlying2 Tryz.underlying173 lk_eq rfl) rfl ?_
  refine ln_pv (pv_fieldAddr (off := 2) (r := 2) Tryz.underlying175 rfl tiuint16.size rfl rfl rfl) rfl ?_
  refine ln_storeM (M' := ([.string ⟨(y.at_ 0).s.toArray⟩, .string ⟨(y.at_ 1).s.toArray⟩, .int .u16 (IntKind.u16.wrap (y.at_ 2).n), .map none] : List Value)) rfl rfl rfl tiuint16.size (Nat.le_of_ble_eq_true rfl) rfl ?_
  refine ln_nil ?_
  refine at_sub (.skip rfl (.skip rfl (.skip rfl (.skip rfl .rfl')))) ?_
  refine at_cd ?_
  refine cd_sq ?_
  refine fl_tags (off := 3) rfl hx hg.open.1 (by have := hg.open.2.1; omega) rfl (fun q hq => hq.elim) rfl (fun i hi u b5 mo l tv E N' X' hu hv h0 hnew hL htx hfr kb => ?_) (fun u mv ht hT => ?_)
  · exact fl_setL (off := 3) (hL _ _ rfl) htx Tryz.underlying175 rfl tipub_kmsg_Tags.size rfl (frs_via hfr (v := .bool true) rfl) (Nat.le_of_ble_eq_true rfl) h0 hnew kb
  have hx := hx.mv ht
  refine at_msg (M' := ([.string ⟨(y.at_ 0).s.toArray⟩, .string ⟨(y.at_ 1).s.toArray⟩, .int .u16 (IntKind.u16.wrap (y.at_ 2).n), mv] : List Value)) rfl ?_
  refine at_cd ?_
  have hR : RMp _ F_sDescribeQuorumResponseNodeListener y ([.string ⟨(y.at_ 0).s.toArray⟩, .string ⟨(y.at_ 1).s.toArray⟩, .int .u16 (IntKind.u16.wrap (y.at_ 2).n), mv] : List Value) := ⟨([.string ⟨(y.at_ 0).s.toArray⟩, .string ⟨(y.at_ 1).s.toArray⟩, .int .u16 (IntKind.u16.wrap (y.at_ 2).n)] : List Value), mv, rfl, (RMl_cons (c := [.string ⟨(y.at_ 0).s.toArray⟩]) ((RMf_str (by decide)).2 rfl) (RMl_cons (c := [.string ⟨(y.at_ 1).s.toArray⟩]) ((RMf_str (by decide)).2 rfl) (RMl_cons (c := [.int .u16 (IntKind.u16.wrap (y.at_ 2).n)]) (RMf_u16.2 rfl) RMl_nil))), hT⟩
  have hsz : fszs F_sDescribeQuorumResponseNodeListener + 1 = 4 := by kernel_rfl
  obtain ⟨hl9, h19⟩ := hR.len
  rw [hsz] at hl9
  refine cd_sr ?_
  refine ln_pv (pv_ldO (i := 0) rfl Tryz.underlying175 rfl tipub_kmsg_DescribeQuorumResponseNodeListener.size rfl hl9) rfl ?_
  refine ln_storeW (i := 2) (vs := ([.string ⟨(y.at_ 0).s.toArray⟩, .string ⟨(y.at_ 1).s.toArray⟩, .int .u16 (IntKind.u16.wrap (y.at_ 2).n), mv] : List Value)) rfl rfl rfl rfl tipub_kmsg_DescribeQuorumResponseNodeListener.size hl9 h19 ?_
  refine ln_cd ?_
  refine cd_ret ?_
  exact at_retC (i := 2) rfl rfl rfl Tryz.underlying175 rfl tipub_kmsg_DescribeQuorumResponseNodeListener.size hl9 (fun w hS => ⟨_, rfl, hR.mv hS.trFin⟩)
theorem make_makeDescribeQuorumResponseNode (t : Vw) (y : Tre) (cs : List Value) (hx : RT t y cs) (hsm : smT y) (hg : gT y) : CA Tryz.prog 101 [.agg cs.toArray] t fun u v => ∃ c, v = .agg c.toArray ∧ RMp u F_sDescribeQuorumResponseNode y c := by
  refine ca_enter Tryz.func101 rfl Tryz.ntmps101 rfl ?_
  refine cd_sr ?_
  refine ln_box (l := cs) rfl rfl rfl (fun b1 => ?_)
  refine ln_alloc (l := ([.int .i32 0, .slice none 0 0, .map none] : List Value)) tipub_kmsg_DescribeQuorumResponseNode rfl rfl (fun b2 => ?_)
  refine ln_cd ?_
  refine cd_sr ?_
  refine ln_alloc (l := ([.int .i32 0, .slice none 0 0, .map none] : List Value)) tipub_kmsg_DescribeQuorumResponseNode rfl rfl (fun b3 => ?_)
  refine ln_cd ?_
  refine cd_perm (H' := [MsgBox b3 161 ([.int .i32 0, .slice none 0 0, .map none] : List Value), TreeBox b1 cs, MsgBox b2 161 ([.int .i32 0, .slice none 0 0, .map none] : List Value)]) (List.Perm.cons _ (List.Perm.swap _ _ _)) ?_
  refine cd_sq ?_
  refine cd_region ?_
  refine ln_at (i0 := 1) (j := 0) rfl rfl hx rfl (fun u1 sS1 sL1 sU1 ht1 hd1 => ?_)
  have hx := hx.mv ht1
  refine ln_pv (pv_field1 (v := .int .i64 (y.at_ 0).n) Tryz.underlying39 rfl Tryz.underlying2 rfl lk_eq rfl) rfl ?_
  refine ln_pv (pv_conv' (k := .i64) (i := (y.at_ 0).n) Tryz.underlying2 Tryz.underlying21 lk_eq rfl) rfl ?_
  refine ln_pv (pv_fieldAddr (off := 0) (r := 0) Tryz.underlying161 rfl tiint32.size rfl rfl rfl) rfl ?_
  refine ln_storeM (M' := ([.int .i32 (IntKind.i32.wrap (y.at_ 0).n), .slice none 0 0, .map none] : List Value)) rfl rfl rfl tiint32.size (Nat.le_of_ble_eq_true rfl) rfl ?_
  refine ln_nil ?_
  refine at_sub (.skip rfl (.skip rfl (.skip rfl (.skip rfl .rfl')))) ?_
  refine at_cd ?_
  refine cd_sq ?_
  refine fl_nl (o := 10) (sb := F_sDescribeQuorumResponseNodeListener) (j := 1) (off := 1) rfl hx rfl rfl (fun u2 c2 ht2 hF2 => ?_) (fun hz u2a hu2 kk => ?_)
  rotate_left
  · skip
    have hx := hx.mv hu2
    have hle2 : (y.at_ 1).l.length ≤ 32767 := (hg.at_ 1).open.2.2.1
    refine cd_sq ?_
    refine fl_makeL (ez := 4) (j := 1) (off := 1) rfl rfl hx hle2 Tryz.underlying161 rfl rfl tiSl_kmsg_DescribeQuorumResponseNodeListener.size rfl Tryz.underlying159 tipub_kmsg_DescribeQuorumResponseNodeListener (by decide) rfl (Nat.le_of_ble_eq_true rfl) (fun u2b g2 cap2 hb2 => ?_)
    have hx := hx.mv hb2
    refine at_cd ?_
    refine fl_list (o := 10) (sb := F_sDescribeQuorumResponseNodeListener) (j := 1) (off := 1) (ez := 4) (by kernel_rfl) rfl hx hle2 hz rfl (fun q hq => hq.elim) rfl (fun i hi u b5 g cap xs ci sl N' X' hu hxl hci kb => ?_) (fun u c hu hF => kk u c (hb2.trans hu) hF)
    have hmk : ∀ u2, Tr u u2 → CA Tryz.prog 123 [.agg ci.toArray] u2 fun u3 v => ∃ c, v = .agg c.toArray ∧ RMp u3 F_sDescribeQuorumResponseNodeListener (y.at_ 1).l[i] c := fun u2 h2 => make_makeDescribeQuorumResponseNodeListener u2 _ _ (hci.mv h2) (smTs.mem (hsm.at_ 1).open.2.2.2 _ (List.getElem_mem hi)) (gTs.mem (hg.at_ 1).open.2.2.2 _ (List.getElem_mem hi))
    exact fl_appLS (sb := F_sDescribeQuorumResponseNodeListener) (off := 1) rfl rfl Tryz.underlying161 rfl rfl tiSl_kmsg_DescribeQuorumResponseNodeListener.size rfl Tryz.underlying159 tipub_kmsg_DescribeQuorumResponseNodeListener rfl (by decide) (by decide) (by decide) (by kernel_rfl) en_123 hci.len hmk rfl (Nat.le_of_ble_eq_true rfl) (by omega) hxl (by kernel_rfl) (by kernel_rfl) kb
  have hx := hx.mv ht2
  refine at_msg (M' := ([.int .i32 (IntKind.i32.wrap (y.at_ 0).n), c2, .map none] : List Value)) rfl ?_
  refine at_cd ?_
  refine cd_sq ?_
  refine fl_tags (off := 2) rfl hx hg.open.1 (by have := hg.open.2.1; omega) rfl (fun q hq => hq.elim) rfl (fun i hi u b5 mo l tv E N' X' hu hv h0 hnew hL htx hfr kb => ?_) (fun u mv ht hT => ?_)
  · exact fl_setL (off := 2) (hL _ _ rfl) htx Tryz.underlying161 rfl tipub_kmsg_Tags.size rfl (frs_via hfr (v := .bool true) rfl) (Nat.le_of_ble_eq_true rfl) h0 hnew kb
  have hx := hx.mv ht
  have hF2 := hF2.mv ht
  refine at_msg (M' := ([.int .i32 (IntKind.i32.wrap (y.at_ 0).n), c2, mv] : List Value)) rfl ?_
  refine at_cd ?_
  have hR : RMp _ F_sDescribeQuorumResponseNode y ([.int .i32 (IntKind.i32.wrap (y.at_ 0).n), c2, mv] : List Value) := ⟨([.int .i32 (IntKind.i32.wrap (y.at_ 0).n), c2] : List Value), mv, rfl, (RMl_cons (c := [.int .i32 (IntKind.i32.wrap (y.at_ 0).n)]) (RMf_i32.2 rfl) (RMl_cons (c := [c2]) (RMf_list.2 ⟨_, rfl, hF2⟩) RMl_nil)), hT⟩
  have hsz : fszs F_sDescribeQuorumResponseNode + 1 = 3 := by kernel_rfl
  obtain ⟨hl9, h19⟩ := hR.len
  rw [hsz] at hl9
  refine cd_sr ?_
  refine ln_pv (pv_ldO (i := 0) rfl Tryz.underlying161 rfl tipub_kmsg_DescribeQuorumResponseNode.size rfl hl9) rfl ?_
  refine ln_storeW (i := 2) (vs := ([.int .i32 (IntKind.i32.wrap (y.at_ 0).n), c2, mv] : List Value)) rfl rfl rfl rfl tipub_kmsg_DescribeQuorumResponseNode.size hl9 h19 ?_
  refine ln_cd ?_
  refine cd_ret ?_
  exact at_retC (i := 2) rfl rfl rfl Tryz.underlying161 rfl tipub_kmsg_DescribeQuorumResponseNode.size hl9 (fun w hS => ⟨_, rfl, hR.mv hS.trFin⟩)
theorem fill_DescribeQuorumResponse (t : Vw) (b : Nat) (v : Int) (y : Tre) (cs : List Value) (hx : RT t y cs) (hsm : smT y) (hg : gT y) (hok : (MsgBox b 88 ([.int .i16 v, .int .i16 0, .pointer none, .slice none 0 0, .slice none 0 0, .map none] : List Value)).ok t.w) (hav : ∀ q ∈ (MsgBox b 88 ([.int .i16 v, .int .i16 0, .pointer none, .slice none 0 0, .slice none 0 0, .map none] : List Value)).blk, t.av q) : CT Tryz.prog 55 [.pointer (some ⟨b, 0, none⟩), .agg cs.toArray] t (MsgBox b 88 ([.int .i16 v, .int .i16 0, .pointer none, .slice none 0 0, .slice none 0 0, .map none] : List Value)) fun u r e' => ∃ cells, e' = MsgBox b 88 (.int .i16 v :: cells) ∧ RMp u F_DescribeQuorumResponse y cells := by
  refine ct_enter Tryz.func55 rfl Tryz.ntmps55 rfl hok hav (by simp [Ent.blk]) ?_
  refine cd_sr ?_
  refine ln_box (l := cs) rfl rfl rfl (fun b1 => ?_)
  refine ln_cd ?_
  refine cd_perm (H' := [MsgBox b 88 ([.int .i16 v, .int .i16 0, .pointer none, .slice none 0 0, .slice none 0 0, .map none] : List Value), TreeBox b1 cs]) (List.Perm.swap _ _ _) ?_
  refine cd_sq ?_
  refine cd_region ?_
  refine ln_pv (pv_move rfl) rfl ?_
  refine ln_at (i0 := 1) (j := 0) rfl rfl hx rfl (fun u1 sS1 sL1 sU1 ht1 hd1 => ?_)
  have hx := hx.mv ht1
  refine ln_pv (pv_field1 (v := .int .i64 (y.at_ 0).n) Tryz.underlying39 rfl Tryz.underlying2 rfl lk_eq rfl) rfl ?_
  refine ln_pv (pv_conv' (k := .i64) (i := (y.at_ 0).n) Tryz.underlying2 Tryz.underlying45 lk_eq rfl) rfl ?_
  refine ln_pv (pv_nilCheck rfl) rfl ?_
  refine ln_pv (pv_fieldAddr (off := 1) (r := 1) Tryz.underlying88 rfl tiint16.size rfl rfl rfl) rfl ?_
  refine ln_storeM (M' := ([.int .i16 v, .int .i16 (IntKind.i16.wrap (y.at_ 0).n), .pointer none, .slice none 0 0, .slice none 0 0, .map none] : List Value)) rfl rfl rfl tiint16.size (Nat.le_of_ble_eq_true rfl) rfl ?_
  refine ln_nil ?_
  refine at_sub (.skip rfl (.skip rfl (.skip rfl (.skip rfl (.skip rfl (.skip rfl .rfl')))))) ?_
  refine at_cd ?_
  refine cd_sq ?_
  refine cd_region ?_
  refine ln_pv (pv_move rfl) rfl ?_
  refine ln_at (i0 := 1) (j := 1) rfl rfl hx rfl (fun u2 sS2 sL2 sU2 ht2 hd2 => ?_)
  have hx := hx.mv ht2
  refine ln_callA (vals := [.agg _]) en_60 rfl (fun u hu => impl_textOf u (y.at_ 1) _ (hd2.mv hu)) rfl (fun uc3 c3 htc3 hFc3 => ?_)
  have hx := hx.mv htc3
  refine ln_pv (pv_nilCheck rfl) rfl ?_
  refine ln_pv (pv_fieldAddr (off := 2) (r := 2) Tryz.underlying88 rfl tiPt_string.size rfl rfl rfl) rfl ?_
  refine ln_storeM (M' := ([.int .i16 v, .int .i16 (IntKind.i16.wrap (y.at_ 0).n), c3, .slice none 0 0, .slice none 0 0, .map none] : List Value)) rfl rfl hFc3.one tiPt_string.size (Nat.le_of_ble_eq_true rfl) rfl ?_
  refine ln_nil ?_
  refine at_sub (.skip rfl (.skip rfl (.skip rfl (.skip rfl (.skip rfl .rfl'))))) ?_
  refine at_cd ?_
  refine cd_sq ?_
  refine fl_nl (o := 10) (sb := F_sDescribeQuorumResponseTopic) (j := 2) (off := 3) rfl hx rfl rfl (fun u4 c4 ht4 hF4 => ?_) (fun hz u4a hu4 kk => ?_)
  rotate_left
  · skip
    have hx := hx.mv hu4
    have hFc3 := hFc3.mv hu4
    have hle4 : (y.at_ 2).l.length ≤ 32767 := (hg.at_ 2).open.2.2.1
    refine cd_sq ?_
    refine fl_makeP (ez := 3) (j := 2) (off := 3) rfl rfl hx hle4 Tryz.underlying88 rfl rfl tiSl_kmsg_DescribeQuorumResponseTopic.size rfl Tryz.underlying85 tipub_kmsg_DescribeQuorumResponseTopic (by decide) rfl (Nat.le_of_ble_eq_true rfl) (fun u4b g4 cap4 hb4 => ?_)
    have hx := hx.mv hb4
    have hFc3 := hFc3.mv hb4
    refine at_cd ?_
    refine fl_list (o := 10) (sb := F_sDescribeQuorumResponseTopic) (j := 2) (off := 3) (ez := 3) (by kernel_rfl) rfl hx hle4 hz rfl (fun q hq => by simpa [Ent.blk] using hq) rfl (fun i hi u b5 g cap xs ci sl N' X' hu hxl hci kb => ?_) (fun u c hu hF => kk u c (hb4.trans hu) hF)
    have hmk : ∀ u2, Tr u u2 → CA Tryz.prog 100 [.agg ci.toArray] u2 fun u3 v => ∃ c, v = .agg c.toArray ∧ RMp u3 F_sDescribeQuorumResponseTopic (y.at_ 2).l[i] c := fun u2 h2 => make_makeDescribeQuorumResponseTopic u2 _ _ (hci.mv h2) (smTs.mem (hsm.at_ 2).open.2.2.2 _ (List.getElem_mem hi)) (gTs.mem (hg.at_ 2).open.2.2.2 _ (List.getElem_mem hi))
    exact fl_appPS (sb := F_sDescribeQuorumResponseTopic) (off := 3) rfl rfl Tryz.underlying88 rfl rfl tiSl_kmsg_DescribeQuorumResponseTopic.size rfl Tryz.underlying85 tipub_kmsg_DescribeQuorumResponseTopic rfl (by decide) (by decide) (by decide) (by kernel_rfl) en_100 hci.len hmk rfl (Nat.le_of_ble_eq_true rfl) (by omega) hxl (by kernel_rfl) (by kernel_rfl) kb
  have hx := hx.mv ht4
  have hFc3 := hFc3.mv ht4
  refine at_msg (M' := ([.int .i16 v, .int .i16 (IntKind.i16.wrap (y.at_ 0).n), c3, c4, .slice none 0 0, .map none] : List Value)) rfl ?_
  refine at_cd ?_
  refine cd_sq ?_
  refine fl_nl (o := 10) (sb := F_sDescribeQuorumResponseNode) (j := 3) (off := 4) rfl hx rfl rfl (fun u5 c5 ht5 hF5 => ?_) (fun hz u5a hu5 kk => ?_)
  rotate_left
  · skip
    have hx := hx.mv hu5
    have hFc3 := hFc3.mv hu5
    have hF4 := hF4.mv hu5
    have hle5 : (y.at_ 3).l.length ≤ 32767 := (hg.at_ 3).open.2.2.1
    refine cd_sq ?_
    refine fl_makeP (ez := 3) (j := 3) (off := 4) rfl rfl hx hle5 Tryz.underlying88 rfl rfl tiSl_kmsg_DescribeQuorumResponseNode.size rfl Tryz.underlying86 tipub_kmsg_DescribeQuorumResponseNode (by decide) rfl (Nat.le_of_ble_eq_true rfl) (fun u5b g5 cap5 hb5 => ?_)
    have hx := hx.mv hb5
    have hFc3 := hFc3.mv hb5
    have hF4 := hF4.mv hb5
    refine at_cd ?_
    refine fl_list (o := 10) (sb := F_sDescribeQuorumResponseNode) (j := 3) (off := 4) (ez := 3) (by kernel_rfl) rfl hx hle5 hz rfl (fun q hq => by simpa [Ent.blk] using hq) rfl (fun i hi u b5 g cap xs ci sl N' X' hu hxl hci kb => ?_) (fun u c hu hF => kk u c (hb5.trans hu) hF)
    have hmk : ∀ u2, Tr u u2 → CA Tryz.prog 101 [.agg ci.toArray] u2 fun u3 v => ∃ c, v = .agg c.toArray ∧ RMp u3 F_sDescribeQuorumResponseNode (y.at_ 3).l[i] c := fun u2 h2 => make_makeDescribeQuorumResponseNode u2 _ _ (hci.mv h2) (smTs.mem (hsm.at_ 3).open.2.2.2 _ (List.getElem_mem hi)) (gTs.mem (hg.at_ 3).open.2.2.2 _ (List.getElem_mem hi))
    exact fl_appPS (sb := F_sDescribeQuorumResponseNode) (off := 4) rfl rfl Tryz.underlying88 rfl rfl tiSl_kmsg_DescribeQuorumResponseNode.size rfl Tryz.underlying86 tipub_kmsg_DescribeQuorumResponseNode rfl (by decide) (by decide) (by decide) (by kernel_rfl) en_101 hci.len hmk rfl (Nat.le_of_ble_eq_true rfl) (by omega) hxl (by kernel_rfl) (by kernel_rfl) kb
  have hx := hx.mv ht5
  have hFc3 := hFc3.mv ht5
  have hF4 := hF4.mv ht5
  refine at_msg (M' := ([.int .i16 v, .int .i16 (IntKind.i16.wrap (y.at_ 0).n), c3, c4, c5, .map none] : List Value)) rfl ?_
  refine at_cd ?_
  refine fl_tags (off := 5) rfl hx hg.open.1 (by have := hg.open.2.1; omega) rfl (fun q hq => by simpa [Ent.blk] using hq) rfl (fun i hi u b5 mo l tv E N' X' hu hv h0 hnew hL htx hfr kb => ?_) (fun u mv ht hT => ?_)
  · exact fl_setP (off := 5) (hL _ _ rfl) htx Tryz.underlying88 rfl tipub_kmsg_Tags.size rfl (frs_via hfr (v := .bool true) rfl) (Nat.le_of_ble_eq_true rfl) h0 hnew (by kernel_rfl) kb
  have hx := hx.mv ht
  have hFc3 := hFc3.mv ht
  have hF4 := hF4.mv ht
  have hF5 := hF5.mv ht
  refine at_msg (M' := ([.int .i16 v, .int .i16 (IntKind.i16.wrap (y.at_ 0).n), c3, c4, c5, mv] : List Value)) rfl ?_
  have hR : RMp _ F_DescribeQuorumResponse y ([.int .i16 (IntKind.i16.wrap (y.at_ 0).n), c3, c4, c5, mv] : List Value) := ⟨([.int .i16 (IntKind.i16.wrap (y.at_ 0).n), c3, c4, c5] : List Value), mv, rfl, (RMl_cons (c := [.int .i16 (IntKind.i16.wrap (y.at_ 0).n)]) (RMf_i16.2 rfl) (RMl_cons (c := [c3]) ((RMf_txt (by decide)).2 ⟨_, rfl, hFc3⟩) (RMl_cons (c := [c4]) (RMf_list.2 ⟨_, rfl, hF4⟩) (RMl_cons (c := [c5]) (RMf_list.2 ⟨_, rfl, hF5⟩) RMl_nil)))), hT⟩
  exact at_retT0 (i := 0) rfl rfl (fun w hS => ⟨_, rfl, hR.mv (hS.trFinT _ _)⟩)
end K
end Go.Proofs.YtmknncmdbmnmgabGreat
