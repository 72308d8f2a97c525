import Derived.Test.YtmknncmdbmnmgabGreatB5
import Derived.Test.YtmknncmdbmnmgabGreatMas
set_option linter.unusedVariables false
set_option linter.unusedSimpArgs false
namespace Go.Proofs.YtmknncmdbmnmgabGreat
namespace K
open Go Go.Lib
theorem make_makeFetchSnapshotRequestTopicPartitionSnapshotID (t : Vw) (y : Tre) (cs : List Value) (hx : RT t y cs) (hsm : smT y) (hg : gT y) : CA Tryz.prog 124 [.agg cs.toArray] t fun u v => ∃ c, v = .agg c.toArray ∧ RMp u F_sFetchSnapshotRequestTopicPartitionSnapshotID y c := by
  refine ca_enter Tryz.func124 rfl Tryz.ntmps124 rfl ?_
  refine cd_sr ?_
  refine ln_box (l := cs) rfl rfl rfl (fun b1 => ?_)
  refine ln_alloc (l := ([.int .i64 0, .int .i32 0, .map none] : List Value)) tipub_kmsg_FetchSnapshotRequestTopicPartitionSnapshotID rfl rfl (fun b2 => ?_)
  refine ln_cd ?_
  refine cd_sr ?_
  refine ln_alloc (l := ([.int .i64 0, .int .i32 0, .map none] : List Value)) tipub_kmsg_FetchSnapshotRequestTopicPartitionSnapshotID rfl rfl (fun b3 => ?_)
  refine ln_cd ?_
  refine cd_perm (H' := [MsgBox b3 104 ([.int .i64 0, .int .i32 0, .map none] : List Value), TreeBox b1 cs, MsgBox b2 104 ([.int .i64 0, .int .i32 0, .map none] : List Value)]) (List.Perm.cons _ (List.Perm.swap _ _ _)) ?_
  refine cd_sq ?_
  refine cd_region ?_
  refine ln_at (i0 := 1) (j := 0) rfl rfl hx rfl (fun u1 sS1 sL1 sU1 ht1 hd1 => ?_)
  have hx := hx.mv ht1
  refine ln_pv (pv_field1 (v := .int .i64 (y.at_ 0).n) Tryz.underlying39 rfl Tryz.underlying2 rfl lk_eq rfl) rfl ?_
  have hI1 := hd1.i64
  refine ln_pv (pv_fieldAddr (off := 0) (r := 0) Tryz.underlying104 rfl tiint64.size rfl rfl rfl) rfl ?_
  refine ln_storeM (M' := ([.int .i64 (y.at_ 0).n, .int .i32 0, .map none] : List Value)) rfl rfl rfl tiint64.size (Nat.le_of_ble_eq_true rfl) rfl ?_
  refine ln_nil ?_
  refine at_sub (.skip rfl (.skip rfl (.skip rfl .rfl'))) ?_
  refine at_cd ?_
  refine cd_sq ?_
  refine cd_region ?_
  refine ln_at (i0 := 1) (j := 1) rfl rfl hx rfl (fun u2 sS2 sL2 sU2 ht2 hd2 => ?_)
  have hx := hx.mv ht2
  refine ln_pv (pv_field1 (v := .int .i64 (y.at_ 1).n) Tryz.underlying39 rfl Tryz.underlying2 rfl lk_eq rfl) rfl ?_
  refine ln_pv (pv_conv' (k := .i64) (i := (y.at_ 1).n) Tryz.underlying2 Tryz.underlying21 lk_eq rfl) rfl ?_
  refine ln_pv (pv_fieldAddr (off := 1) (r := 1) Tryz.underlying104 rfl tiint32.size rfl rfl rfl) rfl ?_
  refine ln_storeM (M' := ([.int .i64 (y.at_ 0).n, .int .i32 (IntKind.i32.wrap (y.at_ 1).n), .map none] : List Value)) rfl rfl rfl tiint32.size (Nat.le_of_ble_eq_true rfl) rfl ?_
  refine ln_nil ?_
  refine at_sub (.skip rfl (.skip rfl (.skip rfl (.skip rfl .rfl')))) ?_
  refine at_cd ?_
  refine cd_sq ?_
  refine fl_tags (off := 2) rfl hx hg.open.1 (by have := hg.open.2.1; omega) rfl (fun q hq => hq.elim) rfl (fun i hi u b5 mo l tv E N' X' hu hv h0 hnew hL htx hfr kb => ?_) (fun u mv ht hT => ?_)
  · exact fl_setL (off := 2) (hL _ _ rfl) htx Tryz.underlying104 rfl tipub_kmsg_Tags.size rfl (frs_via hfr (v := .bool true) rfl) (Nat.le_of_ble_eq_true rfl) h0 hnew kb
  have hx := hx.mv ht
  refine at_msg (M' := ([.int .i64 (y.at_ 0).n, .int .i32 (IntKind.i32.wrap (y.at_ 1).n), mv] : List Value)) rfl ?_
  refine at_cd ?_
  have hR : RMp _ F_sFetchSnapshotRequestTopicPartitionSnapshotID y ([.int .i64 (y.at_ 0).n, .int .i32 (IntKind.i32.wrap (y.at_ 1).n), mv] : List Value) := ⟨([.int .i64 (y.at_ 0).n, .int .i32 (IntKind.i32.wrap (y.at_ 1).n)] : List Value), mv, rfl, (RMl_cons (c := [.int .i64 (y.at_ 0).n]) (RMf_i64.2 ⟨rfl, hI1⟩) (RMl_cons (c := [.int .i32 (IntKind.i32.wrap (y.at_ 1).n)]) (RMf_i32.2 rfl) RMl_nil)), hT⟩
  have hsz : fszs F_sFetchSnapshotRequestTopicPartitionSnapshotID + 1 = 3 := by kernel_rfl
  obtain ⟨hl9, h19⟩ := hR.len
  rw [hsz] at hl9
  refine cd_sr ?_
  refine ln_pv (pv_ldO (i := 0) rfl Tryz.underlying104 rfl tipub_kmsg_FetchSnapshotRequestTopicPartitionSnapshotID.size rfl hl9) rfl ?_
  refine ln_storeW (i := 2) (vs := ([.int .i64 (y.at_ 0).n, .int .i32 (IntKind.i32.wrap (y.at_ 1).n), mv] : List Value)) rfl rfl rfl rfl tipub_kmsg_FetchSnapshotRequestTopicPartitionSnapshotID.size hl9 h19 ?_
  refine ln_cd ?_
  refine cd_ret ?_
  exact at_retC (i := 2) rfl rfl rfl Tryz.underlying104 rfl tipub_kmsg_FetchSnapshotRequestTopicPartitionSnapshotID.size hl9 (fun w hS => ⟨_, rfl, hR.mv hS.trFin⟩)
theorem make_makeFetchSnapshotRequestTopicPartition (t : Vw) (y : Tre) (cs : List Value) (hx : RT t y cs) (hsm : smT y) (hg : gT y) : CA Tryz.prog 104 [.agg cs.toArray] t fun u v => ∃ c, v = .agg c.toArray ∧ RMp u F_sFetchSnapshotRequestTopicPartition y c := by
  refine ca_enter Tryz.func104 rfl Tryz.ntmps104 rfl ?_
  refine cd_sr ?_
  refine ln_box (l := cs) rfl rfl rfl (fun b1 => ?_)
  refine ln_alloc (l := ([.int .i32 0, .int .i32 0, .int .i64 0, .int .i32 0, .map none, .int .i64 0, .int .u8 0, .int .u8 0, .int .u8 0, .int .u8 0, .int .u8 0, .int .u8 0, .int .u8 0, .int .u8 0, .int .u8 0, .int .u8 0, .int .u8 0, .int .u8 0, .int .u8 0, .int .u8 0, .int .u8 0, .int .u8 0, .map none] : List Value)) tipub_kmsg_FetchSnapshotRequestTopicPartition rfl rfl (fun b2 => ?_)
  refine ln_cd ?_
  refine cd_sr ?_
  refine ln_alloc (l := ([.int .i32 0, .int .i32 0, .int .i64 0, .int .i32 0, .map none, .int .i64 0, .int .u8 0, .int .u8 0, .int .u8 0, .int .u8 0, .int .u8 0, .int .u8 0, .int .u8 0, .int .u8 0, .int .u8 0, .int .u8 0, .int .u8 0, .int .u8 0, .int .u8 0, .int .u8 0, .int .u8 0, .int .u8 0, .map none] : List Value)) tipub_kmsg_FetchSnapshotRequestTopicPartition rfl rfl (fun b3 => ?_)
  refine ln_cd ?_
  refine cd_perm (H' := [MsgBox b3 107 ([.int .i32 0, .int .i32 0, .int .i64 0, .int .i32 0, .map none, .int .i64 0, .int .u8 0, .int .u8 0, .int .u8 0, .int .u8 0, .int .u8 0, .int .u8 0, .int .u8 0, .int .u8 0, .int .u8 0, .int .u8 0, .int .u8 0, .int .u8 0, .int .u8 0, .int .u8 0, .int .u8 0, .int .u8 0, .map none] : List Value), TreeBox b1 cs, MsgBox b2 107 ([.int .i32 0, .int .i32 0, .int .i64 0, .int .i32 0, .map none, .int .i64 0, .int .u8 0, .int .u8 0, .int .u8 0, .int .u8 0, .int .u8 0, .int .u8 0, .int .u8 0, .int .u8 0, .int .u8 0, .int .u8 0, .int .u8 0, .int .u8 0, .int .u8 0, .int .u8 0, .int .u8 0, .int .u8 0, .map none] : List Value)]) (List.Perm.cons _ (List.Perm.swap _ _ _)) ?_
  refine cd_sq ?_
  refine cd_region ?_
  refine ln_at (i0 := 1) (j := 0) rfl rfl hx rfl (fun u1 sS1 sL1 sU1 ht1 hd1 => ?_)
  have hx := hx.mv ht1
  refine ln_pv (pv_field1 (v := .int .i64 (y.at_ 0).n) Tryz.underlying39 rfl Tryz.underlying2 rfl lk_eq rfl) rfl ?_
  refine ln_pv (pv_conv' (k := .i64) (i := (y.at_ 0).n) Tryz.underlying2 Tryz.underlying21 lk_eq rfl) rfl ?_
  refine ln_pv (pv_fieldAddr (off := 0) (r := 0) Tryz.underlying107 rfl tiint32.size rfl rfl rfl) rfl ?_
  refine ln_storeM (M' := ([.int .i32 (IntKind.i32.wrap (y.at_ 0).n), .int .i32 0, .int .i64 0, .int .i32 0, .map none, .int .i64 0, .int .u8 0, .int .u8 0, .int .u8 0, .int .u8 0, .int .u8 0, .int .u8 0, .int .u8 0, .int .u8 0, .int .u8 0, .int .u8 0, .int .u8 0, .int .u8 0, .int .u8 0, .int .u8 0, .int .u8 0, .int .u8 0, .map none] : List Value)) rfl rfl rfl tiint32.size (Nat.le_of_ble_eq_true rfl) rfl ?_
  refine ln_nil ?_
  refine at_sub (.skip rfl (.skip rfl (.skip rfl (.skip rfl .rfl')))) ?_
  refine at_cd ?_
  refine cd_sq ?_
  refine cd_region ?_
  refine ln_at (i0 := 1) (j := 1) rfl rfl hx rfl (fun u2 sS2 sL2 sU2 ht2 hd2 => ?_)
  have hx := hx.mv ht2
  refine ln_pv (pv_field1 (v := .int .i64 (y.at_ 1).n) Tryz.underlying39 rfl Tryz.underlying2 rfl lk_eq rfl) rfl ?_
  refine ln_pv (pv_conv' (k := .i64) (i := (y.at_ 1).n) Tryz.underlying2 Tryz.underlying21 lk_eq rfl) rfl ?_
  refine ln_pv (pv_fieldAddr (off := 1) (r := 1) Tryz.underlying107 rfl tiint32.size rfl rfl rfl) rfl ?_
  refine ln_storeM (M' := ([.int .i32 (IntKind.i32.wrap (y.at_ 0).n), .int .i32 (IntKind.i32.wrap (y.at_ 1).n), .int .i64 0, .int .i32 0, .map none, .int .i64 0, .int .u8 0, .int .u8 0, .int .u8 0, .int .u8 0, .int .u8 0, .int .u8 0, .int .u8 0, .int .u8 0, .int .u8 0, .int .u8 0, .int .u8 0, .int .u8 0, .int .u8 0, .int .u8 0, .int .u8 0, .int .u8 0, .map none] : List Value)) rfl rfl rfl tiint32.size (Nat.le_of_ble_eq_true rfl) rfl ?_
  refine ln_nil ?_
  refine at_sub (.skip rfl (.skip rfl (.skip rfl (.skip rfl .rfl')))) ?_
  refine at_cd ?_
  refine cd_sq ?_
  refine cd_region ?_
  refine ln_at (i0 := 1) (j := 2) rfl rfl hx rfl (fun u3 sS3 sL3 sU3 ht3 hd3 => ?_)
  have hx := hx.mv ht3
  refine ln_callA (vals := [.agg _]) en_124 rfl (fun u hu => make_makeFetchSnapshotRequestTopicPartitionSnapshotID u (y.at_ 2) _ (hd3.mv hu) (hsm.at_ 2) (hg.at_ 2)) rfl ?_
  rintro uc4 _ htc4 ⟨c4, rfl, hFc4⟩
  have hx := hx.mv htc4
  have hLc4 : c4.length = 3 := hFc4.len.1.trans (by kernel_rfl)
  refine ln_pv (pv_fieldAddr (off := 2) (r := 2) Tryz.underlying107 rfl tipub_kmsg_FetchSnapshotRequestTopicPartitionSnapshotID.size rfl rfl rfl) rfl ?_
  refine ln_storeMA (m := 3) (M' := ([.int .i32 (IntKind.i32.wrap (y.at_ 0).n), .int .i32 (IntKind.i32.wrap (y.at_ 1).n)] ++ (c4 ++ ([.int .i64 0, .int .u8 0, .int .u8 0, .int .u8 0, .int .u8 0, .int .u8 0, .int .u8 0, .int .u8 0, .int .u8 0, .int .u8 0, .int .u8 0, .int .u8 0, .int .u8 0, .int .u8 0, .int .u8 0, .int .u8 0, .int .u8 0, .map none])) : List Value)) rfl rfl hLc4 hFc4.len.2 tipub_kmsg_FetchSnapshotRequestTopicPartitionSnapshotID.size (Nat.le_of_ble_eq_true rfl) (by simp [wr, hLc4]) ?_
  refine ln_nil ?_
  refine at_sub (.skip rfl (.skip rfl (.skip rfl .rfl'))) ?_
  refine at_cd ?_
  refine cd_sq ?_
  refine cd_region ?_
  refine ln_at (i0 := 1) (j := 3) rfl rfl hx rfl (fun u5 sS5 sL5 sU5 ht5 hd5 => ?_)
  have hx := hx.mv ht5
  have hFc4 := hFc4.mv ht5
  refine ln_pv (pv_field1 (v := .int .i64 (y.at_ 3).n) Tryz.underlying39 rfl Tryz.underlying2 rfl lk_eq rfl) rfl ?_
  have hI5 := hd5.i64
  refine ln_pv (pv_fieldAddr (off := 5) (r := 5) Tryz.underlying107 rfl tiint64.size rfl rfl rfl) rfl ?_
  refine ln_storeM (M' := ([.int .i32 (IntKind.i32.wrap (y.at_ 0).n), .int .i32 (IntKind.i32.wrap (y.at_ 1).n)] ++ (c4 ++ ([.int .i64 (y.at_ 3).n, .int .u8 0, .int .u8 0, .int .u8 0, .int .u8 0, .int .u8 0, .int .u8 0, .int .u8 0, .int .u8 0, .int .u8 0, .int .u8 0, .int .u8 0, .int .u8 0, .int .u8 0, .int .u8 0, .int .u8 0, .int .u8 0, .map none])) : List Value)) rfl rfl rfl tiint64.size (by simp [hLc4]) (by simp [List.set_append, List.getElem?_append, wr, hLc4]) ?_
  refine ln_nil ?_
  refine at_sub (.skip rfl (.skip rfl (.skip rfl .rfl'))) ?_
  refine at_cd ?_
  refine cd_sq ?_
  refine cd_region ?_
  refine ln_at (i0 := 1) (j := 4) rfl rfl hx rfl (fun u6 sS6 sL6 sU6 ht6 hd6 => ?_)
  have hx := hx.mv ht6
  have hFc4 := hFc4.mv ht6
  have hS6 := hd6.str
  refine ln_pv (pv_field1 (v := sS6) Tryz.underlying39 rfl Tryz.underlying22 rfl lk_eq rfl) rfl ?_
  refine ln_callA (vals := [sS6]) en_114 rfl (fun u hu => impl_sixteen u _ (y.at_ 4).s (RSv.mv hS6 hu)) rfl ?_
  rintro uc7 _ htc7 rfl
  have hx := hx.mv htc7
  have hFc4 := hFc4.mv htc7
  refine ln_pv (pv_fieldAddr (off := 6) (r := 6) Tryz.underlying107 rfl ti_16_uint8.size rfl rfl rfl) rfl ?_
  refine ln_storeMA (m := 16) (M' := ([.int .i32 (IntKind.i32.wrap (y.at_ 0).n), .int .i32 (IntKind.i32.wrap (y.at_ 1).n)] ++ (c4 ++ ([.int .i64 (y.at_ 3).n] ++ (u8s (uuid (y.at_ 4).s) ++ ([.map none])))) : List Value)) rfl rfl (by simp [uuid_length]) (u8s_one _) ti_16_uint8.size (by simp [hLc4]) (by simp [wr, hLc4, uuid_length, List.take_append, List.drop_append, List.take_of_length_le, List.drop_of_length_le]) ?_
  refine ln_nil ?_
  refine at_sub (.skip rfl (.skip rfl (.skip rfl (.skip rfl .rfl')))) ?_
  refine at_cd ?_
  refine cd_sq ?_
  refine fl_tags (off := 22) rfl hx hg.open.1 (by have := hg.open.2.1; omega) rfl (fun q hq => hq.elim) (by simp [List.set_append, List.getElem?_append, wr, hLc4, uuid_length]) (fun i hi u b5 mo l tv E N' X' hu hv h0 hnew hL htx hfr kb => ?_) (fun u mv ht hT => ?_)
  · exact fl_setL (off := 22) (hL _ _ rfl) htx Tryz.underlying107 rfl tipub_kmsg_Tags.size rfl (frs_via hfr (v := .bool true) rfl) (by simp [hLc4, uuid_length]) h0 hnew kb
  have hx := hx.mv ht
  have hFc4 := hFc4.mv ht
  refine at_msg (M' := ([.int .i32 (IntKind.i32.wrap (y.at_ 0).n), .int .i32 (IntKind.i32.wrap (y.at_ 1).n)] ++ (c4 ++ ([.int .i64 (y.at_ 3).n] ++ (u8s (uuid (y.at_ 4).s) ++ ([mv])))) : List Value)) (by simp [List.set_append, List.getElem?_append, wr, hLc4, uuid_length]) ?_
  refine at_cd ?_
  have hR : RMp _ F_sFetchSnapshotRequestTopicPartition y ([.int .i32 (IntKind.i32.wrap (y.at_ 0).n), .int .i32 (IntKind.i32.wrap (y.at_ 1).n)] ++ (c4 ++ ([.int .i64 (y.at_ 3).n] ++ (u8s (uuid (y.at_ 4).s) ++ ([mv])))) : List Value) := ⟨([.int .i32 (IntKind.i32.wrap (y.at_ 0).n), .int .i32 (IntKind.i32.wrap (y.at_ 1).n)] ++ (c4 ++ ([.int .i64 (y.at_ 3).n] ++ (u8s (uuid (y.at_ 4).s) ++ ([])))) : List Value), mv, by simp, (RMl_cons (c := [.int .i32 (IntKind.i32.wrap (y.at_ 0).n)]) (RMf_i32.2 rfl) (RMl_cons (c := [.int .i32 (IntKind.i32.wrap (y.at_ 1).n)]) (RMf_i32.2 rfl) (RMl_cons (c := c4) ((RMf_part (by decide)).2 hFc4) (RMl_cons (c := [.int .i64 (y.at_ 3).n]) (RMf_i64.2 ⟨rfl, hI5⟩) (RMl_cons (c := u8s (uuid (y.at_ 4).s)) (RMf_uuid.2 rfl) RMl_nil))))), hT⟩
  have hsz : fszs F_sFetchSnapshotRequestTopicPartition + 1 = 23 := by kernel_rfl
  obtain ⟨hl9, h19⟩ := hR.len
  rw [hsz] at hl9
  refine cd_sr ?_
  refine ln_pv (pv_ldO (i := 0) rfl Tryz.underlying107 rfl tipub_kmsg_FetchSnapshotRequestTopicPartition.size rfl hl9) rfl ?_
  refine ln_storeW (i := 2) (vs := ([.int .i32 (IntKind.i32.wrap (y.at_ 0).n), .int .i32 (IntKind.i32.wrap (y.at_ 1).n)] ++ (c4 ++ ([.int .i64 (y.at_ 3).n] ++ (u8s (uuid (y.at_ 4).s) ++ ([mv])))) : List Value)) rfl rfl rfl rfl tipub_kmsg_FetchSnapshotRequestTopicPartition.size hl9 h19 ?_
  refine ln_cd ?_
  refine cd_ret ?_
  exact at_retC (i := 2) rfl rfl rfl Tryz.underlying107 rfl tipub_kmsg_FetchSnapshotRequestTopicPartition.size hl9 (fun w hS => ⟨_, rfl, hR.mv hS.trFin⟩)
theorem make_makeFetchSnapshotRequestTopic (t : Vw) (y : Tre) (cs : List Value) (hx : RT t y cs) (hsm : smT y) (hg : gT y) : CA Tryz.prog 62 [.agg cs.toArray] t fun u v => ∃ c, v = .agg c.toArray ∧ RMp u F_sFetchSnapshotRequestTopic y c := by
  refine ca_enter Tryz.func62 rfl Tryz.ntmps62 rfl ?_
  refine cd_sr ?_
  refine ln_box (l := cs) rfl rfl rfl (fun b1 => ?_)
  refine ln_alloc (l := ([.string .empty, .slice none 0 0, .map none] : List Value)) tipub_kmsg_FetchSnapshotRequestTopic rfl rfl (fun b2 => ?_)
  refine ln_cd ?_
  refine cd_sr ?_
  refine ln_alloc (l := ([.string .empty, .slice none 0 0, .map none] : List Value)) tipub_kmsg_FetchSnapshotRequestTopic rfl rfl (fun b3 => ?_)
  refine ln_cd ?_
  refine cd_perm (H' := [MsgBox b3 95 ([.string .empty, .slice none 0 0, .map none] : List Value), TreeBox b1 cs, MsgBox b2 95 ([.string .empty, .slice none 0 0, .map none] : List Value)]) (List.Perm.cons _ (List.Perm.swap _ _ _)) ?_
  refine cd_sq ?_
  refine cd_region ?_
  refine ln_at (i0 := 1) (j := 0) rfl rfl hx rfl (fun u1 sS1 sL1 sU1 ht1 hd1 => ?_)
  have hx := hx.mv ht1
  have hS1 := hd1.str
  refine ln_pv (pv_field1 (v := sS1) Tryz.underlying39 rfl Tryz.underlying22 rfl lk_eq rfl) rfl ?_
  refine ln_pv (pv_b2s hS1 Tryz.underlying22 Tryz.underlying5 Tryz.underlying9 lk_eq) rfl ?_
  refine ln_pv (pv_fieldAddr (off := 0) (r := 0) Tryz.underlying95 rfl tistring.size rfl rfl rfl) rfl ?_
  refine ln_storeM (M' := ([.string ⟨(y.at_ 0).s.toArray⟩, .slice none 0 0, .map none] : List Value)) rfl rfl rfl tistring.size (Nat.le_of_ble_eq_true rfl) rfl ?_
  refine ln_nil ?_
  refine at_sub (.skip rfl (.skip rfl (.skip rfl (.skip rfl .rfl')))) ?_
  refine at_cd ?_
  refine cd_sq ?_
  refine fl_nl (o := 10) (sb := F_sFetchSnapshotRequestTopicPartition) (j := 1) (off := 1) rfl hx rfl rfl (fun u2 c2 ht2 hF2 => ?_) (fun hz u2a hu2 kk => ?_)
  rotate_left
  · skip
    have hx := hx.mv hu2
    have hle2 : (y.at_ 1).l.length ≤ 32767 := (hg.at_ 1).open.2.2.1
    refine cd_sq ?_
    refine fl_makeL (ez := 23) (j := 1) (off := 1) rfl rfl hx hle2 Tryz.underlying95 rfl rfl tiSl_kmsg_FetchSnapshotRequestTopicPartition.size rfl Tryz.underlying93 tipub_kmsg_FetchSnapshotRequestTopicPartition (by decide) rfl (Nat.le_of_ble_eq_true rfl) (fun u2b g2 cap2 hb2 => ?_)
    have hx := hx.mv hb2
    refine at_cd ?_
    refine fl_list (o := 10) (sb := F_sFetchSnapshotRequestTopicPartition) (j := 1) (off := 1) (ez := 23) (by kernel_rfl) rfl hx hle2 hz rfl (fun q hq => hq.elim) rfl (fun i hi u b5 g cap xs ci sl N' X' hu hxl hci kb => ?_) (fun u c hu hF => kk u c (hb2.trans hu) hF)
    have hmk : ∀ u2, Tr u u2 → CA Tryz.prog 104 [.agg ci.toArray] u2 fun u3 v => ∃ c, v = .agg c.toArray ∧ RMp u3 F_sFetchSnapshotRequestTopicPartition (y.at_ 1).l[i] c := fun u2 h2 => make_makeFetchSnapshotRequestTopicPartition u2 _ _ (hci.mv h2) (smTs.mem (hsm.at_ 1).open.2.2.2 _ (List.getElem_mem hi)) (gTs.mem (hg.at_ 1).open.2.2.2 _ (List.getElem_mem hi))
    exact fl_appLS (sb := F_sFetchSnapshotRequestTopicPartition) (off := 1) rfl rfl Tryz.underlying95 rfl rfl tiSl_kmsg_FetchSnapshotRequestTopicPartition.size rfl Tryz.underlying93 tipub_kmsg_FetchSnapshotRequestTopicPartition rfl (by decide) (by decide) (by decide) (by kernel_rfl) en_104 hci.len hmk rfl (Nat.le_of_ble_eq_true rfl) (by omega) hxl (by kernel_rfl) (by kernel_rfl) kb
  have hx := hx.mv ht2
  refine at_msg (M' := ([.string ⟨(y.at_ 0).s.toArray⟩, c2, .map none] : List Value)) rfl ?_
  refine at_cd ?_
  refine cd_sq ?_
  refine fl_tags (off := 2) rfl hx hg.open.1 (by have := hg.open.2.1; omega) rfl (fun q hq => hq.elim) rfl (fun i hi u b5 mo l tv E N' X' hu hv h0 hnew hL htx hfr kb => ?_) (fun u mv ht hT => ?_)
  · exact fl_setL (off := 2) (hL _ _ rfl) htx Tryz.underlying95 rfl tipub_kmsg_Tags.size rfl (frs_via hfr (v := .bool true) rfl) (Nat.le_of_ble_eq_true rfl) h0 hnew kb
  have hx := hx.mv ht
  have hF2 := hF2.mv ht
  refine at_msg (M' := ([.string ⟨(y.at_ 0).s.toArray⟩, c2, mv] : List Value)) rfl ?_
  refine at_cd ?_
  have hR : RMp _ F_sFetchSnapshotRequestTopic y ([.string ⟨(y.at_ 0).s.toArray⟩, c2, mv] : List Value) := ⟨([.string ⟨(y.at_ 0).s.toArray⟩, c2] : List Value), mv, rfl, (RMl_cons (c := [.string ⟨(y.at_ 0).s.toArray⟩]) ((RMf_str (by decide)).2 rfl) (RMl_cons (c := [c2]) (RMf_list.2 ⟨_, rfl, hF2⟩) RMl_nil)), hT⟩
  have hsz : fszs F_sFetchSnapshotRequestTopic + 1 = 3 := by kernel_rfl
  obtain ⟨hl9, h19⟩ := hR.len
  rw [hsz] at hl9
  refine cd_sr ?_
  refine ln_pv (pv_ldO (i := 0) rfl Tryz.underlying95 rfl tipub_kmsg_FetchSnapshotRequestTopic.size rfl hl9) rfl ?_
  refine ln_storeW (i := 2) (vs := ([.string ⟨(y.at_ 0).s.toArray⟩, c2, mv] : List Value)) rfl rfl rfl rfl tipub_kmsg_FetchSnapshotRequestTopic.size hl9 h19 ?_
  refine ln_cd ?_
  refine cd_ret ?_
  exact at_retC (i := 2) rfl rfl rfl Tryz.underlying95 rfl tipub_kmsg_FetchSnapshotRequestTopic.size hl9 (fun w hS => ⟨_, rfl, hR.mv hS.trFin⟩)
theorem fill_FetchSnapshotRequest (t : Vw) (b : Nat) (v : Int) (y : Tre) (cs : List Value) (hx : RT t y cs) (hsm : smT y) (hg : gT y) (hok : (MsgBox b 58 ([.int .i16 v, .pointer none, .int .i32 0, .int .i32 0, .slice none 0 0, .map none] : List Value)).ok t.w) (hav : ∀ q ∈ (MsgBox b 58 ([.int .i16 v, .pointer none, .int .i32 0, .int .i32 0, .slice none 0 0, .map none] : List Value)).blk, t.av q) : CT Tryz.prog 30 [.pointer (some ⟨b, 0, none⟩), .agg cs.toArray] t (MsgBox b 58 ([.int .i16 v, .pointer none, .int .i32 0, .int .i32 0, .slice none 0 0, .map none] : List Value)) fun u r e' => ∃ cells, e' = MsgBox b 58 (.int .i16 v :: cells) ∧ RMp u F_FetchSnapshotRequest y cells := by
  refine ct_enter Tryz.func30 rfl Tryz.ntmps30 rfl hok hav (by simp [Ent.blk]) ?_
  refine cd_sr ?_
  refine ln_box (l := cs) rfl rfl rfl (fun b1 => ?_)
  refine ln_cd ?_
  refine cd_perm (H' := [MsgBox b 58 ([.int .i16 v, .pointer none, .int .i32 0, .int .i32 0, .slice none 0 0, .map none] : List Value), TreeBox b1 cs]) (List.Perm.swap _ _ _) ?_
  refine cd_sq ?_
  refine cd_region ?_
  refine ln_pv (pv_move rfl) rfl ?_
  refine ln_at (i0 := 1) (j := 0) rfl rfl hx rfl (fun u1 sS1 sL1 sU1 ht1 hd1 => ?_)
  have hx := hx.mv ht1
  refine ln_callA (vals := [.agg _]) en_60 rfl (fun u hu => impl_textOf u (y.at_ 0) _ (hd1.mv hu)) rfl (fun uc2 c2 htc2 hFc2 => ?_)
  have hx := hx.mv htc2
  refine ln_pv (pv_nilCheck rfl) rfl ?_
  refine ln_pv (pv_fieldAddr (off := 1) (r := 1) Tryz.underlying58 rfl tiPt_string.size rfl rfl rfl) rfl ?_
  refine ln_storeM (M' := ([.int .i16 v, c2, .int .i32 0, .int .i32 0, .slice none 0 0, .map none] : List Value)) rfl rfl hFc2.one tiPt_string.size (Nat.le_of_ble_eq_true rfl) rfl ?_
  refine ln_nil ?_
  refine at_sub (.skip rfl (.skip rfl (.skip rfl (.skip rfl (.skip rfl .rfl'))))) ?_
  refine at_cd ?_
  refine cd_sq ?_
  refine cd_region ?_
  refine ln_pv (pv_move rfl) rfl ?_
  refine ln_at (i0 := 1) (j := 1) rfl rfl hx rfl (fun u3 sS3 sL3 sU3 ht3 hd3 => ?_)
  have hx := hx.mv ht3
  have hFc2 := hFc2.mv ht3
  refine ln_pv (pv_field1 (v := .int .i64 (y.at_ 1).n) Tryz.underlying39 rfl Tryz.underlying2 rfl lk_eq rfl) rfl ?_
  refine ln_pv (pv_conv' (k := .i64) (i := (y.at_ 1).n) Tryz.underlying2 Tryz.underlying21 lk_eq rfl) rfl ?_
  refine ln_pv (pv_nilCheck rfl) rfl ?_
  refine ln_pv (pv_fieldAddr (off := 2) (r := 2) Tryz.underlying58 rfl tiint32.size rfl rfl rfl) rfl ?_
  refine ln_storeM (M' := ([.int .i16 v, c2, .int .i32 (IntKind.i32.wrap (y.at_ 1).n), .int .i32 0, .slice none 0 0, .map none] : List Value)) rfl rfl rfl tiint32.size (Nat.le_of_ble_eq_true rfl) rfl ?_
  refine ln_nil ?_
  refine at_sub (.skip rfl (.skip rfl (.skip rfl (.skip rfl (.skip rfl (.skip rfl .rfl')))))) ?_
  refine at_cd ?_
  refine cd_sq ?_
  refine cd_region ?_
  refine ln_pv (pv_move rfl) rfl ?_
  refine ln_at (i0 := 1) (j := 2) rfl rfl hx rfl (fun u4 sS4 sL4 sU4 ht4 hd4 => ?_)
  have hx := hx.mv ht4
  have hFc2 := hFc2.mv ht4
  refine ln_pv (pv_field1 (v := .int .i64 (y.at_ 2).n) Tryz.underlying39 rfl Tryz.underlying2 rfl lk_eq rfl) rfl ?_
  refine ln_pv (pv_conv' (k := .i64) (i := (y.at_ 2).n) Tryz.underlying2 Tryz.underlying21 lk_eq rfl) rfl ?_
  refine ln_pv (pv_nilCheck rfl) rfl ?_
  refine ln_pv (pv_fieldAddr (off := 3) (r := 3) Tryz.underlying58 rfl tiint32.size rfl rfl rfl) rfl ?_
  refine ln_storeM (M' := ([.int .i16 v, c2, .int .i32 (IntKind.i32.wrap (y.at_ 1).n), .int .i32 (IntKind.i32.wrap (y.at_ 2).n), .slice none 0 0, .map none] : List Value)) rfl rfl rfl tiint32.size (Nat.le_of_ble_eq_true rfl) rfl ?_
  refine ln_nil ?_
  refine at_sub (.skip rfl (.skip rfl (.skip rfl (.skip rfl (.skip rfl (.skip rfl .rfl')))))) ?_
  refine at_cd ?_
  refine cd_sq ?_
  refine fl_nl (o := 10) (sb := F_sFetchSnapshotRequestTopic) (j := 3) (off := 4) rfl hx rfl rfl (fun u5 c5 ht5 hF5 => ?_) (fun hz u5a hu5 kk => ?_)
  rotate_left
  · skip
    have hx := hx.mv hu5
    have hFc2 := hFc2.mv hu5
    have hle5 : (y.at_ 3).l.length ≤ 32767 := (hg.at_ 3).open.2.2.1
    refine cd_sq ?_
    refine fl_makeP (ez := 3) (j := 3) (off := 4) rfl rfl hx hle5 Tryz.underlying58 rfl rfl tiSl_kmsg_FetchSnapshotRequestTopic.size rfl Tryz.underlying53 tipub_kmsg_FetchSnapshotRequestTopic (by decide) rfl (Nat.le_of_ble_eq_true rfl) (fun u5b g5 cap5 hb5 => ?_)
    have hx := hx.mv hb5
    have hFc2 := hFc2.mv hb5
    refine at_cd ?_
    refine fl_list (o := 10) (sb := F_sFetchSnapshotRequestTopic) (j := 3) (off := 4) (ez := 3) (by kernel_rfl) rfl hx hle5 hz rfl (fun q hq => by simpa [Ent.blk] using hq) rfl (fun i hi u b5 g cap xs ci sl N' X' hu hxl hci kb => ?_) (fun u c hu hF => kk u c (hb5.trans hu) hF)
    have hmk : ∀ u2, Tr u u2 → CA Tryz.prog 62 [.agg ci.toArray] u2 fun u3 v => ∃ c, v = .agg c.toArray ∧ RMp u3 F_sFetchSnapshotRequestTopic (y.at_ 3).l[i] c := fun u2 h2 => make_makeFetchSnapshotRequestTopic u2 _ _ (hci.mv h2) (smTs.mem (hsm.at_ 3).open.2.2.2 _ (List.getElem_mem hi)) (gTs.mem (hg.at_ 3).open.2.2.2 _ (List.getElem_mem hi))
    exact fl_appPS (sb := F_sFetchSnapshotRequestTopic) (off := 4) rfl rfl Tryz.underlying58 rfl rfl tiSl_kmsg_FetchSnapshotRequestTopic.size rfl Tryz.underlying53 tipub_kmsg_FetchSnapshotRequestTopic rfl (by decide) (by decide) (by decide) (by kernel_rfl) en_62 hci.len hmk rfl (Nat.le_of_ble_eq_true rfl) (by omega) hxl (by kernel_rfl) (by kernel_rfl) kb
  have hx := hx.mv ht5
  have hFc2 := hFc2.mv ht5
  refine at_msg (M' := ([.int .i16 v, c2, .int .i32 (IntKind.i32.wrap (y.at_ 1).n), .int .i32 (IntKind.i32.wrap (y.at_ 2).n), c5, .map none] : List Value)) rfl ?_
  refine at_cd ?_
  refine fl_tags (off := 5) rfl hx hg.open.1 (by have := hg.open.2.1; omega) rfl (fun q hq => by simpa [Ent.blk] using hq) rfl (fun i hi u b5 mo l tv E N' X' hu hv h0 hnew hL htx hfr kb => ?_) (fun u mv ht hT => ?_)
  · exact fl_setP (off := 5) (hL _ _ rfl) htx Tryz.underlying58 rfl tipub_kmsg_Tags.size rfl (frs_via hfr (v := .bool true) rfl) (Nat.le_of_ble_eq_true rfl) h0 hnew (by kernel_rfl) kb
  have hx := hx.mv ht
  have hFc2 := hFc2.mv ht
  have hF5 := hF5.mv ht
  refine at_msg (M' := ([.int .i16 v, c2, .int .i32 (IntKind.i32.wrap (y.at_ 1).n), .int .i32 (IntKind.i32.wrap (y.at_ 2).n), c5, mv] : List Value)) rfl ?_
  have hR : RMp _ F_FetchSnapshotRequest y ([c2, .int .i32 (IntKind.i32.wrap (y.at_ 1).n), .int .i32 (IntKind.i32.wrap (y.at_ 2).n), c5, mv] : List Value) := ⟨([c2, .int .i32 (IntKind.i32.wrap (y.at_ 1).n), .int .i32 (IntKind.i32.wrap (y.at_ 2).n), c5] : List Value), mv, rfl, (RMl_cons (c := [c2]) ((RMf_txt (by decide)).2 ⟨_, rfl, hFc2⟩) (RMl_cons (c := [.int .i32 (IntKind.i32.wrap (y.at_ 1).n)]) (RMf_i32.2 rfl) (RMl_cons (c := [.int .i32 (IntKind.i32.wrap (y.at_ 2).n)]) (RMf_i32.2 rfl) (RMl_cons (c := [c5]) (RMf_list.2 ⟨_, rfl, hF5⟩) RMl_nil)))), hT⟩
  exact at_retT0 (i := 0) rfl rfl (fun w hS => ⟨_, rfl, hR.mv (hS.trFinT _ _)⟩)
end K
end Go.Proofs.YtmknncmdbmnmgabGreat
