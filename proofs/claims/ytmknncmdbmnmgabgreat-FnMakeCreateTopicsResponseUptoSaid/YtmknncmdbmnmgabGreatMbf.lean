import Derived.Test.YtmknncmdbmnmgabGreatB5
import Derived.Test.YtmknncmdbmnmgabGreatMbs
set_option linter.unusedVariables false
set_option linter.unusedSimpArgs false
namespace Go.Proofs.YtmknncmdbmnmgabGreat
namespace K
open Go Go.Lib
theorem make_makeCreateTopicsResponseTopicConfig (t : Vw) (y : Tre) (cs : List Value) (hx : RT t y cs) (hsm : smT y) (hg : gT y) : CA Tryz.prog 115 [.agg cs.toArray] t fun u v => ∃ c, v = .agg c.toArray ∧ RMp u F_sCreateTopicsResponseTopicConfig y c := by
  refine ca_enter Tryz.func115 rfl Tryz.ntmps115 rfl ?_
  refine cd_sr ?_
  refine ln_box (l := cs) rfl rfl rfl (fun b1 => ?_)
  refine ln_alloc (l := ([.string .empty, .pointer none, .bool false, .int .i8 0, .bool false, .map none] : List Value)) tipub_kmsg_CreateTopicsResponseTopicConfig rfl rfl (fun b2 => ?_)
  refine ln_cd ?_
  refine cd_sr ?_
  refine ln_alloc (l := ([.string .empty, .pointer none, .bool false, .int .i8 0, .bool false, .map none] : List Value)) tipub_kmsg_CreateTopicsResponseTopicConfig rfl rfl (fun b3 => ?_)
  refine ln_cd ?_
  refine cd_perm (H' := [MsgBox b3 132 ([.string .empty, .pointer none, .bool false, .int .i8 0, .bool false, .map none] : List Value), TreeBox b1 cs, MsgBox b2 132 ([.string .empty, .pointer none, .bool false, .int .i8 0, .bool false, .map none] : List Value)]) (List.Perm.cons _ (List.Perm.swap _ _ _)) ?_
  refine cd_sq ?_
  refine cd_region ?_
  refine ln_at (i0 := 1) (j := 0) rfl rfl hx rfl (fun u1 sS1 sL1 sU1 ht1 hd1 => ?_)
  have hx := hx.mv ht1
  have hS1 := hd1.str
  refine ln_pv (pv_field1 (v := sS1) Tryz.underlying39 rfl Tryz.underlying22 rfl lk_eq rfl) rfl ?_
  refine ln_pv (pv_b2s hS1 Tryz.underlying22 Tryz.underlying5 Tryz.underlying9 lk_eq) rfl ?_
  refine ln_pv (pv_fieldAddr (off := 0) (r := 0) Tryz.underlying132 rfl tistring.size rfl rfl rfl) rfl ?_
  refine ln_storeM (M' := ([.string ⟨(y.at_ 0).s.toArray⟩, .pointer none, .bool false, .int .i8 0, .bool false, .map none] : List Value)) rfl rfl rfl tistring.size (Nat.le_of_ble_eq_true rfl) rfl ?_
  refine ln_nil ?_
  refine at_sub (.skip rfl (.skip rfl (.skip rfl (.skip rfl .rfl')))) ?_
  refine at_cd ?_
  refine cd_sq ?_
  refine cd_region ?_
  refine ln_at (i0 := 1) (j := 1) rfl rfl hx rfl (fun u2 sS2 sL2 sU2 ht2 hd2 => ?_)
  have hx := hx.mv ht2
  refine ln_callA (vals := [.agg _]) en_60 rfl (fun u hu => impl_textOf u (y.at_ 1) _ (hd2.mv hu)) rfl (fun uc3 c3 htc3 hFc3 => ?_)
  have hx := hx.mv htc3
  refine ln_pv (pv_fieldAddr (off := 1) (r := 1) Tryz.underlying132 rfl tiPt_string.size rfl rfl rfl) rfl ?_
  refine ln_storeM (M' := ([.string ⟨(y.at_ 0).s.toArray⟩, c3, .bool false, .int .i8 0, .bool false, .map none] : List Value)) rfl rfl hFc3.one tiPt_string.size (Nat.le_of_ble_eq_true rfl) rfl ?_
  refine ln_nil ?_
  refine at_sub (.skip rfl (.skip rfl (.skip rfl .rfl'))) ?_
  refine at_cd ?_
  refine cd_sq ?_
  refine cd_region ?_
  refine ln_at (i0 := 1) (j := 2) rfl rfl hx rfl (fun u4 sS4 sL4 sU4 ht4 hd4 => ?_)
  have hx := hx.mv ht4
  have hFc3 := hFc3.mv ht4
  refine ln_pv (pv_field1 (v := .int .i64 (y.at_ 2).n) Tryz.underlying39 rfl Tryz.underlying2 rfl lk_eq rfl) rfl ?_
  have hI4 := hd4.i64
  refine ln_pv (pv_and' (k := .i64) (i := (y.at_ 2).n) lk_eq rfl (and1_i64 hI4.1 hI4.2)) rfl ?_
  refine ln_pv (pv_eql lk_eq rfl) rfl ?_
  refine ln_pv (pv_fieldAddr (off := 2) (r := 2) Tryz.underlying132 rfl tibool.size rfl rfl rfl) rfl ?_
  refine ln_storeM (M' := ([.string ⟨(y.at_ 0).s.toArray⟩, c3, .bool (decide ((y.at_ 2).n % 2 = 1)), .int .i8 0, .bool false, .map none] : List Value)) rfl rfl rfl tibool.size (Nat.le_of_ble_eq_true rfl) rfl ?_
  refine ln_nil ?_
  refine at_sub (.skip rfl (.skip rfl (.skip rfl (.skip rfl (.skip rfl .rfl'))))) ?_
  refine at_cd ?_
  refine cd_sq ?_
  refine cd_region ?_
  refine ln_at (i0 := 1) (j := 3) rfl rfl hx rfl (fun u5 sS5 sL5 sU5 ht5 hd5 => ?_)
  have hx := hx.mv ht5
  have hFc3 := hFc3.mv ht5
  refine ln_pv (pv_field1 (v := .int .i64 (y.at_ 3).n) Tryz.underlying39 rfl Tryz.underlying2 rfl lk_eq rfl) rfl ?_
  refine ln_pv (pv_conv' (k := .i64) (i := (y.at_ 3).n) Tryz.underlying2 Tryz.underlying130 lk_eq rfl) rfl ?_
  refine ln_pv (pv_fieldAddr (off := 3) (r := 3) Tryz.underlying132 rfl tiint8.size rfl rfl rfl) rfl ?_
  refine ln_storeM (M' := ([.string ⟨(y.at_ 0).s.toArray⟩, c3, .bool (decide ((y.at_ 2).n % 2 = 1)), .int .i8 (IntKind.i8.wrap (y.at_ 3).n), .bool false, .map none] : List Value)) rfl rfl rfl tiint8.size (Nat.le_of_ble_eq_true rfl) rfl ?_
  refine ln_nil ?_
  refine at_sub (.skip rfl (.skip rfl (.skip rfl (.skip rfl .rfl')))) ?_
  refine at_cd ?_
  refine cd_sq ?_
  refine cd_region ?_
  refine ln_at (i0 := 1) (j := 4) rfl rfl hx rfl (fun u6 sS6 sL6 sU6 ht6 hd6 => ?_)
  have hx := hx.mv ht6
  have hFc3 := hFc3.mv ht6
  refine ln_pv (pv_field1 (v := .int .i64 (y.at_ 4).n) Tryz.underlying39 rfl Tryz.underlying2 rfl lk_eq rfl) rfl ?_
  have hI6 := hd6.i64
  refine ln_pv (pv_and' (k := .i64) (i := (y.at_ 4).n) lk_eq rfl (and1_i64 hI6.1 hI6.2)) rfl ?_
  refine ln_pv (pv_eql lk_eq rfl) rfl ?_
  refine ln_pv (pv_fieldAddr (off := 4) (r := 4) Tryz.underlying132 rfl tibool.size rfl rfl rfl) rfl ?_
  refine ln_storeM (M' := ([.string ⟨(y.at_ 0).s.toArray⟩, c3, .bool (decide ((y.at_ 2).n % 2 = 1)), .int .i8 (IntKind.i8.wrap (y.at_ 3).n), .bool (decide ((y.at_ 4).n % 2 = 1)), .map none] : List Value)) rfl rfl rfl tibool.size (Nat.le_of_ble_eq_true rfl) rfl ?_
  refine ln_nil ?_
  refine at_sub (.skip rfl (.skip rfl (.skip rfl (.skip rfl (.skip rfl .rfl'))))) ?_
  refine at_cd ?_
  refine cd_sq ?_
  refine fl_tags (off := 5) rfl hx hg.open.1 (by have := hg.open.2.1; omega) rfl (fun q hq => hq.elim) rfl (fun i hi u b5 mo l tv E N' X' hu hv h0 hnew hL htx hfr kb => ?_) (fun u mv ht hT => ?_)
  · exact fl_setL (off := 5) (hL _ _ rfl) htx Tryz.underlying132 rfl tipub_kmsg_Tags.size rfl (frs_via hfr (v := .bool true) rfl) (Nat.le_of_ble_eq_true rfl) h0 hnew kb
  have hx := hx.mv ht
  have hFc3 := hFc3.mv ht
  refine at_msg (M' := ([.string ⟨(y.at_ 0).s.toArray⟩, c3, .bool (decide ((y.at_ 2).n % 2 = 1)), .int .i8 (IntKind.i8.wrap (y.at_ 3).n), .bool (decide ((y.at_ 4).n % 2 = 1)), mv] : List Value)) rfl ?_
  refine at_cd ?_
  have hR : RMp _ F_sCreateTopicsResponseTopicConfig y ([.string ⟨(y.at_ 0).s.toArray⟩, c3, .bool (decide ((y.at_ 2).n % 2 = 1)), .int .i8 (IntKind.i8.wrap (y.at_ 3).n), .bool (decide ((y.at_ 4).n % 2 = 1)), mv] : List Value) := ⟨([.string ⟨(y.at_ 0).s.toArray⟩, c3, .bool (decide ((y.at_ 2).n % 2 = 1)), .int .i8 (IntKind.i8.wrap (y.at_ 3).n), .bool (decide ((y.at_ 4).n % 2 = 1))] : List Value), mv, rfl, (RMl_cons (c := [.string ⟨(y.at_ 0).s.toArray⟩]) ((RMf_str (by decide)).2 rfl) (RMl_cons (c := [c3]) ((RMf_txt (by decide)).2 ⟨_, rfl, hFc3⟩) (RMl_cons (c := [.bool (decide ((y.at_ 2).n % 2 = 1))]) (RMf_b.2 rfl) (RMl_cons (c := [.int .i8 (IntKind.i8.wrap (y.at_ 3).n)]) (RMf_i8.2 rfl) (RMl_cons (c := [.bool (decide ((y.at_ 4).n % 2 = 1))]) (RMf_b.2 rfl) RMl_nil))))), hT⟩
  have hsz : fszs F_sCreateTopicsResponseTopicConfig + 1 = 6 := by kernel_rfl
  obtain ⟨hl9, h19⟩ := hR.len
  rw [hsz] at hl9
  refine cd_sr ?_
  refine ln_pv (pv_ldO (i := 0) rfl Tryz.underlying132 rfl tipub_kmsg_CreateTopicsResponseTopicConfig.size rfl hl9) rfl ?_
  refine ln_storeW (i := 2) (vs := ([.string ⟨(y.at_ 0).s.toArray⟩, c3, .bool (decide ((y.at_ 2).n % 2 = 1)), .int .i8 (IntKind.i8.wrap (y.at_ 3).n), .bool (decide ((y.at_ 4).n % 2 = 1)), mv] : List Value)) rfl rfl rfl rfl tipub_kmsg_CreateTopicsResponseTopicConfig.size hl9 h19 ?_
  refine ln_cd ?_
  refine cd_ret ?_
  exact at_retC (i := 2) rfl rfl rfl Tryz.underlying132 rfl tipub_kmsg_CreateTopicsResponseTopicConfig.size hl9 (fun w hS => ⟨_, rfl, hR.mv hS.trFin⟩)
theorem make_makeCreateTopicsResponseTopic (t : Vw) (y : Tre) (cs : List Value) (hx : RT t y cs) (hsm : smT y) (hg : gT y) : CA Tryz.prog 85 [.agg cs.toArray] t fun u v => ∃ c, v = .agg c.toArray ∧ RMp u F_sCreateTopicsResponseTopic y c := by
  refine ca_enter Tryz.func85 rfl Tryz.ntmps85 rfl ?_
  refine cd_sr ?_
  refine ln_box (l := cs) rfl rfl rfl (fun b1 => ?_)
  refine ln_alloc (l := ([.string .empty, .int .u8 0, .int .u8 0, .int .u8 0, .int .u8 0, .int .u8 0, .int .u8 0, .int .u8 0, .int .u8 0, .int .u8 0, .int .u8 0, .int .u8 0, .int .u8 0, .int .u8 0, .int .u8 0, .int .u8 0, .int .u8 0, .int .i16 0, .pointer none, .int .i16 0, .int .i32 0, .int .i16 0, .slice none 0 0, .map none] : List Value)) tipub_kmsg_CreateTopicsResponseTopic rfl rfl (fun b2 => ?_)
  refine ln_cd ?_
  refine cd_sr ?_
  refine ln_alloc (l := ([.string .empty, .int .u8 0, .int .u8 0, .int .u8 0, .int .u8 0, .int .u8 0, .int .u8 0, .int .u8 0, .int .u8 0, .int .u8 0, .int .u8 0, .int .u8 0, .int .u8 0, .int .u8 0, .int .u8 0, .int .u8 0, .int .u8 0, .int .i16 0, .pointer none, .int .i16 0, .int .i32 0, .int .i16 0, .slice none 0 0, .map none] : List Value)) tipub_kmsg_CreateTopicsResponseTopic rfl rfl (fun b3 => ?_)
  refine ln_cd ?_
  refine cd_perm (H' := [MsgBox b3 124 ([.string .empty, .int .u8 0, .int .u8 0, .int .u8 0, .int .u8 0, .int .u8 0, .int .u8 0, .int .u8 0, .int .u8 0, .int .u8 0, .int .u8 0, .int .u8 0, .int .u8 0, .int .u8 0, .int .u8 0, .int .u8 0, .int .u8 0, .int .i16 0, .pointer none, .int .i16 0, .int .i32 0, .int .i16 0, .slice none 0 0, .map none] : List Value), TreeBox b1 cs, MsgBox b2 124 ([.string .empty, .int .u8 0, .int .u8 0, .int .u8 0, .int .u8 0, .int .u8 0, .int .u8 0, .int .u8 0, .int .u8 0, .int .u8 0, .int .u8 0, .int .u8 0, .int .u8 0, .int .u8 0, .int .u8 0, .int .u8 0, .int .u8 0, .int .i16 0, .pointer none, .int .i16 0, .int .i32 0, .int .i16 0, .slice none 0 0, .map none] : List Value)]) (List.Perm.cons _ (List.Perm.swap _ _ _)) ?_
  refine cd_sq ?_
  refine cd_region ?_
  refine ln_at (i0 := 1) (j := 0) rfl rfl hx rfl (fun u1 sS1 sL1 sU1 ht1 hd1 => ?_)
  have hx := hx.mv ht1
  have hS1 := hd1.str
  refine ln_pv (pv_field1 (v := sS1) Tryz.underlying39 rfl Tryz.underlying22 rfl lk_eq rfl) rfl ?_
  refine ln_pv (pv_b2s hS1 Tryz.underlying22 Tryz.underlying5 Tryz.underlying9 lk_eq) rfl ?_
  refine ln_pv (pv_fieldAddr (off := 0) (r := 0) Tryz.underlying124 rfl tistring.size rfl rfl rfl) rfl ?_
  refine ln_storeM (M' := ([.string ⟨(y.at_ 0).s.toArray⟩, .int .u8 0, .int .u8 0, .int .u8 0, .int .u8 0, .int .u8 0, .int .u8 0, .int .u8 0, .int .u8 0, .int .u8 0, .int .u8 0, .int .u8 0, .int .u8 0, .int .u8 0, .int .u8 0, .int .u8 0, .int .u8 0, .int .i16 0, .pointer none, .int .i16 0, .int .i32 0, .int .i16 0, .slice none 0 0, .map none] : List Value)) rfl rfl rfl tistring.size (Nat.le_of_ble_eq_true rfl) rfl ?_
  refine ln_nil ?_
  refine at_sub (.skip rfl (.skip rfl (.skip rfl (.skip rfl .rfl')))) ?_
  refine at_cd ?_
  refine cd_sq ?_
  refine cd_region ?_
  refine ln_at (i0 := 1) (j := 1) rfl rfl hx rfl (fun u2 sS2 sL2 sU2 ht2 hd2 => ?_)
  have hx := hx.mv ht2
  have hS2 := hd2.str
  refine ln_pv (pv_field1 (v := sS2) Tryz.underlying39 rfl Tryz.underlying22 rfl lk_eq rfl) rfl ?_
  refine ln_callA (vals := [sS2]) en_114 rfl (fun u hu => impl_sixteen u _ (y.at_ 1).s (RSv.mv hS2 hu)) rfl ?_
  rintro uc3 _ htc3 rfl
  have hx := hx.mv htc3
  refine ln_pv (pv_fieldAddr (off := 1) (r := 1) Tryz.underlying124 rfl ti_16_uint8.size rfl rfl rfl) rfl ?_
  refine ln_storeMA (m := 16) (M' := ([.string ⟨(y.at_ 0).s.toArray⟩] ++ (u8s (uuid (y.at_ 1).s) ++ ([.int .i16 0, .pointer none, .int .i16 0, .int .i32 0, .int .i16 0, .slice none 0 0, .map none])) : List Value)) rfl rfl (by simp [uuid_length]) (u8s_one _) ti_16_uint8.size (Nat.le_of_ble_eq_true rfl) (by simp [wr, uuid_length]) ?_
  refine ln_nil ?_
  refine at_sub (.skip rfl (.skip rfl (.skip rfl (.skip rfl .rfl')))) ?_
  refine at_cd ?_
  refine cd_sq ?_
  refine cd_region ?_
  refine ln_at (i0 := 1) (j := 2) rfl rfl hx rfl (fun u4 sS4 sL4 sU4 ht4 hd4 => ?_)
  have hx := hx.mv ht4
  refine ln_pv (pv_field1 (v := .int .i64 (y.at_ 2).n) Tryz.underlying39 rfl Tryz.underlying2 rfl lk_eq rfl) rfl ?_
  refine ln_pv (pv_conv' (k := .i64) (i := (y.at_ 2).n) Tryz.underlying2 Tryz.underlying45 lk_eq rfl) rfl ?_
  refine ln_pv (pv_fieldAddr (off := 17) (r := 17) Tryz.underlying124 rfl tiint16.size rfl rfl rfl) rfl ?_
  refine ln_storeM (M' := ([.string ⟨(y.at_ 0).s.toArray⟩] ++ (u8s (uuid (y.at_ 1).s) ++ ([.int .i16 (IntKind.i16.wrap (y.at_ 2).n), .pointer none, .int .i16 0, .int .i32 0, .int .i16 0, .slice none 0 0, .map none])) : List Value)) rfl rfl rfl tiint16.size (by simp [uuid_length]) (by simp [List.set_append, List.getElem?_append, wr, uuid_length]) ?_
  refine ln_nil ?_
  refine at_sub (.skip rfl (.skip rfl (.skip rfl (.skip rfl .rfl')))) ?_
  refine at_cd ?_
  refine cd_sq ?_
  refine cd_region ?_
  refine ln_at (i0 := 1) (j := 3) rfl rfl hx rfl (fun u5 sS5 sL5 sU5 ht5 hd5 => ?_)
  have hx := hx.mv ht5
  refine ln_callA (vals := [.agg _]) en_60 rfl (fun u hu => impl_textOf u (y.at_ 3) _ (hd5.mv hu)) rfl (fun uc6 c6 htc6 hFc6 => ?_)
  have hx := hx.mv htc6
  refine ln_pv (pv_fieldAddr (off := 18) (r := 18) Tryz.underlying124 rfl tiPt_string.size rfl rfl rfl) rfl ?_
  refine ln_storeM (M' := ([.string ⟨(y.at_ 0).s.toArray⟩] ++ (u8s (uuid (y.at_ 1).s) ++ ([.int .i16 (IntKind.i16.wrap (y.at_ 2).n), c6, .int .i16 0, .int .i32 0, .int .i16 0, .slice none 0 0, .map none])) : List Value)) rfl rfl hFc6.one tiPt_string.size (by simp [uuid_length]) (by simp [List.set_append, List.getElem?_append, wr, uuid_length]) ?_
  refine ln_nil ?_
  refine at_sub (.skip rfl (.skip rfl (.skip rfl .rfl'))) ?_
  refine at_cd ?_
  refine cd_sq ?_
  refine cd_region ?_
  refine ln_at (i0 := 1) (j := 4) rfl rfl hx rfl (fun u7 sS7 sL7 sU7 ht7 hd7 => ?_)
  have hx := hx.mv ht7
  have hFc6 := hFc6.mv ht7
  refine ln_pv (pv_field1 (v := .int .i64 (y.at_ 4).n) Tryz.underlying39 rfl Tryz.underlying2 rfl lk_eq rfl) rfl ?_
  refine ln_pv (pv_conv' (k := .i64) (i := (y.at_ 4).n) Tryz.underlying2 Tryz.underlying45 lk_eq rfl) rfl ?_
  refine ln_pv (pv_fieldAddr (off := 19) (r := 19) Tryz.underlying124 rfl tiint16.size rfl rfl rfl) rfl ?_
  refine ln_storeM (M' := ([.string ⟨(y.at_ 0).s.toArray⟩] ++ (u8s (uuid (y.at_ 1).s) ++ ([.int .i16 (IntKind.i16.wrap (y.at_ 2).n), c6, .int .i16 (IntKind.i16.wrap (y.at_ 4).n), .int .i32 0, .int .i16 0, .slice none 0 0, .map none])) : List Value)) rfl rfl rfl tiint16.size (by simp [uuid_length]) (by simp [List.set_append, List.getElem?_append, wr, uuid_length]) ?_
  refine ln_nil ?_
  refine at_sub (.skip rfl (.skip rfl (.skip rfl (.skip rfl .rfl')))) ?_
  refine at_cd ?_
  refine cd_sq ?_
  refine cd_region ?_
  refine ln_at (i0 := 1) (j := 5) rfl rfl hx rfl (fun u8 sS8 sL8 sU8 ht8 hd8 => ?_)
  have hx := hx.mv ht8
  have hFc6 := hFc6.mv ht8
  refine ln_pv (pv_field1 (v := .int .i64 (y.at_ 5).n) Tryz.underlying39 rfl Tryz.underlying2 rfl lk_eq rfl) rfl ?_
  refine ln_pv (pv_conv' (k := .i64) (i := (y.at_ 5).n) Tryz.underlying2 Tryz.underlying21 lk_eq rfl) rfl ?_
  refine ln_pv (pv_fieldAddr (off := 20) (r := 20) Tryz.underlying124 rfl tiint32.size rfl rfl rfl) rfl ?_
  refine ln_storeM (M' := ([.string ⟨(y.at_ 0).s.toArray⟩] ++ (u8s (uuid (y.at_ 1).s) ++ ([.int .i16 (IntKind.i16.wrap (y.at_ 2).n), c6, .int .i16 (IntKind.i16.wrap (y.at_ 4).n), .int .i32 (IntKind.i32.wrap (y.at_ 5).n), .int .i16 0, .slice none 0 0, .map none])) : List Value)) rfl rfl rfl tiint32.size (by simp [uuid_length]) (by simp [List.set_append, List.getElem?_append, wr, uuid_length]) ?_
  refine ln_nil ?_
  refine at_sub (.skip rfl (.skip rfl (.skip rfl (.skip rfl .rfl')))) ?_
  refine at_cd ?_
  refine cd_sq ?_
  refine cd_region ?_
  refine ln_at (i0 := 1) (j := 6) rfl rfl hx rfl (fun u9 sS9 sL9 sU9 ht9 hd9 => ?_)
  have hx := hx.mv ht9
  have hFc6 := hFc6.mv ht9
  refine ln_pv (pv_field1 (v := .int .i64 (y.at_ 6).n) Tryz.underlying39 rfl Tryz.underlying2 rfl lk_eq rfl) rfl ?_
  refine ln_pv (pv_conv' (k := .i64) (i := (y.at_ 6).n) Tryz.underlying2 Tryz.underlying45 lk_eq rfl) rfl ?_
  refine ln_pv (pv_fieldAddr (off := 21) (r := 21) Tryz.underlying124 rfl tiint16.size rfl rfl rfl) rfl ?_
  refine ln_storeM (M' := ([.string ⟨(y.at_ 0).s.toArray⟩] ++ (u8s (uuid (y.at_ 1).s) ++ ([.int .i16 (IntKind.i16.wrap (y.at_ 2).n), c6, .int .i16 (IntKind.i16.wrap (y.at_ 4).n), .int .i32 (IntKind.i32.wrap (y.at_ 5).n), .int .i16 (IntKind.i16.wrap (y.at_ 6).n), .slice none 0 0, .map none])) : List Value)) rfl rfl rfl tiint16.size (by simp [uuid_length]) (by simp [List.set_append, List.getElem?_append, wr, uuid_length]) ?_
  refine ln_nil ?_
  refine at_sub (.skip rfl (.skip rfl (.skip rfl (.skip rfl .rfl')))) ?_
  refine at_cd ?_
  refine cd_sq ?_
  refine fl_nl (o := 10) (sb := F_sCreateTopicsResponseTopicConfig) (j := 7) (off := 22) rfl hx rfl (by simp [List.set_append, List.getElem?_append, wr, uuid_length]) (fun u10 c10 ht10 hF10 => ?_) (fun hz u10a hu10 kk => ?_)
  rotate_left
  · skip
    have hx := hx.mv hu10
    have hFc6 := hFc6.mv hu10
    have hle10 : (y.at_ 7).l.length ≤ 32767 := (hg.at_ 7).open.2.2.1
    refine cd_sq ?_
    refine fl_makeL (ez := 6) (j := 7) (off := 22) rfl rfl hx hle10 Tryz.underlying124 rfl rfl tiSl_kmsg_CreateTopicsResponseTopicConfig.size rfl Tryz.underlying122 tipub_kmsg_CreateTopicsResponseTopicConfig (by decide) rfl (by simp [uuid_length]) (fun u10b g10 cap10 hb10 => ?_)
    have hx := hx.mv hb10
    have hFc6 := hFc6.mv hb10
    refine at_cd ?_
    refine fl_list (o := 10) (sb := F_sCreateTopicsResponseTopicConfig) (j := 7) (off := 22) (ez := 6) (by kernel_rfl) rfl hx hle10 hz rfl (fun q hq => hq.elim) rfl (fun i hi u b5 g cap xs ci sl N' X' hu hxl hci kb => ?_) (fun u c hu hF => kk u c (hb10.trans hu) hF)
    have hmk : ∀ u2, Tr u u2 → CA Tryz.prog 115 [.agg ci.toArray] u2 fun u3 v => ∃ c, v = .agg c.toArray ∧ RMp u3 F_sCreateTopicsResponseTopicConfig (y.at_ 7).l[i] c := fun u2 h2 => make_makeCreateTopicsResponseTopicConfig u2 _ _ (hci.mv h2) (smTs.mem (hsm.at_ 7).open.2.2.2 _ (List.getElem_mem hi)) (gTs.mem (hg.at_ 7).open.2.2.2 _ (List.getElem_mem hi))
    exact fl_appLS (sb := F_sCreateTopicsResponseTopicConfig) (off := 22) rfl rfl Tryz.underlying124 rfl rfl tiSl_kmsg_CreateTopicsResponseTopicConfig.size rfl Tryz.underlying122 tipub_kmsg_CreateTopicsResponseTopicConfig rfl (by decide) (by decide) (by decide) (by kernel_rfl) en_115 hci.len hmk rfl (by simp [uuid_length]) (by omega) hxl (by kernel_rfl) (by kernel_rfl) kb
  have hx := hx.mv ht10
  have hFc6 := hFc6.mv ht10
  refine at_msg (M' := ([.string ⟨(y.at_ 0).s.toArray⟩] ++ (u8s (uuid (y.at_ 1).s) ++ ([.int .i16 (IntKind.i16.wrap (y.at_ 2).n), c6, .int .i16 (IntKind.i16.wrap (y.at_ 4).n), .int .i32 (IntKind.i32.wrap (y.at_ 5).n), .int .i16 (IntKind.i16.wrap (y.at_ 6).n), c10, .map none])) : List Value)) (by simp [List.set_append, List.getElem?_append, wr, uuid_length]) ?_
  refine at_cd ?_
  refine cd_sq ?_
  refine fl_tags (off := 23) rfl hx hg.open.1 (by have := hg.open.2.1; omega) rfl (fun q hq => hq.elim) (by simp [List.set_append, List.getElem?_append, wr, uuid_length]) (fun i hi u b5 mo l tv E N' X' hu hv h0 hnew hL htx hfr kb => ?_) (fun u mv ht hT => ?_)
  · exact fl_setL (off := 23) (hL _ _ rfl) htx Tryz.underlying124 rfl tipub_kmsg_Tags.size rfl (frs_via hfr (v := .bool true) rfl) (by simp [uuid_length]) h0 hnew kb
  have hx := hx.mv ht
  have hFc6 := hFc6.mv ht
  have hF10 := hF10.mv ht
  refine at_msg (M' := ([.string ⟨(y.at_ 0).s.toArray⟩] ++ (u8s (uuid (y.at_ 1).s) ++ ([.int .i16 (IntKind.i16.wrap (y.at_ 2).n), c6, .int .i16 (IntKind.i16.wrap (y.at_ 4).n), .int .i32 (IntKind.i32.wrap (y.at_ 5).n), .int .i16 (IntKind.i16.wrap (y.at_ 6).n), c10, mv])) : List Value)) (by simp [List.set_append, List.getElem?_append, wr, uuid_length]) ?_
  refine at_cd ?_
  have hR : RMp _ F_sCreateTopicsResponseTopic y ([.string ⟨(y.at_ 0).s.toArray⟩] ++ (u8s (uuid (y.at_ 1).s) ++ ([.int .i16 (IntKind.i16.wrap (y.at_ 2).n), c6, .int .i16 (IntKind.i16.wrap (y.at_ 4).n), .int .i32 (IntKind.i32.wrap (y.at_ 5).n), .int .i16 (IntKind.i16.wrap (y.at_ 6).n), c10, mv])) : List Value) := ⟨([.string ⟨(y.at_ 0).s.toArray⟩] ++ (u8s (uuid (y.at_ 1).s) ++ ([.int .i16 (IntKind.i16.wrap (y.at_ 2).n), c6, .int .i16 (IntKind.i16.wrap (y.at_ 4).n), .int .i32 (IntKind.i32.wrap (y.at_ 5).n), .int .i16 (IntKind.i16.wrap (y.at_ 6).n), c10])) : List Value), mv, by simp, (RMl_cons (c := [.string ⟨(y.at_ 0).s.toArray⟩]) ((RMf_str (by decide)).2 rfl) (RMl_cons (c := u8s (uuid (y.at_ 1).s)) (RMf_uuid.2 rfl) (RMl_cons (c := [.int .i16 (IntKind.i16.wrap (y.at_ 2).n)]) (RMf_i16.2 rfl) (RMl_cons (c := [c6]) ((RMf_txt (by decide)).2 ⟨_, rfl, hFc6⟩) (RMl_cons (c := [.int .i16 (IntKind.i16.wrap (y.at_ 4).n)]) (RMf_i16.2 rfl) (RMl_cons (c := [.int .i32 (IntKind.i32.wrap (y.at_ 5).n)]) (RMf_i32.2 rfl) (RMl_cons (c := [.int .i16 (IntKind.i16.wrap (y.at_ 6).n)]) (RMf_i16.2 rfl) (RMl_cons (c := [c10]) (RMf_list.2 ⟨_, rfl, hF10⟩) RMl_nil)))))))), hT⟩
  have hsz : fszs F_sCreateTopicsResponseTopic + 1 = 24 := by kernel_rfl
  obtain ⟨hl9, h19⟩ := hR.len
  rw [hsz] at hl9
  refine cd_sr ?_
  refine ln_pv (pv_ldO (i := 0) rfl Tryz.underlying124 rfl tipub_kmsg_CreateTopicsResponseTopic.size rfl hl9) rfl ?_
  refine ln_storeW (i := 2) (vs := ([.string ⟨(y.at_ 0).s.toArray⟩] ++ (u8s (uuid (y.at_ 1).s) ++ ([.int .i16 (IntKind.i16.wrap (y.at_ 2).n), c6, .int .i16 (IntKind.i16.wrap (y.at_ 4).n), .int .i32 (IntKind.i32.wrap (y.at_ 5).n), .int .i16 (IntKind.i16.wrap (y.at_ 6).n), c10, mv])) : List Value)) rfl rfl rfl rfl tipub_kmsg_CreateTopicsResponseTopic.size hl9 h19 ?_
  refine ln_cd ?_
  refine cd_ret ?_
  exact at_retC (i := 2) rfl rfl rfl Tryz.underlying124 rfl tipub_kmsg_CreateTopicsResponseTopic.size hl9 (fun w hS => ⟨_, rfl, hR.mv hS.trFin⟩)
theorem fill_CreateTopicsResponse (t : Vw) (b : Nat) (v : Int) (y : Tre) (cs : List Value) (hx : RT t y cs) (hsm : smT y) (hg : gT y) (hok : (MsgBox b 74 ([.int .i16 v, .int .i32 0, .slice none 0 0, .map none] : List Value)).ok t.w) (hav : ∀ q ∈ (MsgBox b 74 ([.int .i16 v, .int .i32 0, .slice none 0 0, .map none] : List Value)).blk, t.av q) : CT Tryz.prog 41 [.pointer (some ⟨b, 0, none⟩), .agg cs.toArray] t (MsgBox b 74 ([.int .i16 v, .int .i32 0, .slice none 0 0, .map none] : List Value)) fun u r e' => ∃ cells, e' = MsgBox b 74 (.int .i16 v :: cells) ∧ RMp u F_CreateTopicsResponse y cells := by
  refine ct_enter Tryz.func41 rfl Tryz.ntmps41 rfl hok hav (by simp [Ent.blk]) ?_
  refine cd_sr ?_
  refine ln_box (l := cs) rfl rfl rfl (fun b1 => ?_)
  refine ln_cd ?_
  refine cd_perm (H' := [MsgBox b 74 ([.int .i16 v, .int .i32 0, .slice none 0 0, .map none] : List Value), TreeBox b1 cs]) (List.Perm.swap _ _ _) ?_
  refine cd_sq ?_
  refine cd_region ?_
  refine ln_pv (pv_move rfl) rfl ?_
  refine ln_at (i0 := 1) (j := 0) rfl rfl hx rfl (fun u1 sS1 sL1 sU1 ht1 hd1 => ?_)
  have hx := hx.mv ht1
  refine ln_pv (pv_field1 (v := .int .i64 (y.at_ 0).n) Tryz.underlying39 rfl Tryz.underlying2 rfl lk_eq rfl) rfl ?_
  refine ln_pv (pv_conv' (k := .i64) (i := (y.at_ 0).n) Tryz.underlying2 Tryz.underlying21 lk_eq rfl) rfl ?_
  refine ln_pv (pv_nilCheck rfl) rfl ?_
  refine ln_pv (pv_fieldAddr (off := 1) (r := 1) Tryz.underlying74 rfl tiint32.size rfl rfl rfl) rfl ?_
  refine ln_storeM (M' := ([.int .i16 v, .int .i32 (IntKind.i32.wrap (y.at_ 0).n), .slice none 0 0, .map none] : List Value)) rfl rfl rfl tiint32.size (Nat.le_of_ble_eq_true rfl) rfl ?_
  refine ln_nil ?_
  refine at_sub (.skip rfl (.skip rfl (.skip rfl (.skip rfl (.skip rfl (.skip rfl .rfl')))))) ?_
  refine at_cd ?_
  refine cd_sq ?_
  refine fl_nl (o := 10) (sb := F_sCreateTopicsResponseTopic) (j := 1) (off := 2) rfl hx rfl rfl (fun u2 c2 ht2 hF2 => ?_) (fun hz u2a hu2 kk => ?_)
  rotate_left
  · skip
    have hx := hx.mv hu2
    have hle2 : (y.at_ 1).l.length ≤ 32767 := (hg.at_ 1).open.2.2.1
    refine cd_sq ?_
    refine fl_makeP (ez := 24) (j := 1) (off := 2) rfl rfl hx hle2 Tryz.underlying74 rfl rfl tiSl_kmsg_CreateTopicsResponseTopic.size rfl Tryz.underlying72 tipub_kmsg_CreateTopicsResponseTopic (by decide) rfl (Nat.le_of_ble_eq_true rfl) (fun u2b g2 cap2 hb2 => ?_)
    have hx := hx.mv hb2
    refine at_cd ?_
    refine fl_list (o := 10) (sb := F_sCreateTopicsResponseTopic) (j := 1) (off := 2) (ez := 24) (by kernel_rfl) rfl hx hle2 hz rfl (fun q hq => by simpa [Ent.blk] using hq) rfl (fun i hi u b5 g cap xs ci sl N' X' hu hxl hci kb => ?_) (fun u c hu hF => kk u c (hb2.trans hu) hF)
    have hmk : ∀ u2, Tr u u2 → CA Tryz.prog 85 [.agg ci.toArray] u2 fun u3 v => ∃ c, v = .agg c.toArray ∧ RMp u3 F_sCreateTopicsResponseTopic (y.at_ 1).l[i] c := fun u2 h2 => make_makeCreateTopicsResponseTopic u2 _ _ (hci.mv h2) (smTs.mem (hsm.at_ 1).open.2.2.2 _ (List.getElem_mem hi)) (gTs.mem (hg.at_ 1).open.2.2.2 _ (List.getElem_mem hi))
    exact fl_appPS (sb := F_sCreateTopicsResponseTopic) (off := 2) rfl rfl Tryz.underlying74 rfl rfl tiSl_kmsg_CreateTopicsResponseTopic.size rfl Tryz.underlying72 tipub_kmsg_CreateTopicsResponseTopic rfl (by decide) (by decide) (by decide) (by kernel_rfl) en_85 hci.len hmk rfl (Nat.le_of_ble_eq_true rfl) (by omega) hxl (by kernel_rfl) (by kernel_rfl) kb
  have hx := hx.mv ht2
  refine at_msg (M' := ([.int .i16 v, .int .i32 (IntKind.i32.wrap (y.at_ 0).n), c2, .map none] : List Value)) rfl ?_
  refine at_cd ?_
  refine fl_tags (off := 3) rfl hx hg.open.1 (by have := hg.open.2.1; omega) rfl (fun q hq => by simpa [Ent.blk] using hq) rfl (fun i hi u b5 mo l tv E N' X' hu hv h0 hnew hL htx hfr kb => ?_) (fun u mv ht hT => ?_)
  · exact fl_setP (off := 3) (hL _ _ rfl) htx Tryz.underlying74 rfl tipub_kmsg_Tags.size rfl (frs_via hfr (v := .bool true) rfl) (Nat.le_of_ble_eq_true rfl) h0 hnew (by kernel_rfl) kb
  have hx := hx.mv ht
  have hF2 := hF2.mv ht
  refine at_msg (M' := ([.int .i16 v, .int .i32 (IntKind.i32.wrap (y.at_ 0).n), c2, mv] : List Value)) rfl ?_
  have hR : RMp _ F_CreateTopicsResponse y ([.int .i32 (IntKind.i32.wrap (y.at_ 0).n), c2, mv] : List Value) := ⟨([.int .i32 (IntKind.i32.wrap (y.at_ 0).n), c2] : List Value), mv, rfl, (RMl_cons (c := [.int .i32 (IntKind.i32.wrap (y.at_ 0).n)]) (RMf_i32.2 rfl) (RMl_cons (c := [c2]) (RMf_list.2 ⟨_, rfl, hF2⟩) RMl_nil)), hT⟩
  exact at_retT0 (i := 0) rfl rfl (fun w hS => ⟨_, rfl, hR.mv (hS.trFinT _ _)⟩)
end K
end Go.Proofs.YtmknncmdbmnmgabGreat
