import Derived.Test.YtmknncmdbmnmgaaB5
import Derived.Test.YtmknncmdbmnmgaaMls
set_option linter.unusedVariables false
set_option linter.unusedSimpArgs false
namespace Go.Proofs.Ytmknncmdbmnmgaa
namespace K
open Go Go.Lib
theorem make_makeBeginQuorumEpochResponseTopicPartition (t : Vw) (y : Tre) (cs : List Value) (hx : RT t y cs) (hsm : smT y) (hg : gT y) : CA Try.prog 204 [.agg cs.toArray] t fun u v => ∃ c, v = .agg c.toArray ∧ RMp u F_sBeginQuorumEpochResponseTopicPartition y c := by
  refine ca_enter Try.func204 rfl Try.ntmps204 rfl ?_
  refine cd_sr ?_
  refine ln_box (l := cs) rfl rfl rfl (fun b1 => ?_)
  refine ln_alloc (l := ([.int .i32 0, .int .i16 0, .int .i32 0, .int .i32 0, .map none] : List Value)) tipub_kmsg_BeginQuorumEpochResponseTopicPartition rfl rfl (fun b2 => ?_)
  refine ln_cd ?_
  refine cd_sr ?_
  refine ln_alloc (l := ([.int .i32 0, .int .i16 0, .int .i32 0, .int .i32 0, .map none] : List Value)) tipub_kmsg_BeginQuorumEpochResponseTopicPartition rfl rfl (fun b3 => ?_)
  refine ln_cd ?_
  refine cd_perm (H' := [MsgBox b3 233 ([.int .i32 0, .int .i16 0, .int .i32 0, .int .i32 0, .map none] : List Value), TreeBox b1 cs, MsgBox b2 233 ([.int .i32 0, .int .i16 0, .int .i32 0, .int .i32 0, .map none] : List Value)]) (List.Perm.cons _ (List.Perm.swap _ _ _)) ?_
  refine cd_sq ?_
  refine cd_region ?_
  refine ln_at (i0 := 1) (j := 0) rfl rfl hx rfl (fun u1 sS1 sL1 sU1 ht1 hd1 => ?_)
  have hx := hx.mv ht1
  refine ln_pv (pv_field1 (v := .int .i64 (y.at_ 0).n) Try.underlying37 rfl Try.underlying2 rfl lk_eq rfl) rfl ?_
  refine ln_pv (pv_conv' (k := .i64) (i := (y.at_ 0).n) Try.underlying2 Try.underlying21 lk_eq rfl) rfl ?_
  refine ln_pv (pv_fieldAddr (off := 0) (r := 0) Try.underlying233 rfl tiint32.size rfl rfl rfl) rfl ?_
  refine ln_storeM (M' := ([.int .i32 (IntKind.i32.wrap (y.at_ 0).n), .int .i16 0, .int .i32 0, .int .i32 0, .map none] : List Value)) rfl rfl rfl tiint32.size (Nat.le_of_ble_eq_true rfl) rfl ?_
  refine ln_nil ?_
  refine at_sub (.skip rfl (.skip rfl (.skip rfl (.skip rfl .rfl')))) ?_
  refine at_cd ?_
  refine cd_sq ?_
  refine cd_region ?_
  refine ln_at (i0 := 1) (j := 1) rfl rfl hx rfl (fun u2 sS2 sL2 sU2 ht2 hd2 => ?_)
  have hx := hx.mv ht2
  refine ln_pv (pv_field1 (v := .int .i64 (y.at_ 1).n) Try.underlying37 rfl Try.underlying2 rfl lk_eq rfl) rfl ?_
  refine ln_pv (pv_conv' (k := .i64) (i := (y.at_ 1).n) Try.underlying2 Try.underlying49 lk_eq rfl) rfl ?_
  refine ln_pv (pv_fieldAddr (off := 1) (r := 1) Try.underlying233 rfl tiint16.size rfl rfl rfl) rfl ?_
  refine ln_storeM (M' := ([.int .i32 (IntKind.i32.wrap (y.at_ 0).n), .int .i16 (IntKind.i16.wrap (y.at_ 1).n), .int .i32 0, .int .i32 0, .map none] : List Value)) rfl rfl rfl tiint16.size (Nat.le_of_ble_eq_true rfl) rfl ?_
  refine ln_nil ?_
  refine at_sub (.skip rfl (.skip rfl (.skip rfl (.skip rfl .rfl')))) ?_
  refine at_cd ?_
  refine cd_sq ?_
  refine cd_region ?_
  refine ln_at (i0 := 1) (j := 2) rfl rfl hx rfl (fun u3 sS3 sL3 sU3 ht3 hd3 => ?_)
  have hx := hx.mv ht3
  refine ln_pv (pv_field1 (v := .int .i64 (y.at_ 2).n) Try.underlying37 rfl Try.underlying2 rfl lk_eq rfl) rfl ?_
  refine ln_pv (pv_conv' (k := .i64) (i := (y.at_ 2).n) Try.underlying2 Try.underlying21 lk_eq rfl) rfl ?_
  refine ln_pv (pv_fieldAddr (off := 2) (r := 2) Try.underlying233 rfl tiint32.size rfl rfl rfl) rfl ?_
  refine ln_storeM (M' := ([.int .i32 (IntKind.i32.wrap (y.at_ 0).n), .int .i16 (IntKind.i16.wrap (y.at_ 1).n), .int .i32 (IntKind.i32.wrap (y.at_ 2).n), .int .i32 0, .map none] : List Value)) rfl rfl rfl tiint32.size (Nat.le_of_ble_eq_true rfl) rfl ?_
  refine ln_nil ?_
  refine at_sub (.skip rfl (.skip rfl (.skip rfl (.skip rfl .rfl')))) ?_
  refine at_cd ?_
  refine cd_sq ?_
  refine cd_region ?_
  refine ln_at (i0 := 1) (j := 3) rfl rfl hx rfl (fun u4 sS4 sL4 sU4 ht4 hd4 => ?_)
  have hx := hx.mv ht4
  refine ln_pv (pv_field1 (v := .int .i64 (y.at_ 3).n) Try.underlying37 rfl Try.underlying2 rfl lk_eq rfl) rfl ?_
  refine ln_pv (pv_conv' (k := .i64) (i := (y.at_ 3).n) Try.underlying2 Try.underlying21 lk_eq rfl) rfl ?_
  refine ln_pv (pv_fieldAddr (off := 3) (r := 3) Try.underlying233 rfl tiint32.size rfl rfl rfl) rfl ?_
  refine ln_storeM (M' := ([.int .i32 (IntKind.i32.wrap (y.at_ 0).n), .int .i16 (IntKind.i16.wrap (y.at_ 1).n), .int .i32 (IntKind.i32.wrap (y.at_ 2).n), .int .i32 (IntKind.i32.wrap (y.at_ 3).n), .map none] : List Value)) rfl rfl rfl tiint32.size (Nat.le_of_ble_eq_true rfl) rfl ?_
  refine ln_nil ?_
  refine at_sub (.skip rfl (.skip rfl (.skip rfl (.skip rfl .rfl')))) ?_
  refine at_cd ?_
  refine cd_sq ?_
  refine fl_tags (off := 4) rfl hx hg.open.1 (by have := hg.open.2.1; omega) rfl (fun q hq => hq.elim) rfl (fun i hi u b5 mo l tv E N' X' hu hv h0 hnew hL htx hfr kb => ?_) (fun u mv ht hT => ?_)
  · exact fl_setL (off := 4) (hL _ _ rfl) htx Try.underlying233 rfl tipub_kmsg_Tags.size rfl (frs_via hfr (v := .bool true) rfl) (Nat.le_of_ble_eq_true rfl) h0 hnew kb
  have hx := hx.mv ht
  refine at_msg (M' := ([.int .i32 (IntKind.i32.wrap (y.at_ 0).n), .int .i16 (IntKind.i16.wrap (y.at_ 1).n), .int .i32 (IntKind.i32.wrap (y.at_ 2).n), .int .i32 (IntKind.i32.wrap (y.at_ 3).n), mv] : List Value)) rfl ?_
  refine at_cd ?_
  have hR : RMp _ F_sBeginQuorumEpochResponseTopicPartition y ([.int .i32 (IntKind.i32.wrap (y.at_ 0).n), .int .i16 (IntKind.i16.wrap (y.at_ 1).n), .int .i32 (IntKind.i32.wrap (y.at_ 2).n), .int .i32 (IntKind.i32.wrap (y.at_ 3).n), mv] : List Value) := ⟨([.int .i32 (IntKind.i32.wrap (y.at_ 0).n), .int .i16 (IntKind.i16.wrap (y.at_ 1).n), .int .i32 (IntKind.i32.wrap (y.at_ 2).n), .int .i32 (IntKind.i32.wrap (y.at_ 3).n)] : List Value), mv, rfl, (RMl_cons (c := [.int .i32 (IntKind.i32.wrap (y.at_ 0).n)]) (RMf_i32.2 rfl) (RMl_cons (c := [.int .i16 (IntKind.i16.wrap (y.at_ 1).n)]) (RMf_i16.2 rfl) (RMl_cons (c := [.int .i32 (IntKind.i32.wrap (y.at_ 2).n)]) (RMf_i32.2 rfl) (RMl_cons (c := [.int .i32 (IntKind.i32.wrap (y.at_ 3).n)]) (RMf_i32.2 rfl) RMl_nil)))), hT⟩
  have hsz : fszs F_sBeginQuorumEpochResponseTopicPartition + 1 = 5 := by kernel_rfl
  obtain ⟨hl9, h19⟩ := hR.len
  rw [hsz] at hl9
  refine cd_sr ?_
  refine ln_pv (pv_ldO (i := 0) rfl Try.underlying233 rfl tipub_kmsg_BeginQuorumEpochResponseTopicPartition.size rfl hl9) rfl ?_
  refine ln_storeW (i := 2) (vs := ([.int .i32 (IntKind.i32.wrap (y.at_ 0).n), .int .i16 (IntKind.i16.wrap (y.at_ 1).n), .int .i32 (IntKind.i32.wrap (y.at_ 2).n), .int .i32 (IntKind.i32.wrap (y.at_ 3).n), mv] : List Value)) rfl rfl rfl rfl tipub_kmsg_BeginQuorumEpochResponseTopicPartition.size hl9 h19 ?_
  refine ln_cd ?_
  refine cd_ret ?_
  exact at_retC (i := 2) rfl rfl rfl Try.underlying233 rfl tipub_kmsg_BeginQuorumEpochResponseTopicPartition.size hl9 (fun w hS => ⟨_, rfl, hR.mv hS.trFin⟩)
theorem make_makeBeginQuorumEpochResponseTopic (t : Vw) (y : Tre) (cs : List Value) (hx : RT t y cs) (hsm : smT y) (hg : gT y) : CA Try.prog 188 [.agg cs.toArray] t fun u v => ∃ c, v = .agg c.toArray ∧ RMp u F_sBeginQuorumEpochResponseTopic y c := by
  refine ca_enter Try.func188 rfl Try.ntmps188 rfl ?_
  refine cd_sr ?_
  refine ln_box (l := cs) rfl rfl rfl (fun b1 => ?_)
  refine ln_alloc (l := ([.string .empty, .slice none 0 0, .map none] : List Value)) tipub_kmsg_BeginQuorumEpochResponseTopic rfl rfl (fun b2 => ?_)
  refine ln_cd ?_
  refine cd_sr ?_
  refine ln_alloc (l := ([.string .empty, .slice none 0 0, .map none] : List Value)) tipub_kmsg_BeginQuorumEpochResponseTopic rfl rfl (fun b3 => ?_)
  refine ln_cd ?_
  refine cd_perm (H' := [MsgBox b3 224 ([.string .empty, .slice none 0 0, .map none] : List Value), TreeBox b1 cs, MsgBox b2 224 ([.string .empty, .slice none 0 0, .map none] : List Value)]) (List.Perm.cons _ (List.Perm.swap _ _ _)) ?_
  refine cd_sq ?_
  refine cd_region ?_
  refine ln_at (i0 := 1) (j := 0) rfl rfl hx rfl (fun u1 sS1 sL1 sU1 ht1 hd1 => ?_)
  have hx := hx.mv ht1
  have hS1 := hd1.str
  refine ln_pv (pv_field1 (v := sS1) Try.underlying37 rfl Try.underlying22 rfl lk_eq rfl) rfl ?_
  refine ln_pv (pv_b2s hS1 Try.underlying22 Try.underlying5 Try.underlying9 lk_eq) rfl ?_
  refine ln_pv (pv_fieldAddr (off := 0) (r := 0) Try.underlying224 rfl tistring.size rfl rfl rfl) rfl ?_
  refine ln_storeM (M' := ([.string ⟨(y.at_ 0).s.toArray⟩, .slice none 0 0, .map none] : List Value)) rfl rfl rfl tistring.size (Nat.le_of_ble_eq_true rfl) rfl ?_
  refine ln_nil ?_
  refine at_sub (.skip rfl (.skip rfl (.skip rfl (.skip rfl .rfl')))) ?_
  refine at_cd ?_
  refine cd_sq ?_
  refine fl_nl (o := 10) (sb := F_sBeginQuorumEpochResponseTopicPartition) (j := 1) (off := 1) rfl hx rfl rfl (fun u2 c2 ht2 hF2 => ?_) (fun hz u2a hu2 kk => ?_)
  rotate_left
  · skip
    have hx := hx.mv hu2
    have hle2 : (y.at_ 1).l.length ≤ 32767 := (hg.at_ 1).open.2.2.1
    refine cd_sq ?_
    refine fl_makeL (ez := 5) (j := 1) (off := 1) rfl rfl hx hle2 Try.underlying224 rfl rfl tiSl_kmsg_BeginQuorumEpochResponseTopicPartition.size rfl Try.underlying222 tipub_kmsg_BeginQuorumEpochResponseTopicPartition (by decide) rfl (Nat.le_of_ble_eq_true rfl) (fun u2b g2 cap2 hb2 => ?_)
    have hx := hx.mv hb2
    refine at_cd ?_
    refine fl_list (o := 10) (sb := F_sBeginQuorumEpochResponseTopicPartition) (j := 1) (off := 1) (ez := 5) (by kernel_rfl) rfl hx hle2 hz rfl (fun q hq => hq.elim) rfl (fun i hi u b5 g cap xs ci sl N' X' hu hxl hci kb => ?_) (fun u c hu hF => kk u c (hb2.trans hu) hF)
    have hmk : ∀ u2, Tr u u2 → CA Try.prog 204 [.agg ci.toArray] u2 fun u3 v => ∃ c, v = .agg c.toArray ∧ RMp u3 F_sBeginQuorumEpochResponseTopicPartition (y.at_ 1).l[i] c := fun u2 h2 => make_makeBeginQuorumEpochResponseTopicPartition u2 _ _ (hci.mv h2) (smTs.mem (hsm.at_ 1).open.2.2.2 _ (List.getElem_mem hi)) (gTs.mem (hg.at_ 1).open.2.2.2 _ (List.getElem_mem hi))
    exact fl_appLS (sb := F_sBeginQuorumEpochResponseTopicPartition) (off := 1) rfl rfl Try.underlying224 rfl rfl tiSl_kmsg_BeginQuorumEpochResponseTopicPartition.size rfl Try.underlying222 tipub_kmsg_BeginQuorumEpochResponseTopicPartition rfl (by decide) (by decide) (by decide) (by kernel_rfl) en_204 hci.len hmk rfl (Nat.le_of_ble_eq_true rfl) (by omega) hxl (by kernel_rfl) (by kernel_rfl) kb
  have hx := hx.mv ht2
  refine at_msg (M' := ([.string ⟨(y.at_ 0).s.toArray⟩, c2, .map none] : List Value)) rfl ?_
  refine at_cd ?_
  refine cd_sq ?_
  refine fl_tags (off := 2) rfl hx hg.open.1 (by have := hg.open.2.1; omega) rfl (fun q hq => hq.elim) rfl (fun i hi u b5 mo l tv E N' X' hu hv h0 hnew hL htx hfr kb => ?_) (fun u mv ht hT => ?_)
  · exact fl_setL (off := 2) (hL _ _ rfl) htx Try.underlying224 rfl tipub_kmsg_Tags.size rfl (frs_via hfr (v := .bool true) rfl) (Nat.le_of_ble_eq_true rfl) h0 hnew kb
  have hx := hx.mv ht
  have hF2 := hF2.mv ht
  refine at_msg (M' := ([.string ⟨(y.at_ 0).s.toArray⟩, c2, mv] : List Value)) rfl ?_
  refine at_cd ?_
  have hR : RMp _ F_sBeginQuorumEpochResponseTopic y ([.string ⟨(y.at_ 0).s.toArray⟩, c2, mv] : List Value) := ⟨([.string ⟨(y.at_ 0).s.toArray⟩, c2] : List Value), mv, rfl, (RMl_cons (c := [.string ⟨(y.at_ 0).s.toArray⟩]) ((RMf_str (by decide)).2 rfl) (RMl_cons (c := [c2]) (RMf_list.2 ⟨_, rfl, hF2⟩) RMl_nil)), hT⟩
  have hsz : fszs F_sBeginQuorumEpochResponseTopic + 1 = 3 := by kernel_rfl
  obtain ⟨hl9, h19⟩ := hR.len
  rw [hsz] at hl9
  refine cd_sr ?_
  refine ln_pv (pv_ldO (i := 0) rfl Try.underlying224 rfl tipub_kmsg_BeginQuorumEpochResponseTopic.size rfl hl9) rfl ?_
  refine ln_storeW (i := 2) (vs := ([.string ⟨(y.at_ 0).s.toArray⟩, c2, mv] : List Value)) rfl rfl rfl rfl tipub_kmsg_BeginQuorumEpochResponseTopic.size hl9 h19 ?_
  refine ln_cd ?_
  refine cd_ret ?_
  exact at_retC (i := 2) rfl rfl rfl Try.underlying224 rfl tipub_kmsg_BeginQuorumEpochResponseTopic.size hl9 (fun w hS => ⟨_, rfl, hR.mv hS.trFin⟩)
theorem make_makeBeginQuorumEpochResponseNodeEndpoint (t : Vw) (y : Tre) (cs : List Value) (hx : RT t y cs) (hsm : smT y) (hg : gT y) : CA Try.prog 189 [.agg cs.toArray] t fun u v => ∃ c, v = .agg c.toArray ∧ RMp u F_sBeginQuorumEpochResponseNodeEndpoint y c := by
  refine ca_enter Try.func189 rfl Try.ntmps189 rfl ?_
  refine cd_sr ?_
  refine ln_box (l := cs) rfl rfl rfl (fun b1 => ?_)
  refine ln_alloc (l := ([.int .i32 0, .string .empty, .int .u16 0, .map none] : List Value)) tipub_kmsg_BeginQuorumEpochResponseNodeEndpoint rfl rfl (fun b2 => ?_)
  refine ln_cd ?_
  refine cd_sr ?_
  refine ln_alloc (l := ([.int .i32 0, .string .empty, .int .u16 0, .map none] : List Value)) tipub_kmsg_BeginQuorumEpochResponseNodeEndpoint rfl rfl (fun b3 => ?_)
  refine ln_cd ?_
  refine cd_perm (H' := [MsgBox b3 228 ([.int .i32 0, .string .empty, .int .u16 0, .map none] : List Value), TreeBox b1 cs, MsgBox b2 228 ([.int .i32 0, .string .empty, .int .u16 0, .map none] : List Value)]) (List.Perm.cons _ (List.Perm.swap _ _ _)) ?_
  refine cd_sq ?_
  refine cd_region ?_
  refine ln_at (i0 := 1) (j := 0) rfl rfl hx rfl (fun u1 sS1 sL1 sU1 ht1 hd1 => ?_)
  have hx := hx.mv ht1
  refine ln_pv (pv_field1 (v := .int .i64 (y.at_ 0).n) Try.underlying37 rfl Try.underlying2 rfl lk_eq rfl) rfl ?_
  refine ln_pv (pv_conv' (k := .i64) (i := (y.at_ 0).n) Try.underlying2 Try.underlying21 lk_eq rfl) rfl ?_
  refine ln_pv (pv_fieldAddr (off := 0) (r := 0) Try.underlying228 rfl tiint32.size rfl rfl rfl) rfl ?_
  refine ln_storeM (M' := ([.int .i32 (IntKind.i32.wrap (y.at_ 0).n), .string .empty, .int .u16 0, .map none] : List Value)) rfl rfl rfl tiint32.size (Nat.le_of_ble_eq_true rfl) rfl ?_
  refine ln_nil ?_
  refine at_sub (.skip rfl (.skip rfl (.skip rfl (.skip rfl .rfl')))) ?_
  refine at_cd ?_
  refine cd_sq ?_
  refine cd_region ?_
  refine ln_at (i0 := 1) (j := 1) rfl rfl hx rfl (fun u2 sS2 sL2 sU2 ht2 hd2 => ?_)
  have hx := hx.mv ht2
  have hS2 := hd2.str
  refine ln_pv (pv_field1 (v := sS2) Try.underlying37 rfl Try.underlying22 rfl lk_eq rfl) rfl ?_
  refine ln_pv (pv_b2s hS2 Try.underlying22 Try.underlying5 Try.underlying9 lk_eq) rfl ?_
  refine ln_pv (pv_fieldAddr (off := 1) (r := 1) Try.underlying228 rfl tistring.size rfl rfl rfl) rfl ?_
  refine ln_storeM (M' := ([.int .i32 (IntKind.i32.wrap (y.at_ 0).n), .string ⟨(y.at_ 1).s.toArray⟩, .int .u16 0, .map none] : List Value)) rfl rfl rfl tistring.size (Nat.le_of_ble_eq_true rfl) rfl ?_
  refine ln_nil ?_
  refine at_sub (.skip rfl (.skip rfl (.skip rfl (.skip rfl .rfl')))) ?_
  refine at_cd ?_
  refine cd_sq ?_
  refine cd_region ?_
  refine ln_at (i0 := 1) (j := 2) rfl rfl hx rfl (fun u3 sS3 sL3 sU3 ht3 hd3 => ?_)
  have hx := hx.mv ht3
  refine ln_pv (pv_field1 (v := .int .i64 (y.at_ 2).n) Try.underlying37 rfl Try.underlying2 rfl lk_eq rfl) rfl ?_
  refine ln_pv (pv_conv' (k := .i64) (i := (y.at_ 2).n) Try.underlying2 Try.underlying226 lk_eq rfl) rfl ?_
  refine ln_pv (pv_fieldAddr (off := 2) (r := 2) Try.underlying228 rfl tiuint16.size rfl rfl rfl) rfl ?_
  refine ln_storeM (M' := ([.int .i32 (IntKind.i32.wrap (y.at_ 0).n), .string ⟨(y.at_ 1).s.toArray⟩, .int .u16 (IntKind.u16.wrap (y.at_ 2).n), .map none] : List Value)) rfl rfl rfl tiuint16.size (Nat.le_of_ble_eq_true rfl) rfl ?_
  refine ln_nil ?_
  refine at_sub (.skip rfl (.skip rfl (.skip rfl (.skip rfl .rfl')))) ?_
  refine at_cd ?_
  refine cd_sq ?_
  refine fl_tags (off := 3) rfl hx hg.open.1 (by have := hg.open.2.1; omega) rfl (fun q hq => hq.elim) rfl (fun i hi u b5 mo l tv E N' X' hu hv h0 hnew hL htx hfr kb => ?_) (fun u mv ht hT => ?_)
  · exact fl_setL (off := 3) (hL _ _ rfl) htx Try.underlying228 rfl tipub_kmsg_Tags.size rfl (frs_via hfr (v := .bool true) rfl) (Nat.le_of_ble_eq_true rfl) h0 hnew kb
  have hx := hx.mv ht
  refine at_msg (M' := ([.int .i32 (IntKind.i32.wrap (y.at_ 0).n), .string ⟨(y.at_ 1).s.toArray⟩, .int .u16 (IntKind.u16.wrap (y.at_ 2).n), mv] : List Value)) rfl ?_
  refine at_cd ?_
  have hR : RMp _ F_sBeginQuorumEpochResponseNodeEndpoint y ([.int .i32 (IntKind.i32.wrap (y.at_ 0).n), .string ⟨(y.at_ 1).s.toArray⟩, .int .u16 (IntKind.u16.wrap (y.at_ 2).n), mv] : List Value) := ⟨([.int .i32 (IntKind.i32.wrap (y.at_ 0).n), .string ⟨(y.at_ 1).s.toArray⟩, .int .u16 (IntKind.u16.wrap (y.at_ 2).n)] : List Value), mv, rfl, (RMl_cons (c := [.int .i32 (IntKind.i32.wrap (y.at_ 0).n)]) (RMf_i32.2 rfl) (RMl_cons (c := [.string ⟨(y.at_ 1).s.toArray⟩]) ((RMf_str (by decide)).2 rfl) (RMl_cons (c := [.int .u16 (IntKind.u16.wrap (y.at_ 2).n)]) (RMf_u16.2 rfl) RMl_nil))), hT⟩
  have hsz : fszs F_sBeginQuorumEpochResponseNodeEndpoint + 1 = 4 := by kernel_rfl
  obtain ⟨hl9, h19⟩ := hR.len
  rw [hsz] at hl9
  refine cd_sr ?_
  refine ln_pv (pv_ldO (i := 0) rfl Try.underlying228 rfl tipub_kmsg_BeginQuorumEpochResponseNodeEndpoint.size rfl hl9) rfl ?_
  refine ln_storeW (i := 2) (vs := ([.int .i32 (IntKind.i32.wrap (y.at_ 0).n), .string ⟨(y.at_ 1).s.toArray⟩, .int .u16 (IntKind.u16.wrap (y.at_ 2).n), mv] : List Value)) rfl rfl rfl rfl tipub_kmsg_BeginQuorumEpochResponseNodeEndpoint.size hl9 h19 ?_
  refine ln_cd ?_
  refine cd_ret ?_
  exact at_retC (i := 2) rfl rfl rfl Try.underlying228 rfl tipub_kmsg_BeginQuorumEpochResponseNodeEndpoint.size hl9 (fun w hS => ⟨_, rfl, hR.mv hS.trFin⟩)
theorem fill_BeginQuorumEpochResponse (t : Vw) (b : Nat) (v : Int) (y : Tre) (cs : List Value) (hx : RT t y cs) (hsm : smT y) (hg : gT y) (hok : (MsgBox b 135 ([.int .i16 v, .int .i16 0, .slice none 0 0, .slice none 0 0, .map none] : List Value)).ok t.w) (hav : ∀ q ∈ (MsgBox b 135 ([.int .i16 v, .int .i16 0, .slice none 0 0, .slice none 0 0, .map none] : List Value)).blk, t.av q) : CT Try.prog 131 [.pointer (some ⟨b, 0, none⟩), .agg cs.toArray] t (MsgBox b 135 ([.int .i16 v, .int .i16 0, .slice none 0 0, .slice none 0 0, .map none] : List Value)) fun u r e' => ∃ cells, e' = MsgBox b 135 (.int .i16 v :: cells) ∧ RMp u F_BeginQuorumEpochResponse y cells := by
  refine ct_enter Try.func131 rfl Try.ntmps131 rfl hok hav (by simp [Ent.blk]) ?_
  refine cd_sr ?_
  refine ln_box (l := cs) rfl rfl rfl (fun b1 => ?_)
  refine ln_cd ?_
  refine cd_perm (H' := [MsgBox b 135 ([.int .i16 v, .int .i16 0, .slice none 0 0, .slice none 0 0, .map none] : List Value), TreeBox b1 cs]) (List.Perm.swap _ _ _) ?_
  refine cd_sq ?_
  refine cd_region ?_
  refine ln_pv (pv_move rfl) rfl ?_
  refine ln_at (i0 := 1) (j := 0) rfl rfl hx rfl (fun u1 sS1 sL1 sU1 ht1 hd1 => ?_)
  have hx := hx.mv ht1
  refine ln_pv (pv_field1 (v := .int .i64 (y.at_ 0).n) Try.underlying37 rfl Try.underlying2 rfl lk_eq rfl) rfl ?_
  refine ln_pv (pv_conv' (k := .i64) (i := (y.at_ 0).n) Try.underlying2 Try.underlying49 lk_eq rfl) rfl ?_
  refine ln_pv (pv_nilCheck rfl) rfl ?_
  refine ln_pv (pv_fieldAddr (off := 1) (r := 1) Try.underlying135 rfl tiint16.size rfl rfl rfl) rfl ?_
  refine ln_storeM (M' := ([.int .i16 v, .int .i16 (IntKind.i16.wrap (y.at_ 0).n), .slice none 0 0, .slice none 0 0, .map none] : List Value)) rfl rfl rfl tiint16.size (Nat.le_of_ble_eq_true rfl) rfl ?_
  refine ln_nil ?_
  refine at_sub (.skip rfl (.skip rfl (.skip rfl (.skip rfl (.skip rfl (.skip rfl .rfl')))))) ?_
  refine at_cd ?_
  refine cd_sq ?_
  refine fl_nl (o := 10) (sb := F_sBeginQuorumEpochResponseTopic) (j := 1) (off := 2) rfl hx rfl rfl (fun u2 c2 ht2 hF2 => ?_) (fun hz u2a hu2 kk => ?_)
  rotate_left
  · skip
    have hx := hx.mv hu2
    have hle2 : (y.at_ 1).l.length ≤ 32767 := (hg.at_ 1).open.2.2.1
    refine cd_sq ?_
    refine fl_makeP (ez := 3) (j := 1) (off := 2) rfl rfl hx hle2 Try.underlying135 rfl rfl tiSl_kmsg_BeginQuorumEpochResponseTopic.size rfl Try.underlying132 tipub_kmsg_BeginQuorumEpochResponseTopic (by decide) rfl (Nat.le_of_ble_eq_true rfl) (fun u2b g2 cap2 hb2 => ?_)
    have hx := hx.mv hb2
    refine at_cd ?_
    refine fl_list (o := 10) (sb := F_sBeginQuorumEpochResponseTopic) (j := 1) (off := 2) (ez := 3) (by kernel_rfl) rfl hx hle2 hz rfl (fun q hq => by simpa [Ent.blk] using hq) rfl (fun i hi u b5 g cap xs ci sl N' X' hu hxl hci kb => ?_) (fun u c hu hF => kk u c (hb2.trans hu) hF)
    have hmk : ∀ u2, Tr u u2 → CA Try.prog 188 [.agg ci.toArray] u2 fun u3 v => ∃ c, v = .agg c.toArray ∧ RMp u3 F_sBeginQuorumEpochResponseTopic (y.at_ 1).l[i] c := fun u2 h2 => make_makeBeginQuorumEpochResponseTopic u2 _ _ (hci.mv h2) (smTs.mem (hsm.at_ 1).open.2.2.2 _ (List.getElem_mem hi)) (gTs.mem (hg.at_ 1).open.2.2.2 _ (List.getElem_mem hi))
    exact fl_appPS (sb := F_sBeginQuorumEpochResponseTopic) (off := 2) rfl rfl Try.underlying135 rfl rfl tiSl_kmsg_BeginQuorumEpochResponseTopic.size rfl Try.underlying132 tipub_kmsg_BeginQuorumEpochResponseTopic rfl (by decide) (by decide) (by decide) (by kernel_rfl) en_188 hci.len hmk rfl (Nat.le_of_ble_eq_true rfl) (by omega) hxl (by kernel_rfl) (by kernel_rfl) kb
  have hx := hx.mv ht2
  refine at_msg (M' := ([.int .i16 v, .int .i16 (IntKind.i16.wrap (y.at_ 0).n), c2, .slice none 0 0, .map none] : List Value)) rfl ?_
  refine at_cd ?_
  refine cd_sq ?_
  refine fl_nl (o := 10) (sb := F_sBeginQuorumEpochResponseNodeEndpoint) (j := 2) (off := 3) rfl hx rfl rfl (fun u3 c3 ht3 hF3 => ?_) (fun hz u3a hu3 kk => ?_)
  rotate_left
  · skip
    have hx := hx.mv hu3
    have hF2 := hF2.mv hu3
    have hle3 : (y.at_ 2).l.length ≤ 32767 := (hg.at_ 2).open.2.2.1
    refine cd_sq ?_
    refine fl_makeP (ez := 4) (j := 2) (off := 3) rfl rfl hx hle3 Try.underlying135 rfl rfl tiSl_kmsg_BeginQuorumEpochResponseNodeEndpoint.size rfl Try.underlying133 tipub_kmsg_BeginQuorumEpochResponseNodeEndpoint (by decide) rfl (Nat.le_of_ble_eq_true rfl) (fun u3b g3 cap3 hb3 => ?_)
    have hx := hx.mv hb3
    have hF2 := hF2.mv hb3
    refine at_cd ?_
    refine fl_list (o := 10) (sb := F_sBeginQuorumEpochResponseNodeEndpoint) (j := 2) (off := 3) (ez := 4) (by kernel_rfl) rfl hx hle3 hz rfl (fun q hq => by simpa [Ent.blk] using hq) rfl (fun i hi u b5 g cap xs ci sl N' X' hu hxl hci kb => ?_) (fun u c hu hF => kk u c (hb3.trans hu) hF)
    have hmk : ∀ u2, Tr u u2 → CA Try.prog 189 [.agg ci.toArray] u2 fun u3 v => ∃ c, v = .agg c.toArray ∧ RMp u3 F_sBeginQuorumEpochResponseNodeEndpoint (y.at_ 2).l[i] c := fun u2 h2 => make_makeBeginQuorumEpochResponseNodeEndpoint u2 _ _ (hci.mv h2) (smTs.mem (hsm.at_ 2).open.2.2.2 _ (List.getElem_mem hi)) (gTs.mem (hg.at_ 2).open.2.2.2 _ (List.getElem_mem hi))
    exact fl_appPS (sb := F_sBeginQuorumEpochResponseNodeEndpoint) (off := 3) rfl rfl Try.underlying135 rfl rfl tiSl_kmsg_BeginQuorumEpochResponseNodeEndpoint.size rfl Try.underlying133 tipub_kmsg_BeginQuorumEpochResponseNodeEndpoint rfl (by decide) (by decide) (by decide) (by kernel_rfl) en_189 hci.len hmk rfl (Nat.le_of_ble_eq_true rfl) (by omega) hxl (by kernel_rfl) (by kernel_rfl) kb
  have hx := hx.mv ht3
  have hF2 := hF2.mv ht3
  refine at_msg (M' := ([.int .i16 v, .int .i16 (IntKind.i16.wrap (y.at_ 0).n), c2, c3, .map none] : List Value)) rfl ?_
  refine at_cd ?_
  refine fl_tags (off := 4) rfl hx hg.open.1 (by have := hg.open.2.1; omega) rfl (fun q hq => by simpa [Ent.blk] using hq) rfl (fun i hi u b5 mo l tv E N' X' hu hv h0 hnew hL htx hfr kb => ?_) (fun u mv ht hT => ?_)
  · exact fl_setP (off := 4) (hL _ _ rfl) htx Try.underlying135 rfl tipub_kmsg_Tags.size rfl (frs_via hfr (v := .bool true) rfl) (Nat.le_of_ble_eq_true rfl) h0 hnew (by kernel_rfl) kb
  have hx := hx.mv ht
  have hF2 := hF2.mv ht
  have hF3 := hF3.mv ht
  refine at_msg (M' := ([.int .i16 v, .int .i16 (IntKind.i16.wrap (y.at_ 0).n), c2, c3, mv] : List Value)) rfl ?_
  have hR : RMp _ F_BeginQuorumEpochResponse y ([.int .i16 (IntKind.i16.wrap (y.at_ 0).n), c2, c3, mv] : List Value) := ⟨([.int .i16 (IntKind.i16.wrap (y.at_ 0).n), c2, c3] : List Value), mv, rfl, (RMl_cons (c := [.int .i16 (IntKind.i16.wrap (y.at_ 0).n)]) (RMf_i16.2 rfl) (RMl_cons (c := [c2]) (RMf_list.2 ⟨_, rfl, hF2⟩) (RMl_cons (c := [c3]) (RMf_list.2 ⟨_, rfl, hF3⟩) RMl_nil))), hT⟩
  exact at_retT0 (i := 0) rfl rfl (fun w hS => ⟨_, rfl, hR.mv (hS.trFinT _ _)⟩)
end K
end Go.Proofs.Ytmknncmdbmnmgaa
