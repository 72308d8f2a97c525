import Derived.Test.YtmknncmdbmnmgaaB5
import Derived.Test.YtmknncmdbmnmgaaMks
set_option linter.unusedVariables false
set_option linter.unusedSimpArgs false
namespace Go.Proofs.Ytmknncmdbmnmgaa
namespace K
open Go Go.Lib
theorem make_makeDescribeTransactionsResponseTransactionStateTopic (t : Vw) (y : Tre) (cs : List Value) (hx : RT t y cs) (hsm : smT y) (hg : gT y) : CA Try.prog 203 [.agg cs.toArray] t fun u v => ∃ c, v = .agg c.toArray ∧ RMp u F_sDescribeTransactionsResponseTransactionStateTopic y c := by
  refine ca_enter Try.func203 rfl Try.ntmps203 rfl ?_
  refine cd_sr ?_
  refine ln_box (l := cs) rfl rfl rfl (fun b1 => ?_)
  refine ln_alloc (l := ([.string .empty, .slice none 0 0, .map none] : List Value)) tipub_kmsg_DescribeTransactionsResponseTransactionStateTopic rfl rfl (fun b2 => ?_)
  refine ln_cd ?_
  refine cd_sr ?_
  refine ln_alloc (l := ([.string .empty, .slice none 0 0, .map none] : List Value)) tipub_kmsg_DescribeTransactionsResponseTransactionStateTopic rfl rfl (fun b3 => ?_)
  refine ln_cd ?_
  refine cd_perm (H' := [MsgBox b3 221 ([.string .empty, .slice none 0 0, .map none] : List Value), TreeBox b1 cs, MsgBox b2 221 ([.string .empty, .slice none 0 0, .map none] : List Value)]) (List.Perm.cons _ (List.Perm.swap _ _ _)) ?_
  refine cd_sq ?_
  refine cd_region ?_
  refine ln_at (i0 := 1) (j := 0) rfl rfl hx rfl (fun u1 sS1 sL1 sU1 ht1 hd1 => ?_)
  have hx := hx.mv ht1
  have hS1 := hd1.str
  refine ln_pv (pv_field1 (v := sS1) Try.underlying37 rfl Try.underlying22 rfl lk_eq rfl) rfl ?_
  refine ln_pv (pv_b2s hS1 Try.underlying22 Try.underlying5 Try.underlying9 lk_eq) rfl ?_
  refine ln_pv (pv_fieldAddr (off := 0) (r := 0) Try.underlying221 rfl tistring.size rfl rfl rfl) rfl ?_
  refine ln_storeM (M' := ([.string ⟨(y.at_ 0).s.toArray⟩, .slice none 0 0, .map none] : List Value)) rfl rfl rfl tistring.size (Nat.le_of_ble_eq_true rfl) rfl ?_
  refine ln_nil ?_
  refine at_sub (.skip rfl (.skip rfl (.skip rfl (.skip rfl .rfl')))) ?_
  refine at_cd ?_
  refine cd_sq ?_
  refine fl_nl (o := 3) (sb := []) (j := 1) (off := 1) rfl hx rfl rfl (fun u2 c2 ht2 hF2 => ?_) (fun hz u2a hu2 kk => ?_)
  rotate_left
  · skip
    have hx := hx.mv hu2
    have hle2 : (y.at_ 1).l.length ≤ 32767 := (hg.at_ 1).open.2.2.1
    refine cd_sq ?_
    refine fl_makeL (ez := 1) (j := 1) (off := 1) rfl rfl hx hle2 Try.underlying221 rfl rfl tiSl_int32.size rfl Try.underlying219 tiint32 (by decide) rfl (Nat.le_of_ble_eq_true rfl) (fun u2b g2 cap2 hb2 => ?_)
    have hx := hx.mv hb2
    refine at_cd ?_
    refine fl_list (o := 3) (sb := []) (j := 1) (off := 1) (ez := 1) (by decide) rfl hx hle2 hz rfl (fun q hq => hq.elim) rfl (fun i hi u b5 g cap xs ci sl N' X' hu hxl hci kb => ?_) (fun u c hu hF => kk u c (hb2.trans hu) hF)
    obtain ⟨sS, sL, sU, rfl, hn5, hS5, _, _⟩ := hci.open
    exact fl_appLN (o := 3) (sb := []) (off := 1) (kt := 0) (v7 := .int .i32 (IntKind.i32.wrap (y.at_ 1).l[i].n)) (y := (y.at_ 1).l[i]) rfl rfl Try.underlying221 rfl rfl tiSl_int32.size rfl Try.underlying219 tiint32 rfl (by decide) Try.underlying37 rfl tiint64.size rfl Try.underlying2 rfl rfl (fun _ _ h => pv_conv' (k := .i64) (i := (y.at_ 1).l[i].n) Try.underlying2 Try.underlying21 h rfl) rfl (by decide) (by simp [RS1]) rfl (Nat.le_of_ble_eq_true rfl) (by omega) hxl (fun u2 g2 c2 h2 hR2 => kb u2 g2 c2 _ h2 hR2)
  have hx := hx.mv ht2
  refine at_msg (M' := ([.string ⟨(y.at_ 0).s.toArray⟩, c2, .map none] : List Value)) rfl ?_
  refine at_cd ?_
  refine cd_sq ?_
  refine fl_tags (off := 2) rfl hx hg.open.1 (by have := hg.open.2.1; omega) rfl (fun q hq => hq.elim) rfl (fun i hi u b5 mo l tv E N' X' hu hv h0 hnew hL htx hfr kb => ?_) (fun u mv ht hT => ?_)
  · exact fl_setL (off := 2) (hL _ _ rfl) htx Try.underlying221 rfl tipub_kmsg_Tags.size rfl (frs_via hfr (v := .bool true) rfl) (Nat.le_of_ble_eq_true rfl) h0 hnew kb
  have hx := hx.mv ht
  have hF2 := hF2.mv ht
  refine at_msg (M' := ([.string ⟨(y.at_ 0).s.toArray⟩, c2, mv] : List Value)) rfl ?_
  refine at_cd ?_
  have hR : RMp _ F_sDescribeTransactionsResponseTransactionStateTopic y ([.string ⟨(y.at_ 0).s.toArray⟩, c2, mv] : List Value) := ⟨([.string ⟨(y.at_ 0).s.toArray⟩, c2] : List Value), mv, rfl, (RMl_cons (c := [.string ⟨(y.at_ 0).s.toArray⟩]) ((RMf_str (by decide)).2 rfl) (RMl_cons (c := [c2]) (RMf_list.2 ⟨_, rfl, hF2⟩) RMl_nil)), hT⟩
  have hsz : fszs F_sDescribeTransactionsResponseTransactionStateTopic + 1 = 3 := by kernel_rfl
  obtain ⟨hl9, h19⟩ := hR.len
  rw [hsz] at hl9
  refine cd_sr ?_
  refine ln_pv (pv_ldO (i := 0) rfl Try.underlying221 rfl tipub_kmsg_DescribeTransactionsResponseTransactionStateTopic.size rfl hl9) rfl ?_
  refine ln_storeW (i := 2) (vs := ([.string ⟨(y.at_ 0).s.toArray⟩, c2, mv] : List Value)) rfl rfl rfl rfl tipub_kmsg_DescribeTransactionsResponseTransactionStateTopic.size hl9 h19 ?_
  refine ln_cd ?_
  refine cd_ret ?_
  exact at_retC (i := 2) rfl rfl rfl Try.underlying221 rfl tipub_kmsg_DescribeTransactionsResponseTransactionStateTopic.size hl9 (fun w hS => ⟨_, rfl, hR.mv hS.trFin⟩)
theorem make_makeDescribeTransactionsResponseTransactionState (t : Vw) (y : Tre) (cs : List Value) (hx : RT t y cs) (hsm : smT y) (hg : gT y) : CA Try.prog 185 [.agg cs.toArray] t fun u v => ∃ c, v = .agg c.toArray ∧ RMp u F_sDescribeTransactionsResponseTransactionState y c := by
  refine ca_enter Try.func185 rfl Try.ntmps185 rfl ?_
  refine cd_sr ?_
  refine ln_box (l := cs) rfl rfl rfl (fun b1 => ?_)
  refine ln_alloc (l := ([.int .i16 0, .string .empty, .string .empty, .int .i32 0, .int .i64 0, .int .i64 0, .int .i16 0, .slice none 0 0, .map none] : List Value)) tipub_kmsg_DescribeTransactionsResponseTransactionState rfl rfl (fun b2 => ?_)
  refine ln_cd ?_
  refine cd_sr ?_
  refine ln_alloc (l := ([.int .i16 0, .string .empty, .string .empty, .int .i32 0, .int .i64 0, .int .i64 0, .int .i16 0, .slice none 0 0, .map none] : List Value)) tipub_kmsg_DescribeTransactionsResponseTransactionState rfl rfl (fun b3 => ?_)
  refine ln_cd ?_
  refine cd_perm (H' := [MsgBox b3 215 ([.int .i16 0, .string .empty, .string .empty, .int .i32 0, .int .i64 0, .int .i64 0, .int .i16 0, .slice none 0 0, .map none] : List Value), TreeBox b1 cs, MsgBox b2 215 ([.int .i16 0, .string .empty, .string .empty, .int .i32 0, .int .i64 0, .int .i64 0, .int .i16 0, .slice none 0 0, .map none] : List Value)]) (List.Perm.cons _ (List.Perm.swap _ _ _)) ?_
  refine cd_sq ?_
  refine cd_region ?_
  refine ln_at (i0 := 1) (j := 0) rfl rfl hx rfl (fun u1 sS1 sL1 sU1 ht1 hd1 => ?_)
  have hx := hx.mv ht1
  refine ln_pv (pv_field1 (v := .int .i64 (y.at_ 0).n) Try.underlying37 rfl Try.underlying2 rfl lk_eq rfl) rfl ?_
  refine ln_pv (pv_conv' (k := .i64) (i := (y.at_ 0).n) Try.underlying2 Try.underlying49 lk_eq rfl) rfl ?_
  refine ln_pv (pv_fieldAddr (off := 0) (r := 0) Try.underlying215 rfl tiint16.size rfl rfl rfl) rfl ?_
  refine ln_storeM (M' := ([.int .i16 (IntKind.i16.wrap (y.at_ 0).n), .string .empty, .string .empty, .int .i32 0, .int .i64 0, .int .i64 0, .int .i16 0, .slice none 0 0, .map none] : List Value)) rfl rfl rfl tiint16.size (Nat.le_of_ble_eq_true rfl) rfl ?_
  refine ln_nil ?_
  refine at_sub (.skip rfl (.skip rfl (.skip rfl (.skip rfl .rfl')))) ?_
  refine at_cd ?_
  refine cd_sq ?_
  refine cd_region ?_
  refine ln_at (i0 := 1) (j := 1) rfl rfl hx rfl (fun u2 sS2 sL2 sU2 ht2 hd2 => ?_)
  have hx := hx.mv ht2
  have hS2 := hd2.str
  refine ln_pv (pv_field1 (v := sS2) Try.underlying37 rfl Try.underlying22 rfl lk_eq rfl) rfl ?_
  refine ln_pv (pv_b2s hS2 Try.underlying22 Try.underlying5 Try.underlying9 lk_eq) rfl ?_
  refine ln_pv (pv_fieldAddr (off := 1) (r := 1) Try.underlying215 rfl tistring.size rfl rfl rfl) rfl ?_
  refine ln_storeM (M' := ([.int .i16 (IntKind.i16.wrap (y.at_ 0).n), .string ⟨(y.at_ 1).s.toArray⟩, .string .empty, .int .i32 0, .int .i64 0, .int .i64 0, .int .i16 0, .slice none 0 0, .map none] : List Value)) rfl rfl rfl tistring.size (Nat.le_of_ble_eq_true rfl) rfl ?_
  refine ln_nil ?_
  refine at_sub (.skip rfl (.skip rfl (.skip rfl (.skip rfl .rfl')))) ?_
  refine at_cd ?_
  refine cd_sq ?_
  refine cd_region ?_
  refine ln_at (i0 := 1) (j := 2) rfl rfl hx rfl (fun u3 sS3 sL3 sU3 ht3 hd3 => ?_)
  have hx := hx.mv ht3
  have hS3 := hd3.str
  refine ln_pv (pv_field1 (v := sS3) Try.underlying37 rfl Try.underlying22 rfl lk_eq rfl) rfl ?_
  refine ln_pv (pv_b2s hS3 Try.underlying22 Try.underlying5 Try.underlying9 lk_eq) rfl ?_
  refine ln_pv (pv_fieldAddr (off := 2) (r := 2) Try.underlying215 rfl tistring.size rfl rfl rfl) rfl ?_
  refine ln_storeM (M' := ([.int .i16 (IntKind.i16.wrap (y.at_ 0).n), .string ⟨(y.at_ 1).s.toArray⟩, .string ⟨(y.at_ 2).s.toArray⟩, .int .i32 0, .int .i64 0, .int .i64 0, .int .i16 0, .slice none 0 0, .map none] : List Value)) rfl rfl rfl tistring.size (Nat.le_of_ble_eq_true rfl) rfl ?_
  refine ln_nil ?_
  refine at_sub (.skip rfl (.skip rfl (.skip rfl (.skip rfl .rfl')))) ?_
  refine at_cd ?_
  refine cd_sq ?_
  refine cd_region ?_
  refine ln_at (i0 := 1) (j := 3) rfl rfl hx rfl (fun u4 sS4 sL4 sU4 ht4 hd4 => ?_)
  have hx := hx.mv ht4
  refine ln_pv (pv_field1 (v := .int .i64 (y.at_ 3).n) Try.underlying37 rfl Try.underlying2 rfl lk_eq rfl) rfl ?_
  refine ln_pv (pv_conv' (k := .i64) (i := (y.at_ 3).n) Try.underlying2 Try.underlying21 lk_eq rfl) rfl ?_
  refine ln_pv (pv_fieldAddr (off := 3) (r := 3) Try.underlying215 rfl tiint32.size rfl rfl rfl) rfl ?_
  refine ln_storeM (M' := ([.int .i16 (IntKind.i16.wrap (y.at_ 0).n), .string ⟨(y.at_ 1).s.toArray⟩, .string ⟨(y.at_ 2).s.toArray⟩, .int .i32 (IntKind.i32.wrap (y.at_ 3).n), .int .i64 0, .int .i64 0, .int .i16 0, .slice none 0 0, .map none] : List Value)) rfl rfl rfl tiint32.size (Nat.le_of_ble_eq_true rfl) rfl ?_
  refine ln_nil ?_
  refine at_sub (.skip rfl (.skip rfl (.skip rfl (.skip rfl .rfl')))) ?_
  refine at_cd ?_
  refine cd_sq ?_
  refine cd_region ?_
  refine ln_at (i0 := 1) (j := 4) rfl rfl hx rfl (fun u5 sS5 sL5 sU5 ht5 hd5 => ?_)
  have hx := hx.mv ht5
  refine ln_pv (pv_field1 (v := .int .i64 (y.at_ 4).n) Try.underlying37 rfl Try.underlying2 rfl lk_eq rfl) rfl ?_
  have hI5 := hd5.i64
  refine ln_pv (pv_fieldAddr (off := 4) (r := 4) Try.underlying215 rfl tiint64.size rfl rfl rfl) rfl ?_
  refine ln_storeM (M' := ([.int .i16 (IntKind.i16.wrap (y.at_ 0).n), .string ⟨(y.at_ 1).s.toArray⟩, .string ⟨(y.at_ 2).s.toArray⟩, .int .i32 (IntKind.i32.wrap (y.at_ 3).n), .int .i64 (y.at_ 4).n, .int .i64 0, .int .i16 0, .slice none 0 0, .map none] : List Value)) rfl rfl rfl tiint64.size (Nat.le_of_ble_eq_true rfl) rfl ?_
  refine ln_nil ?_
  refine at_sub (.skip rfl (.skip rfl (.skip rfl .rfl'))) ?_
  refine at_cd ?_
  refine cd_sq ?_
  refine cd_region ?_
  refine ln_at (i0 := 1) (j := 5) rfl rfl hx rfl (fun u6 sS6 sL6 sU6 ht6 hd6 => ?_)
  have hx := hx.mv ht6
  refine ln_pv (pv_field1 (v := .int .i64 (y.at_ 5).n) Try.underlying37 rfl Try.underlying2 rfl lk_eq rfl) rfl ?_
  have hI6 := hd6.i64
  refine ln_pv (pv_fieldAddr (off := 5) (r := 5) Try.underlying215 rfl tiint64.size rfl rfl rfl) rfl ?_
  refine ln_storeM (M' := ([.int .i16 (IntKind.i16.wrap (y.at_ 0).n), .string ⟨(y.at_ 1).s.toArray⟩, .string ⟨(y.at_ 2).s.toArray⟩, .int .i32 (IntKind.i32.wrap (y.at_ 3).n), .int .i64 (y.at_ 4).n, .int .i64 (y.at_ 5).n, .int .i16 0, .slice none 0 0, .map none] : List Value)) rfl rfl rfl tiint64.size (Nat.le_of_ble_eq_true rfl) rfl ?_
  refine ln_nil ?_
  refine at_sub (.skip rfl (.skip rfl (.skip rfl .rfl'))) ?_
  refine at_cd ?_
  refine cd_sq ?_
  refine cd_region ?_
  refine ln_at (i0 := 1) (j := 6) rfl rfl hx rfl (fun u7 sS7 sL7 sU7 ht7 hd7 => ?_)
  have hx := hx.mv ht7
  refine ln_pv (pv_field1 (v := .int .i64 (y.at_ 6).n) Try.underlying37 rfl Try.underlying2 rfl lk_eq rfl) rfl ?_
  refine ln_pv (pv_conv' (k := .i64) (i := (y.at_ 6).n) Try.underlying2 Try.underlying49 lk_eq rfl) rfl ?_
  refine ln_pv (pv_fieldAddr (off := 6) (r := 6) Try.underlying215 rfl tiint16.size rfl rfl rfl) rfl ?_
  refine ln_storeM (M' := ([.int .i16 (IntKind.i16.wrap (y.at_ 0).n), .string ⟨(y.at_ 1).s.toArray⟩, .string ⟨(y.at_ 2).s.toArray⟩, .int .i32 (IntKind.i32.wrap (y.at_ 3).n), .int .i64 (y.at_ 4).n, .int .i64 (y.at_ 5).n, .int .i16 (IntKind.i16.wrap (y.at_ 6).n), .slice none 0 0, .map none] : List Value)) rfl rfl rfl tiint16.size (Nat.le_of_ble_eq_true rfl) rfl ?_
  refine ln_nil ?_
  refine at_sub (.skip rfl (.skip rfl (.skip rfl (.skip rfl .rfl')))) ?_
  refine at_cd ?_
  refine cd_sq ?_
  refine fl_nl (o := 10) (sb := F_sDescribeTransactionsResponseTransactionStateTopic) (j := 7) (off := 7) rfl hx rfl rfl (fun u8 c8 ht8 hF8 => ?_) (fun hz u8a hu8 kk => ?_)
  rotate_left
  · skip
    have hx := hx.mv hu8
    have hle8 : (y.at_ 7).l.length ≤ 32767 := (hg.at_ 7).open.2.2.1
    refine cd_sq ?_
    refine fl_makeL (ez := 3) (j := 7) (off := 7) rfl rfl hx hle8 Try.underlying215 rfl rfl tiSl_kmsg_DescribeTransactionsResponseTransactionStateTopic.size rfl Try.underlying213 tipub_kmsg_DescribeTransactionsResponseTransactionStateTopic (by decide) rfl (Nat.le_of_ble_eq_true rfl) (fun u8b g8 cap8 hb8 => ?_)
    have hx := hx.mv hb8
    refine at_cd ?_
    refine fl_list (o := 10) (sb := F_sDescribeTransactionsResponseTransactionStateTopic) (j := 7) (off := 7) (ez := 3) (by kernel_rfl) rfl hx hle8 hz rfl (fun q hq => hq.elim) rfl (fun i hi u b5 g cap xs ci sl N' X' hu hxl hci kb => ?_) (fun u c hu hF => kk u c (hb8.trans hu) hF)
    have hmk : ∀ u2, Tr u u2 → CA Try.prog 203 [.agg ci.toArray] u2 fun u3 v => ∃ c, v = .agg c.toArray ∧ RMp u3 F_sDescribeTransactionsResponseTransactionStateTopic (y.at_ 7).l[i] c := fun u2 h2 => make_makeDescribeTransactionsResponseTransactionStateTopic u2 _ _ (hci.mv h2) (smTs.mem (hsm.at_ 7).open.2.2.2 _ (List.getElem_mem hi)) (gTs.mem (hg.at_ 7).open.2.2.2 _ (List.getElem_mem hi))
    exact fl_appLS (sb := F_sDescribeTransactionsResponseTransactionStateTopic) (off := 7) rfl rfl Try.underlying215 rfl rfl tiSl_kmsg_DescribeTransactionsResponseTransactionStateTopic.size rfl Try.underlying213 tipub_kmsg_DescribeTransactionsResponseTransactionStateTopic rfl (by decide) (by decide) (by decide) (by kernel_rfl) en_203 hci.len hmk rfl (Nat.le_of_ble_eq_true rfl) (by omega) hxl (by kernel_rfl) (by kernel_rfl) kb
  have hx := hx.mv ht8
  refine at_msg (M' := ([.int .i16 (IntKind.i16.wrap (y.at_ 0).n), .string ⟨(y.at_ 1).s.toArray⟩, .string ⟨(y.at_ 2).s.toArray⟩, .int .i32 (IntKind.i32.wrap (y.at_ 3).n), .int .i64 (y.at_ 4).n, .int .i64 (y.at_ 5).n, .int .i16 (IntKind.i16.wrap (y.at_ 6).n), c8, .map none] : List Value)) rfl ?_
  refine at_cd ?_
  refine cd_sq ?_
  refine fl_tags (off := 8) rfl hx hg.open.1 (by have := hg.open.2.1; omega) rfl (fun q hq => hq.elim) rfl (fun i hi u b5 mo l tv E N' X' hu hv h0 hnew hL htx hfr kb => ?_) (fun u mv ht hT => ?_)
  · exact fl_setL (off := 8) (hL _ _ rfl) htx Try.underlying215 rfl tipub_kmsg_Tags.size rfl (frs_via hfr (v := .bool true) rfl) (Nat.le_of_ble_eq_true rfl) h0 hnew kb
  have hx := hx.mv ht
  have hF8 := hF8.mv ht
  refine at_msg (M' := ([.int .i16 (IntKind.i16.wrap (y.at_ 0).n), .string ⟨(y.at_ 1).s.toArray⟩, .string ⟨(y.at_ 2).s.toArray⟩, .int .i32 (IntKind.i32.wrap (y.at_ 3).n), .int .i64 (y.at_ 4).n, .int .i64 (y.at_ 5).n, .int .i16 (IntKind.i16.wrap (y.at_ 6).n), c8, mv] : List Value)) rfl ?_
  refine at_cd ?_
  have hR : RMp _ F_sDescribeTransactionsResponseTransactionState y ([.int .i16 (IntKind.i16.wrap (y.at_ 0).n), .string ⟨(y.at_ 1).s.toArray⟩, .string ⟨(y.at_ 2).s.toArray⟩, .int .i32 (IntKind.i32.wrap (y.at_ 3).n), .int .i64 (y.at_ 4).n, .int .i64 (y.at_ 5).n, .int .i16 (IntKind.i16.wrap (y.at_ 6).n), c8, mv] : List Value) := ⟨([.int .i16 (IntKind.i16.wrap (y.at_ 0).n), .string ⟨(y.at_ 1).s.toArray⟩, .string ⟨(y.at_ 2).s.toArray⟩, .int .i32 (IntKind.i32.wrap (y.at_ 3).n), .int .i64 (y.at_ 4).n, .int .i64 (y.at_ 5).n, .int .i16 (IntKind.i16.wrap (y.at_ 6).n), c8] : List Value), mv, rfl, (RMl_cons (c := [.int .i16 (IntKind.i16.wrap (y.at_ 0).n)]) (RMf_i16.2 rfl) (RMl_cons (c := [.string ⟨(y.at_ 1).s.toArray⟩]) ((RMf_str (by decide)).2 rfl) (RMl_cons (c := [.string ⟨(y.at_ 2).s.toArray⟩]) ((RMf_str (by decide)).2 rfl) (RMl_cons (c := [.int .i32 (IntKind.i32.wrap (y.at_ 3).n)]) (RMf_i32.2 rfl) (RMl_cons (c := [.int .i64 (y.at_ 4).n]) (RMf_i64.2 ⟨rfl, hI5⟩) (RMl_cons (c := [.int .i64 (y.at_ 5).n]) (RMf_i64.2 ⟨rfl, hI6⟩) (RMl_cons (c := [.int .i16 (IntKind.i16.wrap (y.at_ 6).n)]) (RMf_i16.2 rfl) (RMl_cons (c := [c8]) (RMf_list.2 ⟨_, rfl, hF8⟩) RMl_nil)))))))), hT⟩
  have hsz : fszs F_sDescribeTransactionsResponseTransactionState + 1 = 9 := by kernel_rfl
  obtain ⟨hl9, h19⟩ := hR.len
  rw [hsz] at hl9
  refine cd_sr ?_
  refine ln_pv (pv_ldO (i := 0) rfl Try.underlying215 rfl tipub_kmsg_DescribeTransactionsResponseTransactionState.size rfl hl9) rfl ?_
  refine ln_storeW (i := 2) (vs := ([.int .i16 (IntKind.i16.wrap (y.at_ 0).n), .string ⟨(y.at_ 1).s.toArray⟩, .string ⟨(y.at_ 2).s.toArray⟩, .int .i32 (IntKind.i32.wrap (y.at_ 3).n), .int .i64 (y.at_ 4).n, .int .i64 (y.at_ 5).n, .int .i16 (IntKind.i16.wrap (y.at_ 6).n), c8, mv] : List Value)) rfl rfl rfl rfl tipub_kmsg_DescribeTransactionsResponseTransactionState.size hl9 h19 ?_
  refine ln_cd ?_
  refine cd_ret ?_
  exact at_retC (i := 2) rfl rfl rfl Try.underlying215 rfl tipub_kmsg_DescribeTransactionsResponseTransactionState.size hl9 (fun w hS => ⟨_, rfl, hR.mv hS.trFin⟩)
theorem fill_DescribeTransactionsResponse (t : Vw) (b : Nat) (v : Int) (y : Tre) (cs : List Value) (hx : RT t y cs) (hsm : smT y) (hg : gT y) (hok : (MsgBox b 128 ([.int .i16 v, .int .i32 0, .slice none 0 0, .map none] : List Value)).ok t.w) (hav : ∀ q ∈ (MsgBox b 128 ([.int .i16 v, .int .i32 0, .slice none 0 0, .map none] : List Value)).blk, t.av q) : CT Try.prog 124 [.pointer (some ⟨b, 0, none⟩), .agg cs.toArray] t (MsgBox b 128 ([.int .i16 v, .int .i32 0, .slice none 0 0, .map none] : List Value)) fun u r e' => ∃ cells, e' = MsgBox b 128 (.int .i16 v :: cells) ∧ RMp u F_DescribeTransactionsResponse y cells := by
  refine ct_enter Try.func124 rfl Try.ntmps124 rfl hok hav (by simp [Ent.blk]) ?_
  refine cd_sr ?_
  refine ln_box (l := cs) rfl rfl rfl (fun b1 => ?_)
  refine ln_cd ?_
  refine cd_perm (H' := [MsgBox b 128 ([.int .i16 v, .int .i32 0, .slice none 0 0, .map none] : List Value), TreeBox b1 cs]) (List.Perm.swap _ _ _) ?_
  refine cd_sq ?_
  refine cd_region ?_
  refine ln_pv (pv_move rfl) rfl ?_
  refine ln_at (i0 := 1) (j := 0) rfl rfl hx rfl (fun u1 sS1 sL1 sU1 ht1 hd1 => ?_)
  have hx := hx.mv ht1
  refine ln_pv (pv_field1 (v := .int .i64 (y.at_ 0).n) Try.underlying37 rfl Try.underlying2 rfl lk_eq rfl) rfl ?_
  refine ln_pv (pv_conv' (k := .i64) (i := (y.at_ 0).n) Try.underlying2 Try.underlying21 lk_eq rfl) rfl ?_
  refine ln_pv (pv_nilCheck rfl) rfl ?_
  refine ln_pv (pv_fieldAddr (off := 1) (r := 1) Try.underlying128 rfl tiint32.size rfl rfl rfl) rfl ?_
  refine ln_storeM (M' := ([.int .i16 v, .int .i32 (IntKind.i32.wrap (y.at_ 0).n), .slice none 0 0, .map none] : List Value)) rfl rfl rfl tiint32.size (Nat.le_of_ble_eq_true rfl) rfl ?_
  refine ln_nil ?_
  refine at_sub (.skip rfl (.skip rfl (.skip rfl (.skip rfl (.skip rfl (.skip rfl .rfl')))))) ?_
  refine at_cd ?_
  refine cd_sq ?_
  refine fl_nl (o := 10) (sb := F_sDescribeTransactionsResponseTransactionState) (j := 1) (off := 2) rfl hx rfl rfl (fun u2 c2 ht2 hF2 => ?_) (fun hz u2a hu2 kk => ?_)
  rotate_left
  · skip
    have hx := hx.mv hu2
    have hle2 : (y.at_ 1).l.length ≤ 32767 := (hg.at_ 1).open.2.2.1
    refine cd_sq ?_
    refine fl_makeP (ez := 9) (j := 1) (off := 2) rfl rfl hx hle2 Try.underlying128 rfl rfl tiSl_kmsg_DescribeTransactionsResponseTransactionState.size rfl Try.underlying126 tipub_kmsg_DescribeTransactionsResponseTransactionState (by decide) rfl (Nat.le_of_ble_eq_true rfl) (fun u2b g2 cap2 hb2 => ?_)
    have hx := hx.mv hb2
    refine at_cd ?_
    refine fl_list (o := 10) (sb := F_sDescribeTransactionsResponseTransactionState) (j := 1) (off := 2) (ez := 9) (by kernel_rfl) rfl hx hle2 hz rfl (fun q hq => by simpa [Ent.blk] using hq) rfl (fun i hi u b5 g cap xs ci sl N' X' hu hxl hci kb => ?_) (fun u c hu hF => kk u c (hb2.trans hu) hF)
    have hmk : ∀ u2, Tr u u2 → CA Try.prog 185 [.agg ci.toArray] u2 fun u3 v => ∃ c, v = .agg c.toArray ∧ RMp u3 F_sDescribeTransactionsResponseTransactionState (y.at_ 1).l[i] c := fun u2 h2 => make_makeDescribeTransactionsResponseTransactionState u2 _ _ (hci.mv h2) (smTs.mem (hsm.at_ 1).open.2.2.2 _ (List.getElem_mem hi)) (gTs.mem (hg.at_ 1).open.2.2.2 _ (List.getElem_mem hi))
    exact fl_appPS (sb := F_sDescribeTransactionsResponseTransactionState) (off := 2) rfl rfl Try.underlying128 rfl rfl tiSl_kmsg_DescribeTransactionsResponseTransactionState.size rfl Try.underlying126 tipub_kmsg_DescribeTransactionsResponseTransactionState rfl (by decide) (by decide) (by decide) (by kernel_rfl) en_185 hci.len hmk rfl (Nat.le_of_ble_eq_true rfl) (by omega) hxl (by kernel_rfl) (by kernel_rfl) kb
  have hx := hx.mv ht2
  refine at_msg (M' := ([.int .i16 v, .int .i32 (IntKind.i32.wrap (y.at_ 0).n), c2, .map none] : List Value)) rfl ?_
  refine at_cd ?_
  refine fl_tags (off := 3) rfl hx hg.open.1 (by have := hg.open.2.1; omega) rfl (fun q hq => by simpa [Ent.blk] using hq) rfl (fun i hi u b5 mo l tv E N' X' hu hv h0 hnew hL htx hfr kb => ?_) (fun u mv ht hT => ?_)
  · exact fl_setP (off := 3) (hL _ _ rfl) htx Try.underlying128 rfl tipub_kmsg_Tags.size rfl (frs_via hfr (v := .bool true) rfl) (Nat.le_of_ble_eq_true rfl) h0 hnew (by kernel_rfl) kb
  have hx := hx.mv ht
  have hF2 := hF2.mv ht
  refine at_msg (M' := ([.int .i16 v, .int .i32 (IntKind.i32.wrap (y.at_ 0).n), c2, mv] : List Value)) rfl ?_
  have hR : RMp _ F_DescribeTransactionsResponse y ([.int .i32 (IntKind.i32.wrap (y.at_ 0).n), c2, mv] : List Value) := ⟨([.int .i32 (IntKind.i32.wrap (y.at_ 0).n), c2] : List Value), mv, rfl, (RMl_cons (c := [.int .i32 (IntKind.i32.wrap (y.at_ 0).n)]) (RMf_i32.2 rfl) (RMl_cons (c := [c2]) (RMf_list.2 ⟨_, rfl, hF2⟩) RMl_nil)), hT⟩
  exact at_retT0 (i := 0) rfl rfl (fun w hS => ⟨_, rfl, hR.mv (hS.trFinT _ _)⟩)
end K
end Go.Proofs.Ytmknncmdbmnmgaa
