import Derived.Test.YtmknncmdbmnmgaaB5
import Derived.Test.YtmknncmdbmnmgaaMgs
set_option linter.unusedVariables false
set_option linter.unusedSimpArgs false
namespace Go.Proofs.Ytmknncmdbmnmgaa
namespace K
open Go Go.Lib
theorem make_makeListTransactionsResponseTransactionState (t : Vw) (y : Tre) (cs : List Value) (hx : RT t y cs) (hsm : smT y) (hg : gT y) : CA Try.prog 174 [.agg cs.toArray] t fun u v => ∃ c, v = .agg c.toArray ∧ RMp u F_sListTransactionsResponseTransactionState y c := by
  refine ca_enter Try.func174 rfl Try.ntmps174 rfl ?_
  refine cd_sr ?_
  refine ln_box (l := cs) rfl rfl rfl (fun b1 => ?_)
  refine ln_alloc (l := ([.string .empty, .int .i64 0, .string .empty, .map none] : List Value)) tipub_kmsg_ListTransactionsResponseTransactionState rfl rfl (fun b2 => ?_)
  refine ln_cd ?_
  refine cd_sr ?_
  refine ln_alloc (l := ([.string .empty, .int .i64 0, .string .empty, .map none] : List Value)) tipub_kmsg_ListTransactionsResponseTransactionState rfl rfl (fun b3 => ?_)
  refine ln_cd ?_
  refine cd_perm (H' := [MsgBox b3 190 ([.string .empty, .int .i64 0, .string .empty, .map none] : List Value), TreeBox b1 cs, MsgBox b2 190 ([.string .empty, .int .i64 0, .string .empty, .map none] : List Value)]) (List.Perm.cons _ (List.Perm.swap _ _ _)) ?_
  refine cd_sq ?_
  refine cd_region ?_
  refine ln_at (i0 := 1) (j := 0) rfl rfl hx rfl (fun u1 sS1 sL1 sU1 ht1 hd1 => ?_)
  have hx := hx.mv ht1
  have hS1 := hd1.str
  refine ln_pv (pv_field1 (v := sS1) Try.underlying37 rfl Try.underlying22 rfl lk_eq rfl) rfl ?_
  refine ln_pv (pv_b2s hS1 Try.underlying22 Try.underlying5 Try.underlying9 lk_eq) rfl ?_
  refine ln_pv (pv_fieldAddr (off := 0) (r := 0) Try.underlying190 rfl tistring.size rfl rfl rfl) rfl ?_
  refine ln_storeM (M' := ([.string ⟨(y.at_ 0).s.toArray⟩, .int .i64 0, .string .empty, .map none] : List Value)) rfl rfl rfl tistring.size (Nat.le_of_ble_eq_true rfl) rfl ?_
  refine ln_nil ?_
  refine at_sub (.skip rfl (.skip rfl (.skip rfl (.skip rfl .rfl')))) ?_
  refine at_cd ?_
  refine cd_sq ?_
  refine cd_region ?_
  refine ln_at (i0 := 1) (j := 1) rfl rfl hx rfl (fun u2 sS2 sL2 sU2 ht2 hd2 => ?_)
  have hx := hx.mv ht2
  refine ln_pv (pv_field1 (v := .int .i64 (y.at_ 1).n) Try.underlying37 rfl Try.underlying2 rfl lk_eq rfl) rfl ?_
  have hI2 := hd2.i64
  refine ln_pv (pv_fieldAddr (off := 1) (r := 1) Try.underlying190 rfl tiint64.size rfl rfl rfl) rfl ?_
  refine ln_storeM (M' := ([.string ⟨(y.at_ 0).s.toArray⟩, .int .i64 (y.at_ 1).n, .string .empty, .map none] : List Value)) rfl rfl rfl tiint64.size (Nat.le_of_ble_eq_true rfl) rfl ?_
  refine ln_nil ?_
  refine at_sub (.skip rfl (.skip rfl (.skip rfl .rfl'))) ?_
  refine at_cd ?_
  refine cd_sq ?_
  refine cd_region ?_
  refine ln_at (i0 := 1) (j := 2) rfl rfl hx rfl (fun u3 sS3 sL3 sU3 ht3 hd3 => ?_)
  have hx := hx.mv ht3
  have hS3 := hd3.str
  refine ln_pv (pv_field1 (v := sS3) Try.underlying37 rfl Try.underlying22 rfl lk_eq rfl) rfl ?_
  refine ln_pv (pv_b2s hS3 Try.underlying22 Try.underlying5 Try.underlying9 lk_eq) rfl ?_
  refine ln_pv (pv_fieldAddr (off := 2) (r := 2) Try.underlying190 rfl tistring.size rfl rfl rfl) rfl ?_
  refine ln_storeM (M' := ([.string ⟨(y.at_ 0).s.toArray⟩, .int .i64 (y.at_ 1).n, .string ⟨(y.at_ 2).s.toArray⟩, .map none] : List Value)) rfl rfl rfl tistring.size (Nat.le_of_ble_eq_true rfl) rfl ?_
  refine ln_nil ?_
  refine at_sub (.skip rfl (.skip rfl (.skip rfl (.skip rfl .rfl')))) ?_
  refine at_cd ?_
  refine cd_sq ?_
  refine fl_tags (off := 3) rfl hx hg.open.1 (by have := hg.open.2.1; omega) rfl (fun q hq => hq.elim) rfl (fun i hi u b5 mo l tv E N' X' hu hv h0 hnew hL htx hfr kb => ?_) (fun u mv ht hT => ?_)
  · exact fl_setL (off := 3) (hL _ _ rfl) htx Try.underlying190 rfl tipub_kmsg_Tags.size rfl (frs_via hfr (v := .bool true) rfl) (Nat.le_of_ble_eq_true rfl) h0 hnew kb
  have hx := hx.mv ht
  refine at_msg (M' := ([.string ⟨(y.at_ 0).s.toArray⟩, .int .i64 (y.at_ 1).n, .string ⟨(y.at_ 2).s.toArray⟩, mv] : List Value)) rfl ?_
  refine at_cd ?_
  have hR : RMp _ F_sListTransactionsResponseTransactionState y ([.string ⟨(y.at_ 0).s.toArray⟩, .int .i64 (y.at_ 1).n, .string ⟨(y.at_ 2).s.toArray⟩, mv] : List Value) := ⟨([.string ⟨(y.at_ 0).s.toArray⟩, .int .i64 (y.at_ 1).n, .string ⟨(y.at_ 2).s.toArray⟩] : List Value), mv, rfl, (RMl_cons (c := [.string ⟨(y.at_ 0).s.toArray⟩]) ((RMf_str (by decide)).2 rfl) (RMl_cons (c := [.int .i64 (y.at_ 1).n]) (RMf_i64.2 ⟨rfl, hI2⟩) (RMl_cons (c := [.string ⟨(y.at_ 2).s.toArray⟩]) ((RMf_str (by decide)).2 rfl) RMl_nil))), hT⟩
  have hsz : fszs F_sListTransactionsResponseTransactionState + 1 = 4 := by kernel_rfl
  obtain ⟨hl9, h19⟩ := hR.len
  rw [hsz] at hl9
  refine cd_sr ?_
  refine ln_pv (pv_ldO (i := 0) rfl Try.underlying190 rfl tipub_kmsg_ListTransactionsResponseTransactionState.size rfl hl9) rfl ?_
  refine ln_storeW (i := 2) (vs := ([.string ⟨(y.at_ 0).s.toArray⟩, .int .i64 (y.at_ 1).n, .string ⟨(y.at_ 2).s.toArray⟩, mv] : List Value)) rfl rfl rfl rfl tipub_kmsg_ListTransactionsResponseTransactionState.size hl9 h19 ?_
  refine ln_cd ?_
  refine cd_ret ?_
  exact at_retC (i := 2) rfl rfl rfl Try.underlying190 rfl tipub_kmsg_ListTransactionsResponseTransactionState.size hl9 (fun w hS => ⟨_, rfl, hR.mv hS.trFin⟩)
theorem fill_ListTransactionsResponse (t : Vw) (b : Nat) (v : Int) (y : Tre) (cs : List Value) (hx : RT t y cs) (hsm : smT y) (hg : gT y) (hok : (MsgBox b 104 ([.int .i16 v, .int .i32 0, .int .i16 0, .slice none 0 0, .slice none 0 0, .map none] : List Value)).ok t.w) (hav : ∀ q ∈ (MsgBox b 104 ([.int .i16 v, .int .i32 0, .int .i16 0, .slice none 0 0, .slice none 0 0, .map none] : List Value)).blk, t.av q) : CT Try.prog 100 [.pointer (some ⟨b, 0, none⟩), .agg cs.toArray] t (MsgBox b 104 ([.int .i16 v, .int .i32 0, .int .i16 0, .slice none 0 0, .slice none 0 0, .map none] : List Value)) fun u r e' => ∃ cells, e' = MsgBox b 104 (.int .i16 v :: cells) ∧ RMp u F_ListTransactionsResponse y cells := by
  refine ct_enter Try.func100 rfl Try.ntmps100 rfl hok hav (by simp [Ent.blk]) ?_
  refine cd_sr ?_
  refine ln_box (l := cs) rfl rfl rfl (fun b1 => ?_)
  refine ln_cd ?_
  refine cd_perm (H' := [MsgBox b 104 ([.int .i16 v, .int .i32 0, .int .i16 0, .slice none 0 0, .slice none 0 0, .map none] : List Value), TreeBox b1 cs]) (List.Perm.swap _ _ _) ?_
  refine cd_sq ?_
  refine cd_region ?_
  refine ln_pv (pv_move rfl) rfl ?_
  refine ln_at (i0 := 1) (j := 0) rfl rfl hx rfl (fun u1 sS1 sL1 sU1 ht1 hd1 => ?_)
  have hx := hx.mv ht1
  refine ln_pv (pv_field1 (v := .int .i64 (y.at_ 0).n) Try.underlying37 rfl Try.underlying2 rfl lk_eq rfl) rfl ?_
  refine ln_pv (pv_conv' (k := .i64) (i := (y.at_ 0).n) Try.underlying2 Try.underlying21 lk_eq rfl) rfl ?_
  refine ln_pv (pv_nilCheck rfl) rfl ?_
  refine ln_pv (pv_fieldAddr (off := 1) (r := 1) Try.underlying104 rfl tiint32.size rfl rfl rfl) rfl ?_
  refine ln_storeM (M' := ([.int .i16 v, .int .i32 (IntKind.i32.wrap (y.at_ 0).n), .int .i16 0, .slice none 0 0, .slice none 0 0, .map none] : List Value)) rfl rfl rfl tiint32.size (Nat.le_of_ble_eq_true rfl) rfl ?_
  refine ln_nil ?_
  refine at_sub (.skip rfl (.skip rfl (.skip rfl (.skip rfl (.skip rfl (.skip rfl .rfl')))))) ?_
  refine at_cd ?_
  refine cd_sq ?_
  refine cd_region ?_
  refine ln_pv (pv_move rfl) rfl ?_
  refine ln_at (i0 := 1) (j := 1) rfl rfl hx rfl (fun u2 sS2 sL2 sU2 ht2 hd2 => ?_)
  have hx := hx.mv ht2
  refine ln_pv (pv_field1 (v := .int .i64 (y.at_ 1).n) Try.underlying37 rfl Try.underlying2 rfl lk_eq rfl) rfl ?_
  refine ln_pv (pv_conv' (k := .i64) (i := (y.at_ 1).n) Try.underlying2 Try.underlying49 lk_eq rfl) rfl ?_
  refine ln_pv (pv_nilCheck rfl) rfl ?_
  refine ln_pv (pv_fieldAddr (off := 2) (r := 2) Try.underlying104 rfl tiint16.size rfl rfl rfl) rfl ?_
  refine ln_storeM (M' := ([.int .i16 v, .int .i32 (IntKind.i32.wrap (y.at_ 0).n), .int .i16 (IntKind.i16.wrap (y.at_ 1).n), .slice none 0 0, .slice none 0 0, .map none] : List Value)) rfl rfl rfl tiint16.size (Nat.le_of_ble_eq_true rfl) rfl ?_
  refine ln_nil ?_
  refine at_sub (.skip rfl (.skip rfl (.skip rfl (.skip rfl (.skip rfl (.skip rfl .rfl')))))) ?_
  refine at_cd ?_
  refine cd_sq ?_
  refine fl_nl (o := 8) (sb := []) (j := 2) (off := 3) rfl hx rfl rfl (fun u3 c3 ht3 hF3 => ?_) (fun hz u3a hu3 kk => ?_)
  rotate_left
  · skip
    have hx := hx.mv hu3
    have hle3 : (y.at_ 2).l.length ≤ 32767 := (hg.at_ 2).open.2.2.1
    refine cd_sq ?_
    refine fl_makeP (ez := 1) (j := 2) (off := 3) rfl rfl hx hle3 Try.underlying104 rfl rfl tiSl_string.size rfl Try.underlying101 tistring (by decide) rfl (Nat.le_of_ble_eq_true rfl) (fun u3b g3 cap3 hb3 => ?_)
    have hx := hx.mv hb3
    refine at_cd ?_
    refine fl_list (o := 8) (sb := []) (j := 2) (off := 3) (ez := 1) (by decide) rfl hx hle3 hz rfl (fun q hq => by simpa [Ent.blk] using hq) rfl (fun i hi u b5 g cap xs ci sl N' X' hu hxl hci kb => ?_) (fun u c hu hF => kk u c (hb3.trans hu) hF)
    obtain ⟨sS, sL, sU, rfl, hn5, hS5, _, _⟩ := hci.open
    exact fl_appPN (o := 8) (sb := []) (off := 3) (kt := 1) (v7 := .string ⟨(y.at_ 2).l[i].s.toArray⟩) (y := (y.at_ 2).l[i]) rfl rfl Try.underlying104 rfl rfl tiSl_string.size rfl Try.underlying101 tistring rfl (by decide) Try.underlying37 rfl tiSl_uint8.size rfl Try.underlying22 rfl rfl (fun _ _ h => pv_b2s hS5 Try.underlying22 Try.underlying5 Try.underlying9 h) rfl (by decide) (by simp [RS1]) rfl (Nat.le_of_ble_eq_true rfl) (by omega) hxl (by kernel_rfl) (by kernel_rfl) (fun u2 g2 c2 h2 hR2 => kb u2 g2 c2 _ h2 hR2)
  have hx := hx.mv ht3
  refine at_msg (M' := ([.int .i16 v, .int .i32 (IntKind.i32.wrap (y.at_ 0).n), .int .i16 (IntKind.i16.wrap (y.at_ 1).n), c3, .slice none 0 0, .map none] : List Value)) rfl ?_
  refine at_cd ?_
  refine cd_sq ?_
  refine fl_nl (o := 10) (sb := F_sListTransactionsResponseTransactionState) (j := 3) (off := 4) rfl hx rfl rfl (fun u4 c4 ht4 hF4 => ?_) (fun hz u4a hu4 kk => ?_)
  rotate_left
  · skip
    have hx := hx.mv hu4
    have hF3 := hF3.mv hu4
    have hle4 : (y.at_ 3).l.length ≤ 32767 := (hg.at_ 3).open.2.2.1
    refine cd_sq ?_
    refine fl_makeP (ez := 4) (j := 3) (off := 4) rfl rfl hx hle4 Try.underlying104 rfl rfl tiSl_kmsg_ListTransactionsResponseTransactionState.size rfl Try.underlying102 tipub_kmsg_ListTransactionsResponseTransactionState (by decide) rfl (Nat.le_of_ble_eq_true rfl) (fun u4b g4 cap4 hb4 => ?_)
    have hx := hx.mv hb4
    have hF3 := hF3.mv hb4
    refine at_cd ?_
    refine fl_list (o := 10) (sb := F_sListTransactionsResponseTransactionState) (j := 3) (off := 4) (ez := 4) (by kernel_rfl) rfl hx hle4 hz rfl (fun q hq => by simpa [Ent.blk] using hq) rfl (fun i hi u b5 g cap xs ci sl N' X' hu hxl hci kb => ?_) (fun u c hu hF => kk u c (hb4.trans hu) hF)
    have hmk : ∀ u2, Tr u u2 → CA Try.prog 174 [.agg ci.toArray] u2 fun u3 v => ∃ c, v = .agg c.toArray ∧ RMp u3 F_sListTransactionsResponseTransactionState (y.at_ 3).l[i] c := fun u2 h2 => make_makeListTransactionsResponseTransactionState u2 _ _ (hci.mv h2) (smTs.mem (hsm.at_ 3).open.2.2.2 _ (List.getElem_mem hi)) (gTs.mem (hg.at_ 3).open.2.2.2 _ (List.getElem_mem hi))
    exact fl_appPS (sb := F_sListTransactionsResponseTransactionState) (off := 4) rfl rfl Try.underlying104 rfl rfl tiSl_kmsg_ListTransactionsResponseTransactionState.size rfl Try.underlying102 tipub_kmsg_ListTransactionsResponseTransactionState rfl (by decide) (by decide) (by decide) (by kernel_rfl) en_174 hci.len hmk rfl (Nat.le_of_ble_eq_true rfl) (by omega) hxl (by kernel_rfl) (by kernel_rfl) kb
  have hx := hx.mv ht4
  have hF3 := hF3.mv ht4
  refine at_msg (M' := ([.int .i16 v, .int .i32 (IntKind.i32.wrap (y.at_ 0).n), .int .i16 (IntKind.i16.wrap (y.at_ 1).n), c3, c4, .map none] : List Value)) rfl ?_
  refine at_cd ?_
  refine fl_tags (off := 5) rfl hx hg.open.1 (by have := hg.open.2.1; omega) rfl (fun q hq => by simpa [Ent.blk] using hq) rfl (fun i hi u b5 mo l tv E N' X' hu hv h0 hnew hL htx hfr kb => ?_) (fun u mv ht hT => ?_)
  · exact fl_setP (off := 5) (hL _ _ rfl) htx Try.underlying104 rfl tipub_kmsg_Tags.size rfl (frs_via hfr (v := .bool true) rfl) (Nat.le_of_ble_eq_true rfl) h0 hnew (by kernel_rfl) kb
  have hx := hx.mv ht
  have hF3 := hF3.mv ht
  have hF4 := hF4.mv ht
  refine at_msg (M' := ([.int .i16 v, .int .i32 (IntKind.i32.wrap (y.at_ 0).n), .int .i16 (IntKind.i16.wrap (y.at_ 1).n), c3, c4, mv] : List Value)) rfl ?_
  have hR : RMp _ F_ListTransactionsResponse y ([.int .i32 (IntKind.i32.wrap (y.at_ 0).n), .int .i16 (IntKind.i16.wrap (y.at_ 1).n), c3, c4, mv] : List Value) := ⟨([.int .i32 (IntKind.i32.wrap (y.at_ 0).n), .int .i16 (IntKind.i16.wrap (y.at_ 1).n), c3, c4] : List Value), mv, rfl, (RMl_cons (c := [.int .i32 (IntKind.i32.wrap (y.at_ 0).n)]) (RMf_i32.2 rfl) (RMl_cons (c := [.int .i16 (IntKind.i16.wrap (y.at_ 1).n)]) (RMf_i16.2 rfl) (RMl_cons (c := [c3]) (RMf_list.2 ⟨_, rfl, hF3⟩) (RMl_cons (c := [c4]) (RMf_list.2 ⟨_, rfl, hF4⟩) RMl_nil)))), hT⟩
  exact at_retT0 (i := 0) rfl rfl (fun w hS => ⟨_, rfl, hR.mv (hS.trFinT _ _)⟩)
end K
end Go.Proofs.Ytmknncmdbmnmgaa
