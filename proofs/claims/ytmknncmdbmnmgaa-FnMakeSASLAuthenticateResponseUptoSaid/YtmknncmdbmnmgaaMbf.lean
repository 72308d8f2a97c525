import Derived.Test.YtmknncmdbmnmgaaB5
import Derived.Test.YtmknncmdbmnmgaaMbs
set_option linter.unusedVariables false
set_option linter.unusedSimpArgs false
namespace Go.Proofs.Ytmknncmdbmnmgaa
namespace K
open Go Go.Lib
theorem fill_SASLAuthenticateResponse (t : Vw) (b : Nat) (v : Int) (y : Tre) (cs : List Value) (hx : RT t y cs) (hsm : smT y) (hg : gT y) (hok : (MsgBox b 71 ([.int .i16 v, .int .i16 0, .pointer none, .slice none 0 0, .int .i64 0, .map none] : List Value)).ok t.w) (hav : ∀ q ∈ (MsgBox b 71 ([.int .i16 v, .int .i16 0, .pointer none, .slice none 0 0, .int .i64 0, .map none] : List Value)).blk, t.av q) : CT Try.prog 69 [.pointer (some ⟨b, 0, none⟩), .agg cs.toArray] t (MsgBox b 71 ([.int .i16 v, .int .i16 0, .pointer none, .slice none 0 0, .int .i64 0, .map none] : List Value)) fun u r e' => ∃ cells, e' = MsgBox b 71 (.int .i16 v :: cells) ∧ RMp u F_SASLAuthenticateResponse y cells := by
  refine ct_enter Try.func69 rfl Try.ntmps69 rfl hok hav (by simp [Ent.blk]) ?_
  refine cd_sr ?_
  refine ln_box (l := cs) rfl rfl rfl (fun b1 => ?_)
  refine ln_cd ?_
  refine cd_perm (H' := [MsgBox b 71 ([.int .i16 v, .int .i16 0, .pointer none, .slice none 0 0, .int .i64 0, .map none] : List Value), TreeBox b1 cs]) (List.Perm.swap _ _ _) ?_
  refine cd_sq ?_
  refine cd_region ?_
  refine ln_pv (pv_move rfl) rfl ?_
  refine ln_at (i0 := 1) (j := 0) rfl rfl hx rfl (fun u1 sS1 sL1 sU1 ht1 hd1 => ?_)
  have hx := hx.mv ht1
  refine ln_pv (pv_field1 (v := .int .i64 (y.at_ 0).n) Try.underlying37 rfl Try.underlying2 rfl lk_eq rfl) rfl ?_
  refine ln_pv (pv_conv' (k := .i64) (i := (y.at_ 0).n) Try.underlying2 Try.underlying49 lk_eq rfl) rfl ?_
  refine ln_pv (pv_nilCheck rfl) rfl ?_
  refine ln_pv (pv_fieldAddr (off := 1) (r := 1) Try.underlying71 rfl tiint16.size rfl rfl rfl) rfl ?_
  refine ln_storeM (M' := ([.int .i16 v, .int .i16 (IntKind.i16.wrap (y.at_ 0).n), .pointer none, .slice none 0 0, .int .i64 0, .map none] : List Value)) rfl rfl rfl tiint16.size (Nat.le_of_ble_eq_true rfl) rfl ?_
  refine ln_nil ?_
  refine at_sub (.skip rfl (.skip rfl (.skip rfl (.skip rfl (.skip rfl (.skip rfl .rfl')))))) ?_
  refine at_cd ?_
  refine cd_sq ?_
  refine cd_region ?_
  refine ln_pv (pv_move rfl) rfl ?_
  refine ln_at (i0 := 1) (j := 1) rfl rfl hx rfl (fun u2 sS2 sL2 sU2 ht2 hd2 => ?_)
  have hx := hx.mv ht2
  refine ln_callA (vals := [.agg _]) en_149 rfl (fun u hu => impl_textOf u (y.at_ 1) _ (hd2.mv hu)) rfl (fun uc3 c3 htc3 hFc3 => ?_)
  have hx := hx.mv htc3
  refine ln_pv (pv_nilCheck rfl) rfl ?_
  refine ln_pv (pv_fieldAddr (off := 2) (r := 2) Try.underlying71 rfl tiPt_string.size rfl rfl rfl) rfl ?_
  refine ln_storeM (M' := ([.int .i16 v, .int .i16 (IntKind.i16.wrap (y.at_ 0).n), c3, .slice none 0 0, .int .i64 0, .map none] : List Value)) rfl rfl hFc3.one tiPt_string.size (Nat.le_of_ble_eq_true rfl) rfl ?_
  refine ln_nil ?_
  refine at_sub (.skip rfl (.skip rfl (.skip rfl (.skip rfl (.skip rfl .rfl'))))) ?_
  refine at_cd ?_
  refine cd_sq ?_
  refine cd_region ?_
  refine ln_pv (pv_move rfl) rfl ?_
  refine ln_at (i0 := 1) (j := 2) rfl rfl hx rfl (fun u4 sS4 sL4 sU4 ht4 hd4 => ?_)
  have hx := hx.mv ht4
  have hFc3 := hFc3.mv ht4
  refine ln_callA (vals := [.agg _]) en_150 rfl (fun u hu => impl_octetsOf u (y.at_ 2) _ (hd4.mv hu) (by have := (hsm.at_ 2).open.1; omega)) rfl (fun uc5 c5 htc5 hFc5 => ?_)
  have hx := hx.mv htc5
  have hFc3 := hFc3.mv htc5
  refine ln_pv (pv_nilCheck rfl) rfl ?_
  refine ln_pv (pv_fieldAddr (off := 3) (r := 3) Try.underlying71 rfl tiSl_uint8.size rfl rfl rfl) rfl ?_
  refine ln_storeM (M' := ([.int .i16 v, .int .i16 (IntKind.i16.wrap (y.at_ 0).n), c3, c5, .int .i64 0, .map none] : List Value)) rfl rfl hFc5.one tiSl_uint8.size (Nat.le_of_ble_eq_true rfl) rfl ?_
  refine ln_nil ?_
  refine at_sub (.skip rfl (.skip rfl (.skip rfl (.skip rfl (.skip rfl .rfl'))))) ?_
  refine at_cd ?_
  refine cd_sq ?_
  refine cd_region ?_
  refine ln_pv (pv_move rfl) rfl ?_
  refine ln_at (i0 := 1) (j := 3) rfl rfl hx rfl (fun u6 sS6 sL6 sU6 ht6 hd6 => ?_)
  have hx := hx.mv ht6
  have hFc3 := hFc3.mv ht6
  have hFc5 := hFc5.mv ht6
  refine ln_pv (pv_field1 (v := .int .i64 (y.at_ 3).n) Try.underlying37 rfl Try.underlying2 rfl lk_eq rfl) rfl ?_
  have hI6 := hd6.i64
  refine ln_pv (pv_nilCheck rfl) rfl ?_
  refine ln_pv (pv_fieldAddr (off := 4) (r := 4) Try.underlying71 rfl tiint64.size rfl rfl rfl) rfl ?_
  refine ln_storeM (M' := ([.int .i16 v, .int .i16 (IntKind.i16.wrap (y.at_ 0).n), c3, c5, .int .i64 (y.at_ 3).n, .map none] : List Value)) rfl rfl rfl tiint64.size (Nat.le_of_ble_eq_true rfl) rfl ?_
  refine ln_nil ?_
  refine at_sub (.skip rfl (.skip rfl (.skip rfl (.skip rfl (.skip rfl .rfl'))))) ?_
  refine at_cd ?_
  refine fl_tags (off := 5) rfl hx hg.open.1 (by have := hg.open.2.1; omega) rfl (fun q hq => by simpa [Ent.blk] using hq) rfl (fun i hi u b5 mo l tv E N' X' hu hv h0 hnew hL htx hfr kb => ?_) (fun u mv ht hT => ?_)
  · exact fl_setP (off := 5) (hL _ _ rfl) htx Try.underlying71 rfl tipub_kmsg_Tags.size rfl (frs_via hfr (v := .bool true) rfl) (Nat.le_of_ble_eq_true rfl) h0 hnew (by kernel_rfl) kb
  have hx := hx.mv ht
  have hFc3 := hFc3.mv ht
  have hFc5 := hFc5.mv ht
  refine at_msg (M' := ([.int .i16 v, .int .i16 (IntKind.i16.wrap (y.at_ 0).n), c3, c5, .int .i64 (y.at_ 3).n, mv] : List Value)) rfl ?_
  have hR : RMp _ F_SASLAuthenticateResponse y ([.int .i16 (IntKind.i16.wrap (y.at_ 0).n), c3, c5, .int .i64 (y.at_ 3).n, mv] : List Value) := ⟨([.int .i16 (IntKind.i16.wrap (y.at_ 0).n), c3, c5, .int .i64 (y.at_ 3).n] : List Value), mv, rfl, (RMl_cons (c := [.int .i16 (IntKind.i16.wrap (y.at_ 0).n)]) (RMf_i16.2 rfl) (RMl_cons (c := [c3]) ((RMf_txt (by decide)).2 ⟨_, rfl, hFc3⟩) (RMl_cons (c := [c5]) (RMf_oct.2 ⟨_, rfl, hFc5⟩) (RMl_cons (c := [.int .i64 (y.at_ 3).n]) (RMf_i64.2 ⟨rfl, hI6⟩) RMl_nil)))), hT⟩
  exact at_retT0 (i := 0) rfl rfl (fun w hS => ⟨_, rfl, hR.mv (hS.trFinT _ _)⟩)
end K
end Go.Proofs.Ytmknncmdbmnmgaa
