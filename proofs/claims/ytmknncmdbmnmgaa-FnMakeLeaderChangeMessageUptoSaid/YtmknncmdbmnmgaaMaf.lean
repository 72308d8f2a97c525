import Derived.Test.YtmknncmdbmnmgaaB5
import Derived.Test.YtmknncmdbmnmgaaMas
set_option linter.unusedVariables false
set_option linter.unusedSimpArgs false
namespace Go.Proofs.Ytmknncmdbmnmgaa
namespace K
open Go Go.Lib
theorem make_makeLeaderChangeMessageVoter (t : Vw) (y : Tre) (cs : List Value) (hx : RT t y cs) (hsm : smT y) (hg : gT y) : CA Try.prog 135 [.agg cs.toArray] t fun u v => ∃ c, v = .agg c.toArray ∧ RMp u F_sLeaderChangeMessageVoter y c := by
  refine ca_enter Try.func135 rfl Try.ntmps135 rfl ?_
  refine cd_sr ?_
  refine ln_box (l := cs) rfl rfl rfl (fun b1 => ?_)
  refine ln_alloc (l := ([.int .i32 0, .int .u8 0, .int .u8 0, .int .u8 0, .int .u8 0, .int .u8 0, .int .u8 0, .int .u8 0, .int .u8 0, .int .u8 0, .int .u8 0, .int .u8 0, .int .u8 0, .int .u8 0, .int .u8 0, .int .u8 0, .int .u8 0, .map none] : List Value)) tipub_kmsg_LeaderChangeMessageVoter rfl rfl (fun b2 => ?_)
  refine ln_cd ?_
  refine cd_sr ?_
  refine ln_alloc (l := ([.int .i32 0, .int .u8 0, .int .u8 0, .int .u8 0, .int .u8 0, .int .u8 0, .int .u8 0, .int .u8 0, .int .u8 0, .int .u8 0, .int .u8 0, .int .u8 0, .int .u8 0, .int .u8 0, .int .u8 0, .int .u8 0, .int .u8 0, .map none] : List Value)) tipub_kmsg_LeaderChangeMessageVoter rfl rfl (fun b3 => ?_)
  refine ln_cd ?_
  refine cd_perm (H' := [MsgBox b3 141 ([.int .i32 0, .int .u8 0, .int .u8 0, .int .u8 0, .int .u8 0, .int .u8 0, .int .u8 0, .int .u8 0, .int .u8 0, .int .u8 0, .int .u8 0, .int .u8 0, .int .u8 0, .int .u8 0, .int .u8 0, .int .u8 0, .int .u8 0, .map none] : List Value), TreeBox b1 cs, MsgBox b2 141 ([.int .i32 0, .int .u8 0, .int .u8 0, .int .u8 0, .int .u8 0, .int .u8 0, .int .u8 0, .int .u8 0, .int .u8 0, .int .u8 0, .int .u8 0, .int .u8 0, .int .u8 0, .int .u8 0, .int .u8 0, .int .u8 0, .int .u8 0, .map none] : List Value)]) (List.Perm.cons _ (List.Perm.swap _ _ _)) ?_
  refine cd_sq ?_
  refine cd_region ?_
  refine ln_at (i0 := 1) (j := 0) rfl rfl hx rfl (fun u1 sS1 sL1 sU1 ht1 hd1 => ?_)
  have hx := hx.mv ht1
  refine ln_pv (pv_field1 (v := .int .i64 (y.at_ 0).n) Try.underlying37 rfl Try.underlying2 rfl lk_eq rfl) rfl ?_
  refine ln_pv (pv_conv' (k := .i64) (i := (y.at_ 0).n) Try.underlying2 Try.underlying21 lk_eq rfl) rfl ?_
  refine ln_pv (pv_fieldAddr (off := 0) (r := 0) Try.underlying141 rfl tiint32.size rfl rfl rfl) rfl ?_
  refine ln_storeM (M' := ([.int .i32 (IntKind.i32.wrap (y.at_ 0).n), .int .u8 0, .int .u8 0, .int .u8 0, .int .u8 0, .int .u8 0, .int .u8 0, .int .u8 0, .int .u8 0, .int .u8 0, .int .u8 0, .int .u8 0, .int .u8 0, .int .u8 0, .int .u8 0, .int .u8 0, .int .u8 0, .map none] : List Value)) rfl rfl rfl tiint32.size (Nat.le_of_ble_eq_true rfl) rfl ?_
  refine ln_nil ?_
  refine at_sub (.skip rfl (.skip rfl (.skip rfl (.skip rfl .rfl')))) ?_
  refine at_cd ?_
  refine cd_sq ?_
  refine cd_region ?_
  refine ln_at (i0 := 1) (j := 1) rfl rfl hx rfl (fun u2 sS2 sL2 sU2 ht2 hd2 => ?_)
  have hx := hx.mv ht2
  have hS2 := hd2.str
  refine ln_pv (pv_field1 (v := sS2) Try.underlying37 rfl Try.underlying22 rfl lk_eq rfl) rfl ?_
  refine ln_callA (vals := [sS2]) en_191 rfl (fun u hu => impl_sixteen u _ (y.at_ 1).s (RSv.mv hS2 hu)) rfl ?_
  rintro uc3 _ htc3 rfl
  have hx := hx.mv htc3
  refine ln_pv (pv_fieldAddr (off := 1) (r := 1) Try.underlying141 rfl ti_16_uint8.size rfl rfl rfl) rfl ?_
  refine ln_storeMA (m := 16) (M' := ([.int .i32 (IntKind.i32.wrap (y.at_ 0).n)] ++ (u8s (uuid (y.at_ 1).s) ++ ([.map none])) : List Value)) rfl rfl (by simp [uuid_length]) (u8s_one _) ti_16_uint8.size (Nat.le_of_ble_eq_true rfl) (by simp [wr, uuid_length]) ?_
  refine ln_nil ?_
  refine at_sub (.skip rfl (.skip rfl (.skip rfl (.skip rfl .rfl')))) ?_
  refine at_cd ?_
  refine cd_sq ?_
  refine fl_tags (off := 17) rfl hx hg.open.1 (by have := hg.open.2.1; omega) rfl (fun q hq => hq.elim) (by simp [List.set_append, List.getElem?_append, wr, uuid_length]) (fun i hi u b5 mo l tv E N' X' hu hv h0 hnew hL htx hfr kb => ?_) (fun u mv ht hT => ?_)
  · exact fl_setL (off := 17) (hL _ _ rfl) htx Try.underlying141 rfl tipub_kmsg_Tags.size rfl (frs_via hfr (v := .bool true) rfl) (by simp [uuid_length]) h0 hnew kb
  have hx := hx.mv ht
  refine at_msg (M' := ([.int .i32 (IntKind.i32.wrap (y.at_ 0).n)] ++ (u8s (uuid (y.at_ 1).s) ++ ([mv])) : List Value)) (by simp [List.set_append, List.getElem?_append, wr, uuid_length]) ?_
  refine at_cd ?_
  have hR : RMp _ F_sLeaderChangeMessageVoter y ([.int .i32 (IntKind.i32.wrap (y.at_ 0).n)] ++ (u8s (uuid (y.at_ 1).s) ++ ([mv])) : List Value) := ⟨([.int .i32 (IntKind.i32.wrap (y.at_ 0).n)] ++ (u8s (uuid (y.at_ 1).s) ++ ([])) : List Value), mv, by simp, (RMl_cons (c := [.int .i32 (IntKind.i32.wrap (y.at_ 0).n)]) (RMf_i32.2 rfl) (RMl_cons (c := u8s (uuid (y.at_ 1).s)) (RMf_uuid.2 rfl) RMl_nil)), hT⟩
  have hsz : fszs F_sLeaderChangeMessageVoter + 1 = 18 := by kernel_rfl
  obtain ⟨hl9, h19⟩ := hR.len
  rw [hsz] at hl9
  refine cd_sr ?_
  refine ln_pv (pv_ldO (i := 0) rfl Try.underlying141 rfl tipub_kmsg_LeaderChangeMessageVoter.size rfl hl9) rfl ?_
  refine ln_storeW (i := 2) (vs := ([.int .i32 (IntKind.i32.wrap (y.at_ 0).n)] ++ (u8s (uuid (y.at_ 1).s) ++ ([mv])) : List Value)) rfl rfl rfl rfl tipub_kmsg_LeaderChangeMessageVoter.size hl9 h19 ?_
  refine ln_cd ?_
  refine cd_ret ?_
  exact at_retC (i := 2) rfl rfl rfl Try.underlying141 rfl tipub_kmsg_LeaderChangeMessageVoter.size hl9 (fun w hS => ⟨_, rfl, hR.mv hS.trFin⟩)
theorem fill_LeaderChangeMessage (t : Vw) (b : Nat) (v : Int) (y : Tre) (cs : List Value) (hx : RT t y cs) (hsm : smT y) (hg : gT y) (hok : (MsgBox b 55 ([.int .i16 v, .int .i32 0, .slice none 0 0, .slice none 0 0, .map none] : List Value)).ok t.w) (hav : ∀ q ∈ (MsgBox b 55 ([.int .i16 v, .int .i32 0, .slice none 0 0, .slice none 0 0, .map none] : List Value)).blk, t.av q) : CT Try.prog 59 [.pointer (some ⟨b, 0, none⟩), .agg cs.toArray] t (MsgBox b 55 ([.int .i16 v, .int .i32 0, .slice none 0 0, .slice none 0 0, .map none] : List Value)) fun u r e' => ∃ cells, e' = MsgBox b 55 (.int .i16 v :: cells) ∧ RMp u F_LeaderChangeMessage y cells := by
  refine ct_enter Try.func59 rfl Try.ntmps59 rfl hok hav (by simp [Ent.blk]) ?_
  refine cd_sr ?_
  refine ln_box (l := cs) rfl rfl rfl (fun b1 => ?_)
  refine ln_cd ?_
  refine cd_perm (H' := [MsgBox b 55 ([.int .i16 v, .int .i32 0, .slice none 0 0, .slice none 0 0, .map none] : List Value), TreeBox b1 cs]) (List.Perm.swap _ _ _) ?_
  refine cd_sq ?_
  refine cd_region ?_
  refine ln_pv (pv_move rfl) rfl ?_
  refine ln_at (i0 := 1) (j := 0) rfl rfl hx rfl (fun u1 sS1 sL1 sU1 ht1 hd1 => ?_)
  have hx := hx.mv ht1
  refine ln_pv (pv_field1 (v := .int .i64 (y.at_ 0).n) Try.underlying37 rfl Try.underlying2 rfl lk_eq rfl) rfl ?_
  refine ln_pv (pv_conv' (k := .i64) (i := (y.at_ 0).n) Try.underlying2 Try.underlying21 lk_eq rfl) rfl ?_
  refine ln_pv (pv_nilCheck rfl) rfl ?_
  refine ln_pv (pv_fieldAddr (off := 1) (r := 1) Try.underlying55 rfl tiint32.size rfl rfl rfl) rfl ?_
  refine ln_storeM (M' := ([.int .i16 v, .int .i32 (IntKind.i32.wrap (y.at_ 0).n), .slice none 0 0, .slice none 0 0, .map none] : List Value)) rfl rfl rfl tiint32.size (Nat.le_of_ble_eq_true rfl) rfl ?_
  refine ln_nil ?_
  refine at_sub (.skip rfl (.skip rfl (.skip rfl (.skip rfl (.skip rfl (.skip rfl .rfl')))))) ?_
  refine at_cd ?_
  refine cd_sq ?_
  refine fl_nl (o := 10) (sb := F_sLeaderChangeMessageVoter) (j := 1) (off := 2) rfl hx rfl rfl (fun u2 c2 ht2 hF2 => ?_) (fun hz u2a hu2 kk => ?_)
  rotate_left
  · skip
    have hx := hx.mv hu2
    have hle2 : (y.at_ 1).l.length ≤ 32767 := (hg.at_ 1).open.2.2.1
    refine cd_sq ?_
    refine fl_makeP (ez := 18) (j := 1) (off := 2) rfl rfl hx hle2 Try.underlying55 rfl rfl tiSl_kmsg_LeaderChangeMessageVoter.size rfl Try.underlying50 tipub_kmsg_LeaderChangeMessageVoter (by decide) rfl (Nat.le_of_ble_eq_true rfl) (fun u2b g2 cap2 hb2 => ?_)
    have hx := hx.mv hb2
    refine at_cd ?_
    refine fl_list (o := 10) (sb := F_sLeaderChangeMessageVoter) (j := 1) (off := 2) (ez := 18) (by kernel_rfl) rfl hx hle2 hz rfl (fun q hq => by simpa [Ent.blk] using hq) rfl (fun i hi u b5 g cap xs ci sl N' X' hu hxl hci kb => ?_) (fun u c hu hF => kk u c (hb2.trans hu) hF)
    have hmk : ∀ u2, Tr u u2 → CA Try.prog 135 [.agg ci.toArray] u2 fun u3 v => ∃ c, v = .agg c.toArray ∧ RMp u3 F_sLeaderChangeMessageVoter (y.at_ 1).l[i] c := fun u2 h2 => make_makeLeaderChangeMessageVoter u2 _ _ (hci.mv h2) (smTs.mem (hsm.at_ 1).open.2.2.2 _ (List.getElem_mem hi)) (gTs.mem (hg.at_ 1).open.2.2.2 _ (List.getElem_mem hi))
    exact fl_appPS (sb := F_sLeaderChangeMessageVoter) (off := 2) rfl rfl Try.underlying55 rfl rfl tiSl_kmsg_LeaderChangeMessageVoter.size rfl Try.underlying50 tipub_kmsg_LeaderChangeMessageVoter rfl (by decide) (by decide) (by decide) (by kernel_rfl) en_135 hci.len hmk rfl (Nat.le_of_ble_eq_true rfl) (by omega) hxl (by kernel_rfl) (by kernel_rfl) kb
  have hx := hx.mv ht2
  refine at_msg (M' := ([.int .i16 v, .int .i32 (IntKind.i32.wrap (y.at_ 0).n), c2, .slice none 0 0, .map none] : List Value)) rfl ?_
  refine at_cd ?_
  refine cd_sq ?_
  refine fl_nl (o := 10) (sb := F_sLeaderChangeMessageVoter) (j := 2) (off := 3) rfl hx rfl rfl (fun u3 c3 ht3 hF3 => ?_) (fun hz u3a hu3 kk => ?_)
  rotate_left
  · skip
    have hx := hx.mv hu3
    have hF2 := hF2.mv hu3
    have hle3 : (y.at_ 2).l.length ≤ 32767 := (hg.at_ 2).open.2.2.1
    refine cd_sq ?_
    refine fl_makeP (ez := 18) (j := 2) (off := 3) rfl rfl hx hle3 Try.underlying55 rfl rfl tiSl_kmsg_LeaderChangeMessageVoter.size rfl Try.underlying50 tipub_kmsg_LeaderChangeMessageVoter (by decide) rfl (Nat.le_of_ble_eq_true rfl) (fun u3b g3 cap3 hb3 => ?_)
    have hx := hx.mv hb3
    have hF2 := hF2.mv hb3
    refine at_cd ?_
    refine fl_list (o := 10) (sb := F_sLeaderChangeMessageVoter) (j := 2) (off := 3) (ez := 18) (by kernel_rfl) rfl hx hle3 hz rfl (fun q hq => by simpa [Ent.blk] using hq) rfl (fun i hi u b5 g cap xs ci sl N' X' hu hxl hci kb => ?_) (fun u c hu hF => kk u c (hb3.trans hu) hF)
    have hmk : ∀ u2, Tr u u2 → CA Try.prog 135 [.agg ci.toArray] u2 fun u3 v => ∃ c, v = .agg c.toArray ∧ RMp u3 F_sLeaderChangeMessageVoter (y.at_ 2).l[i] c := fun u2 h2 => make_makeLeaderChangeMessageVoter u2 _ _ (hci.mv h2) (smTs.mem (hsm.at_ 2).open.2.2.2 _ (List.getElem_mem hi)) (gTs.mem (hg.at_ 2).open.2.2.2 _ (List.getElem_mem hi))
    exact fl_appPS (sb := F_sLeaderChangeMessageVoter) (off := 3) rfl rfl Try.underlying55 rfl rfl tiSl_kmsg_LeaderChangeMessageVoter.size rfl Try.underlying50 tipub_kmsg_LeaderChangeMessageVoter rfl (by decide) (by decide) (by decide) (by kernel_rfl) en_135 hci.len hmk rfl (Nat.le_of_ble_eq_true rfl) (by omega) hxl (by kernel_rfl) (by kernel_rfl) kb
  have hx := hx.mv ht3
  have hF2 := hF2.mv ht3
  refine at_msg (M' := ([.int .i16 v, .int .i32 (IntKind.i32.wrap (y.at_ 0).n), c2, c3, .map none] : List Value)) rfl ?_
  refine at_cd ?_
  refine fl_tags (off := 4) rfl hx hg.open.1 (by have := hg.open.2.1; omega) rfl (fun q hq => by simpa [Ent.blk] using hq) rfl (fun i hi u b5 mo l tv E N' X' hu hv h0 hnew hL htx hfr kb => ?_) (fun u mv ht hT => ?_)
  · exact fl_setP (off := 4) (hL _ _ rfl) htx Try.underlying55 rfl tipub_kmsg_Tags.size rfl (frs_via hfr (v := .bool true) rfl) (Nat.le_of_ble_eq_true rfl) h0 hnew (by kernel_rfl) kb
  have hx := hx.mv ht
  have hF2 := hF2.mv ht
  have hF3 := hF3.mv ht
  refine at_msg (M' := ([.int .i16 v, .int .i32 (IntKind.i32.wrap (y.at_ 0).n), c2, c3, mv] : List Value)) rfl ?_
  have hR : RMp _ F_LeaderChangeMessage y ([.int .i32 (IntKind.i32.wrap (y.at_ 0).n), c2, c3, mv] : List Value) := ⟨([.int .i32 (IntKind.i32.wrap (y.at_ 0).n), c2, c3] : List Value), mv, rfl, (RMl_cons (c := [.int .i32 (IntKind.i32.wrap (y.at_ 0).n)]) (RMf_i32.2 rfl) (RMl_cons (c := [c2]) (RMf_list.2 ⟨_, rfl, hF2⟩) (RMl_cons (c := [c3]) (RMf_list.2 ⟨_, rfl, hF3⟩) RMl_nil))), hT⟩
  exact at_retT0 (i := 0) rfl rfl (fun w hS => ⟨_, rfl, hR.mv (hS.trFinT _ _)⟩)
end K
end Go.Proofs.Ytmknncmdbmnmgaa
