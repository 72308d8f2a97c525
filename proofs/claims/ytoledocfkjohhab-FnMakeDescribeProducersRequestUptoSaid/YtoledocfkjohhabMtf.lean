import Derived.Test.YtoledocfkjohhabB5
import Derived.Test.YtoledocfkjohhabMts
set_option linter.unusedVariables false
set_option linter.unusedSimpArgs false
namespace Go.Proofs.Ytoledocfkjohhab
namespace K
open Go Go.Lib
theorem make_makeDescribeProducersRequestTopic (t : Vw) (y : Tre) (cs : List Value) (hx : RT t y cs) (hsm : smT y) (hg : gT y) : CA Try.prog 57 [.agg cs.toArray] t fun u v => ∃ c, v = .agg c.toArray ∧ RMp u F_sDescribeProducersRequestTopic y c := by
  refine ca_enter Try.func57 rfl Try.ntmps57 rfl ?_
  refine cd_sr ?_
  refine ln_box (l := cs) rfl rfl rfl (fun b1 => ?_)
  refine ln_alloc (l := ([.string .empty, .slice none 0 0, .map none] : List Value)) tipub_kmsg_DescribeProducersRequestTopic rfl rfl (fun b2 => ?_)
  refine ln_cd ?_
  refine cd_sr ?_
  refine ln_alloc (l := ([.string .empty, .slice none 0 0, .map none] : List Value)) tipub_kmsg_DescribeProducersRequestTopic rfl rfl (fun b3 => ?_)
  refine ln_cd ?_
  refine cd_perm (H' := [MsgBox b3 97 ([.string .empty, .slice none 0 0, .map none] : List Value), TreeBox b1 cs, MsgBox b2 97 ([.string .empty, .slice none 0 0, .map none] : List Value)]) (List.Perm.cons _ (List.Perm.swap _ _ _)) ?_
  refine cd_sq ?_
  refine cd_region ?_
  refine ln_at (i0 := 1) (j := 0) rfl rfl hx rfl (fun u1 sS1 sL1 sU1 ht1 hd1 => ?_)
  have hx := hx.mv ht1
  have hS1 := hd1.str
  refine ln_pv (pv_field1 (v := sS1) Try.underlying39 rfl Try.underlying22 rfl lk_eq rfl) rfl ?_
  refine ln_pv (pv_b2s hS1 Try.underlying22 Try.underlying5 Try.underlying9 lk_eq) rfl ?_
  refine ln_pv (pv_fieldAddr (off := 0) (r := 0) Try.underlying97 rfl tistring.size rfl rfl rfl) rfl ?_
  refine ln_storeM (M' := ([.string ⟨(y.at_ 0).s.toArray⟩, .slice none 0 0, .map none] : List Value)) rfl rfl rfl tistring.size (Nat.le_of_ble_eq_true rfl) rfl ?_
  refine ln_nil ?_
  refine at_sub (.skip rfl (.skip rfl (.skip rfl (.skip rfl .rfl')))) ?_
  refine at_cd ?_
  refine cd_sq ?_
  refine fl_nl (o := 3) (sb := []) (j := 1) (off := 1) rfl hx rfl rfl (fun u2 c2 ht2 hF2 => ?_) (fun hz u2a hu2 kk => ?_)
  rotate_left
  · skip
    have hx := hx.mv hu2
    have hle2 : (y.at_ 1).l.length ≤ 32767 := (hg.at_ 1).open.2.2.1
    refine cd_sq ?_
    refine fl_makeL (ez := 1) (j := 1) (off := 1) rfl rfl hx hle2 Try.underlying97 rfl rfl tiSl_int32.size rfl Try.underlying95 tiint32 (by decide) rfl (Nat.le_of_ble_eq_true rfl) (fun u2b g2 cap2 hb2 => ?_)
    have hx := hx.mv hb2
    refine at_cd ?_
    refine fl_list (o := 3) (sb := []) (j := 1) (off := 1) (ez := 1) (by decide) rfl hx hle2 hz rfl (fun q hq => hq.elim) rfl (fun i hi u b5 g cap xs ci sl N' X' hu hxl hci kb => ?_) (fun u c hu hF => kk u c (hb2.trans hu) hF)
    obtain ⟨sS, sL, sU, rfl, hn5, hS5, _, _⟩ := hci.open
    exact fl_appLN (o := 3) (sb := []) (off := 1) (kt := 0) (v7 := .int .i32 (IntKind.i32.wrap (y.at_ 1).l[i].n)) (y := (y.at_ 1).l[i]) rfl rfl Try.underlying97 rfl rfl tiSl_int32.size rfl Try.underlying95 tiint32 rfl (by decide) Try.underlying39 rfl tiint64.size rfl Try.underlying2 rfl rfl (fun _ _ h => pv_conv' (k := .i64) (i := (y.at_ 1).l[i].n) Try.underlying2 Try.underlying21 h rfl) rfl (by decide) (by simp [RS1]) rfl (Nat.le_of_ble_eq_true rfl) (by omega) hxl (fun u2 g2 c2 h2 hR2 => kb u2 g2 c2 _ h2 hR2)
  have hx := hx.mv ht2
  refine at_msg (M' := ([.string ⟨(y.at_ 0).s.toArray⟩, c2, .map none] : List Value)) rfl ?_
  refine at_cd ?_
  refine cd_sq ?_
  refine fl_tags (off := 2) rfl hx hg.open.1 (by have := hg.open.2.1; omega) rfl (fun q hq => hq.elim) rfl (fun i hi u b5 mo l tv E N' X' hu hv h0 hnew hL htx hfr kb => ?_) (fun u mv ht hT => ?_)
  · exact fl_setL (off := 2) (hL _ _ rfl) htx Try.underlying97 rfl tipub_kmsg_Tags.size rfl (frs_via hfr (v := .bool true) rfl) (Nat.le_of_ble_eq_true rfl) h0 hnew kb
  have hx := hx.mv ht
  have hF2 := hF2.mv ht
  refine at_msg (M' := ([.string ⟨(y.at_ 0).s.toArray⟩, c2, mv] : List Value)) rfl ?_
  refine at_cd ?_
  have hR : RMp _ F_sDescribeProducersRequestTopic y ([.string ⟨(y.at_ 0).s.toArray⟩, c2, mv] : List Value) := ⟨([.string ⟨(y.at_ 0).s.toArray⟩, c2] : List Value), mv, rfl, (RMl_cons (c := [.string ⟨(y.at_ 0).s.toArray⟩]) ((RMf_str (by decide)).2 rfl) (RMl_cons (c := [c2]) (RMf_list.2 ⟨_, rfl, hF2⟩) RMl_nil)), hT⟩
  have hsz : fszs F_sDescribeProducersRequestTopic + 1 = 3 := by kernel_rfl
  obtain ⟨hl9, h19⟩ := hR.len
  rw [hsz] at hl9
  refine cd_sr ?_
  refine ln_pv (pv_ldO (i := 0) rfl Try.underlying97 rfl tipub_kmsg_DescribeProducersRequestTopic.size rfl hl9) rfl ?_
  refine ln_storeW (i := 2) (vs := ([.string ⟨(y.at_ 0).s.toArray⟩, c2, mv] : List Value)) rfl rfl rfl rfl tipub_kmsg_DescribeProducersRequestTopic.size hl9 h19 ?_
  refine ln_cd ?_
  refine cd_ret ?_
  exact at_retC (i := 2) rfl rfl rfl Try.underlying97 rfl tipub_kmsg_DescribeProducersRequestTopic.size hl9 (fun w hS => ⟨_, rfl, hR.mv hS.trFin⟩)
theorem fill_DescribeProducersRequest (t : Vw) (b : Nat) (v : Int) (y : Tre) (cs : List Value) (hx : RT t y cs) (hsm : smT y) (hg : gT y) (hok : (MsgBox b 73 ([.int .i16 v, .slice none 0 0, .map none] : List Value)).ok t.w) (hav : ∀ q ∈ (MsgBox b 73 ([.int .i16 v, .slice none 0 0, .map none] : List Value)).blk, t.av q) : CT Try.prog 33 [.pointer (some ⟨b, 0, none⟩), .agg cs.toArray] t (MsgBox b 73 ([.int .i16 v, .slice none 0 0, .map none] : List Value)) fun u r e' => ∃ cells, e' = MsgBox b 73 (.int .i16 v :: cells) ∧ RMp u F_DescribeProducersRequest y cells := by
  refine ct_enter Try.func33 rfl Try.ntmps33 rfl hok hav (by simp [Ent.blk]) ?_
  refine cd_sr ?_
  refine ln_box (l := cs) rfl rfl rfl (fun b1 => ?_)
  refine ln_cd ?_
  refine cd_perm (H' := [MsgBox b 73 ([.int .i16 v, .slice none 0 0, .map none] : List Value), TreeBox b1 cs]) (List.Perm.swap _ _ _) ?_
  refine cd_sq ?_
  refine fl_nl (o := 10) (sb := F_sDescribeProducersRequestTopic) (j := 0) (off := 1) rfl hx rfl rfl (fun u1 c1 ht1 hF1 => ?_) (fun hz u1a hu1 kk => ?_)
  rotate_left
  · skip
    have hx := hx.mv hu1
    have hle1 : (y.at_ 0).l.length ≤ 32767 := (hg.at_ 0).open.2.2.1
    refine cd_sq ?_
    refine fl_makeP (ez := 3) (j := 0) (off := 1) rfl rfl hx hle1 Try.underlying73 rfl rfl tiSl_kmsg_DescribeProducersRequestTopic.size rfl Try.underlying71 tipub_kmsg_DescribeProducersRequestTopic (by decide) rfl (Nat.le_of_ble_eq_true rfl) (fun u1b g1 cap1 hb1 => ?_)
    have hx := hx.mv hb1
    refine at_cd ?_
    refine fl_list (o := 10) (sb := F_sDescribeProducersRequestTopic) (j := 0) (off := 1) (ez := 3) (by kernel_rfl) rfl hx hle1 hz rfl (fun q hq => by simpa [Ent.blk] using hq) rfl (fun i hi u b5 g cap xs ci sl N' X' hu hxl hci kb => ?_) (fun u c hu hF => kk u c (hb1.trans hu) hF)
    have hmk : ∀ u2, Tr u u2 → CA Try.prog 57 [.agg ci.toArray] u2 fun u3 v => ∃ c, v = .agg c.toArray ∧ RMp u3 F_sDescribeProducersRequestTopic (y.at_ 0).l[i] c := fun u2 h2 => make_makeDescribeProducersRequestTopic u2 _ _ (hci.mv h2) (smTs.mem (hsm.at_ 0).open.2.2.2 _ (List.getElem_mem hi)) (gTs.mem (hg.at_ 0).open.2.2.2 _ (List.getElem_mem hi))
    exact fl_appPS (sb := F_sDescribeProducersRequestTopic) (off := 1) rfl rfl Try.underlying73 rfl rfl tiSl_kmsg_DescribeProducersRequestTopic.size rfl Try.underlying71 tipub_kmsg_DescribeProducersRequestTopic rfl (by decide) (by decide) (by decide) (by kernel_rfl) en_57 hci.len hmk rfl (Nat.le_of_ble_eq_true rfl) (by omega) hxl (by kernel_rfl) (by kernel_rfl) kb
  have hx := hx.mv ht1
  refine at_msg (M' := ([.int .i16 v, c1, .map none] : List Value)) rfl ?_
  refine at_cd ?_
  refine fl_tags (off := 2) rfl hx hg.open.1 (by have := hg.open.2.1; omega) rfl (fun q hq => by simpa [Ent.blk] using hq) rfl (fun i hi u b5 mo l tv E N' X' hu hv h0 hnew hL htx hfr kb => ?_) (fun u mv ht hT => ?_)
  · exact fl_setP (off := 2) (hL _ _ rfl) htx Try.underlying73 rfl tipub_kmsg_Tags.size rfl (frs_via hfr (v := .bool true) rfl) (Nat.le_of_ble_eq_true rfl) h0 hnew (by kernel_rfl) kb
  have hx := hx.mv ht
  have hF1 := hF1.mv ht
  refine at_msg (M' := ([.int .i16 v, c1, mv] : List Value)) rfl ?_
  have hR : RMp _ F_DescribeProducersRequest y ([c1, mv] : List Value) := ⟨([c1] : List Value), mv, rfl, (RMl_cons (c := [c1]) (RMf_list.2 ⟨_, rfl, hF1⟩) RMl_nil), hT⟩
  exact at_retT0 (i := 0) rfl rfl (fun w hS => ⟨_, rfl, hR.mv (hS.trFinT _ _)⟩)
end K
end Go.Proofs.Ytoledocfkjohhab
