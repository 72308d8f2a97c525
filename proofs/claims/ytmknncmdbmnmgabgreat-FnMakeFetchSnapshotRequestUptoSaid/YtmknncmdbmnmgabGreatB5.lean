import Derived.Test.YtmknncmdbmnmgabGreatB2
import Derived.Test.YtmknncmdbmnmgabGreatK3
set_option linter.unusedVariables false
set_option linter.unusedSimpArgs false
namespace Go.Proofs.YtmknncmdbmnmgabGreat
namespace K
open Go Go.Lib
section
variable {n : Nat} {E : Env} {H H0 : Hp} {C : Cx} {s : Vw} {N R : Act → World → Prop} {X : List (Nat × (Act → World → Prop))} {K : Act → World → Prop} {ops : Array Oper} {rest : List Oper}
variable {id : Nat} {tx pm d1 d2 d3 d4 d5 d6 d7 d8 d9 d10 d11 d12 : Nat} {bt bm b5 off i kf g cap ez by_ kt : Nat} {MT ST et xt LT SD DD : TypeId} {M xs ci tcs : List Value} {f : FuncId} {z : Value}
variable {ty1 ty2 ty3 ty4 ty5 ty6 ty7 ty8 ty9 ty10 ty11 ty12 ty13 : TypeId} {p1 p2 p3 p4 p5 p6 p7 p8 p9 p10 p11 p12 p13 : String} {a1 a2 a3 a4 a5 a6 a7 a8 a9 a10 a11 a12 a13 : Array Edge} {tys : Array TypeId}
variable {fs tfs : Array Field} {sz : Nat} {fl tf : Field} {o : Int} {sb : List Fld} {y : Tre} {w6 v7 : Value} {dd : TypeDesc}
theorem ln_rowshape {P : Program} {L : Env} {l : List Oper} {i : Nat} {v : Value} {e : TypeId} {sz m : Nat} {xs : List Value} (hi : H[i]? = some (.row v e sz m xs)) (h : ∀ ad cp, v = .slice ad m cp → m ≤ cp → (0 < m → ∃ g, ad = some ⟨g, 0, none⟩) → Ln P ops l K n L H C s) : Ln P ops l K n L H C s := fun a w hF hS => by
  obtain ⟨ad, cp, h1, h2, h3⟩ := ownsRow_shape (hS.hf _ (List.mem_of_getElem? hi))
  exact h ad cp h1 h2 h3 a w hF hS
/-- a thing that is a part, appended through a pointer -/
theorem fl_appPS (hp : lk E pm = some (.pointer (some ⟨bm, 0, none⟩))) (htx : lk E tx = some (.pointer (some ⟨b5, 0, none⟩))) (hu : Tryz.prog.underlying MT = some (.struct fs)) (hkf : fs[kf]? = some fl) (hft : fl.type = ST) (hsz : (Tryz.prog.info? ST).map (·.size) = some 1) (ho : fl.offset = off)
    (hST : Tryz.prog.underlying ST = some (.slice et)) (hti : TI Tryz.prog et z ez by_) (hzs : z.cells.size = ez) (hby : 32768 * by_ ≤ 140737488355328)
    (hez0 : 1 < ez) (hez : ez ≤ 16777216) (hez2 : ez = fszs sb + 1) (hent : Enters Tryz.prog f) (hci : ci.length = 5) (hmk : ∀ u, Tr s u → CA Tryz.prog f [.agg ci.toArray] u fun u' v => ∃ c, v = .agg c.toArray ∧ RMp u' sb y c)
    (hf : frs n E [d1, d2, d3, d4, d5, d6, d7, d9, d10, d11, d12] = true) (hlt : off < M.length) (hi : i < 32767) (hxl : xs.length = i * ez)
    (hok : (seqOk [⟨some d1, .move (.tmp pm), ty1, p1, a1, none⟩, ⟨some d2, .move (.tmp pm), ty2, p2, a2, none⟩, ⟨some d3, .nilCheck (.tmp d2), ty3, p3, a3, none⟩, ⟨some d4, .fieldAddr MT (.tmp d3) kf, ty4, p4, a4, none⟩, ⟨some d5, .load ST (.tmp d4), ty5, p5, a5, none⟩, ⟨some d6, .load 39 (.tmp tx), ty6, p6, a6, none⟩, ⟨some d7, .call ⟨.value (.func f), [.tmp d6].toArray, tys⟩, ty7, p7, a7, none⟩, ⟨some d9, .buildSlice ST 1 [(0, .tmp d7)].toArray, ty8, p8, a8, none⟩, ⟨some d10, .call ⟨.builtin .append, #[.tmp d5, .tmp d9], #[ST, ST]⟩, ty9, p9, a9, none⟩, ⟨some d11, .nilCheck (.tmp d1), ty10, p10, a10, none⟩, ⟨some d12, .fieldAddr MT (.tmp d11) kf, ty11, p11, a11, none⟩, ⟨none, .store ST (.tmp d12) (.tmp d10), ty12, p12, a12, none⟩].toArray [0, 1, 2, 3, 4, 5] [0, 1, 2, 3, 4, 5, 6, 7, 8, 9, 10, 11] (Array.replicate 12 false) && Region.noSelect [⟨some d1, .move (.tmp pm), ty1, p1, a1, none⟩, ⟨some d2, .move (.tmp pm), ty2, p2, a2, none⟩, ⟨some d3, .nilCheck (.tmp d2), ty3, p3, a3, none⟩, ⟨some d4, .fieldAddr MT (.tmp d3) kf, ty4, p4, a4, none⟩, ⟨some d5, .load ST (.tmp d4), ty5, p5, a5, none⟩, ⟨some d6, .load 39 (.tmp tx), ty6, p6, a6, none⟩, ⟨some d7, .call ⟨.value (.func f), [.tmp d6].toArray, tys⟩, ty7, p7, a7, none⟩, ⟨some d9, .buildSlice ST 1 [(0, .tmp d7)].toArray, ty8, p8, a8, none⟩, ⟨some d10, .call ⟨.builtin .append, #[.tmp d5, .tmp d9], #[ST, ST]⟩, ty9, p9, a9, none⟩, ⟨some d11, .nilCheck (.tmp d1), ty10, p10, a10, none⟩, ⟨some d12, .fieldAddr MT (.tmp d11) kf, ty11, p11, a11, none⟩, ⟨none, .store ST (.tmp d12) (.tmp d10), ty12, p12, a12, none⟩].toArray && Nat.beq 12 12) = true)
    (hl6 : lateB [⟨some d1, .move (.tmp pm), ty1, p1, a1, none⟩, ⟨some d2, .move (.tmp pm), ty2, p2, a2, none⟩, ⟨some d3, .nilCheck (.tmp d2), ty3, p3, a3, none⟩, ⟨some d4, .fieldAddr MT (.tmp d3) kf, ty4, p4, a4, none⟩, ⟨some d5, .load ST (.tmp d4), ty5, p5, a5, none⟩, ⟨some d6, .load 39 (.tmp tx), ty6, p6, a6, none⟩, ⟨some d7, .call ⟨.value (.func f), [.tmp d6].toArray, tys⟩, ty7, p7, a7, none⟩, ⟨some d9, .buildSlice ST 1 [(0, .tmp d7)].toArray, ty8, p8, a8, none⟩, ⟨some d10, .call ⟨.builtin .append, #[.tmp d5, .tmp d9], #[ST, ST]⟩, ty9, p9, a9, none⟩, ⟨some d11, .nilCheck (.tmp d1), ty10, p10, a10, none⟩, ⟨some d12, .fieldAddr MT (.tmp d11) kf, ty11, p11, a11, none⟩, ⟨none, .store ST (.tmp d12) (.tmp d10), ty12, p12, a12, none⟩].toArray [0, 1, 2, 3, 4, 5] 11 = false)
    (kk : ∀ u' g' cap' c, Tr s u' → REl u' 10 sb y c → At N n E (TreeBox b5 ci :: .row (.slice (some ⟨g', 0, none⟩) (i + 1) cap') et ez (i + 1) (xs ++ c) :: MsgBox bm MT (M.set off (.slice (some ⟨g', 0, none⟩) (i + 1) cap')) :: TreeBox bt tcs :: H0) C u') :
    Cd Tryz.prog (.region id [⟨some d1, .move (.tmp pm), ty1, p1, a1, none⟩, ⟨some d2, .move (.tmp pm), ty2, p2, a2, none⟩, ⟨some d3, .nilCheck (.tmp d2), ty3, p3, a3, none⟩, ⟨some d4, .fieldAddr MT (.tmp d3) kf, ty4, p4, a4, none⟩, ⟨some d5, .load ST (.tmp d4), ty5, p5, a5, none⟩, ⟨some d6, .load 39 (.tmp tx), ty6, p6, a6, none⟩, ⟨some d7, .call ⟨.value (.func f), [.tmp d6].toArray, tys⟩, ty7, p7, a7, none⟩, ⟨some d9, .buildSlice ST 1 [(0, .tmp d7)].toArray, ty8, p8, a8, none⟩, ⟨some d10, .call ⟨.builtin .append, #[.tmp d5, .tmp d9], #[ST, ST]⟩, ty9, p9, a9, none⟩, ⟨some d11, .nilCheck (.tmp d1), ty10, p10, a10, none⟩, ⟨some d12, .fieldAddr MT (.tmp d11) kf, ty11, p11, a11, none⟩, ⟨none, .store ST (.tmp d12) (.tmp d10), ty12, p12, a12, none⟩].toArray true) ⟨N, R, X⟩ n E (TreeBox b5 ci :: .row (.slice (some ⟨g, 0, none⟩) i cap) et ez i xs :: MsgBox bm MT (M.set off (.slice (some ⟨g, 0, none⟩) i cap)) :: TreeBox bt tcs :: H0) C s := by
  subst hft
  obtain ⟨hb, hfr, hne⟩ := frs_get hf
  simp only [List.pairwise_cons, List.mem_cons, List.not_mem_nil, or_false, forall_eq_or_imp, forall_eq, List.Pairwise.nil, and_true, false_imp_iff, implies_true] at hb hfr hne
  obtain ⟨f1, f2, f3, f4, f5, f6, f7, f9, f10, f11, f12⟩ := hfr
  obtain ⟨g1, g2, g3, g4, g5, g6, g7, g9, g10, g11, g12⟩ := hb
  refine cd_draw' [0, 2] [0, 1, 2, 3, 4, 5] [0, 1, 2, 3, 4, 5, 6, 7, 8, 9, 10, 11] mixed hok ?_
  refine lo_pv rfl rfl (sk_js (Tr.refl _) [0, 2] rfl) (pv_move hp) g1 ?_
  refine lo_pv rfl rfl (sk_js (Tr.refl _) [0, 2] rfl) (pv_move (by rw [ev_t, lk_ne (lk_fr f1 hp)]; exact hp)) g2 ?_
  refine lo_pv rfl rfl (sk_js (Tr.refl _) [0, 2] rfl) (pv_nilCheck lk_eq) g3 ?_
  refine lo_pv rfl rfl (sk_js (Tr.refl _) [0, 2] rfl) (pv_fieldAddr (off := off) (r := off) hu hkf hsz ho lk_eq (by omega)) g4 ?_
  refine lo_pv rfl rfl (sk_js (Tr.refl _) [0, 2] rfl) (pv_ldo (i := 1) (v := .slice (some ⟨g, 0, none⟩) i cap) rfl hST rfl lk_eq (by simp [hlt])) g5 ?_
  refine lo_pv rfl rfl (sk_js (Tr.refl _) [0, 2] rfl) (pv_ldO (i := 0) rfl Tryz.underlying39 rfl (tiimpl_Tree).size (by rw [ev_t, lk_ne (lk_fr f5 htx), lk_ne (lk_fr f4 htx), lk_ne (lk_fr f3 htx), lk_ne (lk_fr f2 htx), lk_ne (lk_fr f1 htx)]; exact htx) hci) g6 ?_
  refine lo_eff rfl rfl ?_
  refine ln_callA (vals := [.agg ci.toArray]) hent (by simp [evs, ev_t, lk_eq]) hmk g7 ?_
  rintro u1 v1 ht1 ⟨c, rfl, hc⟩
  obtain ⟨hcl, hc1⟩ := hc.len
  refine lo_back (sk_js ht1 [0, 2] rfl) ?_
  refine lo_eff rfl rfl ?_
  refine ln_lit (vs := [.agg c.toArray]) (l := c) hST hti hzs (by omega) (by simp [evPs, numbered, ev_t, lk_eq]) rfl (by simp [Nat.ble_eq, hez]) (by
    have hne1 : ez ≠ 1 := by omega
    have hcz : c.length = ez := by omega
    simp [partsOk, nbeq hne1, Value.cells, hcz]) (by simp [flat, Value.cells]) g9 (fun b8 => ?_)
  refine lo_back (sk_js ht1 [1, 3] rfl) ?_
  refine lo_eff rfl rfl ?_
  refine ln_append (i := 2) (v := .slice (some ⟨g, 0, none⟩) i cap) (u := .slice (some ⟨b8, 0, none⟩) 1 1) (m := 1) (news := c) rfl hST hti hzs (by omega) (by simp [ev_t, lk_eq, lk_ne, hne]) (by simp [ev_t, lk_eq, lk_ne, hne]) (src_obj (j := 0) rfl (by rw [hcl, hez2, Nat.one_mul]) (List.all_eq_true.2 hc1)) (by simp only [maxLen]; omega) (by
    have : (i + 1) * by_ ≤ 32768 * by_ := Nat.mul_le_mul_right _ (by omega)
    omega) g10 rfl rfl (fun v' hv' => ?_)
  refine ln_rowshape (i := 2) rfl (fun ad cp hv2 hle hg2 => ?_)
  obtain ⟨g', rfl⟩ := hg2 (by omega)
  subst hv2
  refine lo_back (sk_js ht1 [1, 3] rfl) ?_
  refine lo_eff rfl rfl ?_
  refine ln_pv (pv_nilCheck (by rw [ev_t, lk_ne (by simp [hne]), lk_ne (by simp [hne]), lk_ne (by simp [hne]), lk_ne (by simp [hne]), lk_ne (by simp [hne]), lk_ne (by simp [hne]), lk_ne (by simp [hne]), lk_ne (by simp [hne]), lk_eq])) g11 ?_
  refine lo_back (sk_js ht1 [1, 3] rfl) ?_
  refine lo_eff rfl rfl ?_
  refine ln_pv (pv_fieldAddr (off := off) (r := off) hu hkf hsz ho lk_eq (by omega)) g12 ?_
  refine lo_back (sk_js ht1 [1, 3] rfl) ?_
  refine lo_eff rfl rfl ?_
  refine ln_store1 (i := 3) (v := .slice (some ⟨g', 0, none⟩) (i + 1) cp) rfl lk_eq (by simp [ev_t, lk_eq, lk_ne, hne]) rfl hsz (by simp [Nat.ble_eq]; omega) ?_
  refine lo_last hl6 ?_
  refine lo_nil ?_
  refine at_sub (.skip f12 (.skip f11 (.skip f10 (.skip f9 (.skip f7 (.skip f6 (.skip f5 (.skip f4 (.skip f3 (.skip f2 (.skip f1 .rfl'))))))))))) ?_
  refine at_dropH (H' := TreeBox b5 ci :: .row (.slice (some ⟨g', 0, none⟩) (i + 1) cp) et ez (i + 1) (xs ++ c) :: MsgBox bm MT (M.set off (.slice (some ⟨g', 0, none⟩) (i + 1) cp)) :: TreeBox bt tcs :: H0) ?_ (at_base fun u2 hu2 => kk u2 g' cp c (ht1.trans hu2) ?_)
  · simp only [List.set, set_set]
    exact List.Sublist.cons _ (List.Sublist.refl _)
  · simp only [REl, if_true]
    exact hc.mv hu2
/-- the same, in a variable of the function's own -/
theorem fl_appLS (hp : lk E pm = some (.pointer (some ⟨bm, 0, none⟩))) (htx : lk E tx = some (.pointer (some ⟨b5, 0, none⟩))) (hu : Tryz.prog.underlying MT = some (.struct fs)) (hkf : fs[kf]? = some fl) (hft : fl.type = ST) (hsz : (Tryz.prog.info? ST).map (·.size) = some 1) (ho : fl.offset = off)
    (hST : Tryz.prog.underlying ST = some (.slice et)) (hti : TI Tryz.prog et z ez by_) (hzs : z.cells.size = ez) (hby : 32768 * by_ ≤ 140737488355328)
    (hez0 : 1 < ez) (hez : ez ≤ 16777216) (hez2 : ez = fszs sb + 1) (hent : Enters Tryz.prog f) (hci : ci.length = 5) (hmk : ∀ u, Tr s u → CA Tryz.prog f [.agg ci.toArray] u fun u' v => ∃ c, v = .agg c.toArray ∧ RMp u' sb y c)
    (hf : frs n E [d4, d5, d6, d7, d9, d10, d12] = true) (hlt : off < M.length) (hi : i < 32767) (hxl : xs.length = i * ez)
    (hok : (seqOk [⟨some d4, .fieldAddr MT (.tmp pm) kf, ty1, p1, a1, none⟩, ⟨some d5, .load ST (.tmp d4), ty2, p2, a2, none⟩, ⟨some d6, .load 39 (.tmp tx), ty3, p3, a3, none⟩, ⟨some d7, .call ⟨.value (.func f), [.tmp d6].toArray, tys⟩, ty4, p4, a4, none⟩, ⟨some d9, .buildSlice ST 1 [(0, .tmp d7)].toArray, ty5, p5, a5, none⟩, ⟨some d10, .call ⟨.builtin .append, #[.tmp d5, .tmp d9], #[ST, ST]⟩, ty6, p6, a6, none⟩, ⟨some d12, .fieldAddr MT (.tmp pm) kf, ty7, p7, a7, none⟩, ⟨none, .store ST (.tmp d12) (.tmp d10), ty8, p8, a8, none⟩].toArray [0, 1, 2] [0, 1, 2, 3, 4, 5, 6, 7] (Array.replicate 8 false) && Region.noSelect [⟨some d4, .fieldAddr MT (.tmp pm) kf, ty1, p1, a1, none⟩, ⟨some d5, .load ST (.tmp d4), ty2, p2, a2, none⟩, ⟨some d6, .load 39 (.tmp tx), ty3, p3, a3, none⟩, ⟨some d7, .call ⟨.value (.func f), [.tmp d6].toArray, tys⟩, ty4, p4, a4, none⟩, ⟨some d9, .buildSlice ST 1 [(0, .tmp d7)].toArray, ty5, p5, a5, none⟩, ⟨some d10, .call ⟨.builtin .append, #[.tmp d5, .tmp d9], #[ST, ST]⟩, ty6, p6, a6, none⟩, ⟨some d12, .fieldAddr MT (.tmp pm) kf, ty7, p7, a7, none⟩, ⟨none, .store ST (.tmp d12) (.tmp d10), ty8, p8, a8, none⟩].toArray && Nat.beq 8 8) = true)
    (hl6 : lateB [⟨some d4, .fieldAddr MT (.tmp pm) kf, ty1, p1, a1, none⟩, ⟨some d5, .load ST (.tmp d4), ty2, p2, a2, none⟩, ⟨some d6, .load 39 (.tmp tx), ty3, p3, a3, none⟩, ⟨some d7, .call ⟨.value (.func f), [.tmp d6].toArray, tys⟩, ty4, p4, a4, none⟩, ⟨some d9, .buildSlice ST 1 [(0, .tmp d7)].toArray, ty5, p5, a5, none⟩, ⟨some d10, .call ⟨.builtin .append, #[.tmp d5, .tmp d9], #[ST, ST]⟩, ty6, p6, a6, none⟩, ⟨some d12, .fieldAddr MT (.tmp pm) kf, ty7, p7, a7, none⟩, ⟨none, .store ST (.tmp d12) (.tmp d10), ty8, p8, a8, none⟩].toArray [0, 1, 2] 7 = false)
    (kk : ∀ u' g' cap' c, Tr s u' → REl u' 10 sb y c → At N n E (TreeBox b5 ci :: .row (.slice (some ⟨g', 0, none⟩) (i + 1) cap') et ez (i + 1) (xs ++ c) :: MsgBox bm MT (M.set off (.slice (some ⟨g', 0, none⟩) (i + 1) cap')) :: TreeBox bt tcs :: H0) C u') :
    Cd Tryz.prog (.region id [⟨some d4, .fieldAddr MT (.tmp pm) kf, ty1, p1, a1, none⟩, ⟨some d5, .load ST (.tmp d4), ty2, p2, a2, none⟩, ⟨some d6, .load 39 (.tmp tx), ty3, p3, a3, none⟩, ⟨some d7, .call ⟨.value (.func f), [.tmp d6].toArray, tys⟩, ty4, p4, a4, none⟩, ⟨some d9, .buildSlice ST 1 [(0, .tmp d7)].toArray, ty5, p5, a5, none⟩, ⟨some d10, .call ⟨.builtin .append, #[.tmp d5, .tmp d9], #[ST, ST]⟩, ty6, p6, a6, none⟩, ⟨some d12, .fieldAddr MT (.tmp pm) kf, ty7, p7, a7, none⟩, ⟨none, .store ST (.tmp d12) (.tmp d10), ty8, p8, a8, none⟩].toArray true) ⟨N, R, X⟩ n E (TreeBox b5 ci :: .row (.slice (some ⟨g, 0, none⟩) i cap) et ez i xs :: MsgBox bm MT (M.set off (.slice (some ⟨g, 0, none⟩) i cap)) :: TreeBox bt tcs :: H0) C s := by
  subst hft
  obtain ⟨hb, hfr, hne⟩ := frs_get hf
  simp only [List.pairwise_cons, List.mem_cons, List.not_mem_nil, or_false, forall_eq_or_imp, forall_eq, List.Pairwise.nil, and_true, false_imp_iff, implies_true] at hb hfr hne
  obtain ⟨f4, f5, f6, f7, f9, f10, f12⟩ := hfr
  obtain ⟨g4, g5, g6, g7, g9, g10, g12⟩ := hb
  refine cd_draw' [0, 2] [0, 1, 2] [0, 1, 2, 3, 4, 5, 6, 7] mixed hok ?_
  refine lo_pv rfl rfl (sk_js (Tr.refl _) [0, 2] rfl) (pv_fieldAddr (off := off) (r := off) hu hkf hsz ho hp (by omega)) g4 ?_
  refine lo_pv rfl rfl (sk_js (Tr.refl _) [0, 2] rfl) (pv_ldo (i := 1) (v := .slice (some ⟨g, 0, none⟩) i cap) rfl hST rfl lk_eq (by simp [hlt])) g5 ?_
  refine lo_pv rfl rfl (sk_js (Tr.refl _) [0, 2] rfl) (pv_ldO (i := 0) rfl Tryz.underlying39 rfl (tiimpl_Tree).size (by rw [ev_t, lk_ne (lk_fr f5 htx), lk_ne (lk_fr f4 htx)]; exact htx) hci) g6 ?_
  refine lo_eff rfl rfl ?_
  refine ln_callA (vals := [.agg ci.toArray]) hent (by simp [evs, ev_t, lk_eq]) hmk g7 ?_
  rintro u1 v1 ht1 ⟨c, rfl, hc⟩
  obtain ⟨hcl, hc1⟩ := hc.len
  refine lo_back (sk_js ht1 [0, 2] rfl) ?_
  refine lo_eff rfl rfl ?_
  refine ln_lit (vs := [.agg c.toArray]) (l := c) hST hti hzs (by omega) (by simp [evPs, numbered, ev_t, lk_eq]) rfl (by simp [Nat.ble_eq, hez]) (by
    have hne1 : ez ≠ 1 := by omega
    have hcz : c.length = ez := by omega
    simp [partsOk, nbeq hne1, Value.cells, hcz]) (by simp [flat, Value.cells]) g9 (fun b8 => ?_)
  refine lo_back (sk_js ht1 [1, 3] rfl) ?_
  refine lo_eff rfl rfl ?_
  refine ln_append (i := 2) (v := .slice (some ⟨g, 0, none⟩) i cap) (u := .slice (some ⟨b8, 0, none⟩) 1 1) (m := 1) (news := c) rfl hST hti hzs (by omega) (by simp [ev_t, lk_eq, lk_ne, hne]) (by simp [ev_t, lk_eq, lk_ne, hne]) (src_obj (j := 0) rfl (by rw [hcl, hez2, Nat.one_mul]) (List.all_eq_true.2 hc1)) (by simp only [maxLen]; omega) (by
    have : (i + 1) * by_ ≤ 32768 * by_ := Nat.mul_le_mul_right _ (by omega)
    omega) g10 rfl rfl (fun v' hv' => ?_)
  refine ln_rowshape (i := 2) rfl (fun ad cp hv2 hle hg2 => ?_)
  obtain ⟨g', rfl⟩ := hg2 (by omega)
  subst hv2
  refine lo_back (sk_js ht1 [1, 3] rfl) ?_
  refine lo_eff rfl rfl ?_
  refine ln_pv (pv_fieldAddr (off := off) (r := off) hu hkf hsz ho (by rw [ev_t, lk_ne (lk_fr f10 hp), lk_ne (lk_fr f9 hp), lk_ne (lk_fr f7 hp), lk_ne (lk_fr f6 hp), lk_ne (lk_fr f5 hp), lk_ne (lk_fr f4 hp)]; exact hp) (by omega)) g12 ?_
  refine lo_back (sk_js ht1 [1, 3] rfl) ?_
  refine lo_eff rfl rfl ?_
  refine ln_store1 (i := 3) (v := .slice (some ⟨g', 0, none⟩) (i + 1) cp) rfl lk_eq (by simp [ev_t, lk_eq, lk_ne, hne]) rfl hsz (by simp [Nat.ble_eq]; omega) ?_
  refine lo_last hl6 ?_
  refine lo_nil ?_
  refine at_sub (.skip f12 (.skip f10 (.skip f9 (.skip f7 (.skip f6 (.skip f5 (.skip f4 .rfl'))))))) ?_
  refine at_dropH (H' := TreeBox b5 ci :: .row (.slice (some ⟨g', 0, none⟩) (i + 1) cp) et ez (i + 1) (xs ++ c) :: MsgBox bm MT (M.set off (.slice (some ⟨g', 0, none⟩) (i + 1) cp)) :: TreeBox bt tcs :: H0) ?_ (at_base fun u2 hu2 => kk u2 g' cp c (ht1.trans hu2) ?_)
  · simp only [List.set, set_set]
    exact List.Sublist.cons _ (List.Sublist.refl _)
  · simp only [REl, if_true]
    exact hc.mv hu2
/-- a thing that is no part, appended through a pointer -/
theorem fl_appPN (hp : lk E pm = some (.pointer (some ⟨bm, 0, none⟩))) (htx : lk E tx = some (.pointer (some ⟨b5, 0, none⟩))) (hu : Tryz.prog.underlying MT = some (.struct fs)) (hkf : fs[kf]? = some fl) (hft : fl.type = ST) (hsz : (Tryz.prog.info? ST).map (·.size) = some 1) (ho : fl.offset = off)
    (hST : Tryz.prog.underlying ST = some (.slice et)) (hti : TI Tryz.prog et z 1 by_) (hzs : z.cells.size = 1) (hby : 32768 * by_ ≤ 140737488355328)
    (hut : Tryz.prog.underlying 39 = some (.struct tfs)) (hkt : tfs[kt]? = some tf) (hszt : (Tryz.prog.info? tf.type).map (·.size) = some 1) (hot : tf.offset = kt) (hLT : Tryz.prog.underlying LT = some dd) (hna : aggD dd = false) (hck : ci[kt]? = some w6)
    (hcv : ∀ (L' : Env) (H' : Hp), lk L' d7 = some w6 → PV Tryz.prog (Sk s H') ⟨some d8, .convert SD DD (.tmp d7), ty8, p8, a8, none⟩ n L' v7) (hv1 : v7.oneCell' = true) (ho10 : o ≠ 10) (hR : RS1 s o (-1) y [v7])
    (hf : frs n E [d1, d2, d3, d4, d5, d6, d7, d8, d9, d10, d11, d12] = true) (hlt : off < M.length) (hi : i < 32767) (hxl : xs.length = i * 1)
    (hok : (seqOk [⟨some d1, .move (.tmp pm), ty1, p1, a1, none⟩, ⟨some d2, .move (.tmp pm), ty2, p2, a2, none⟩, ⟨some d3, .nilCheck (.tmp d2), ty3, p3, a3, none⟩, ⟨some d4, .fieldAddr MT (.tmp d3) kf, ty4, p4, a4, none⟩, ⟨some d5, .load ST (.tmp d4), ty5, p5, a5, none⟩, ⟨some d6, .fieldAddr 39 (.tmp tx) kt, ty6, p6, a6, none⟩, ⟨some d7, .load LT (.tmp d6), ty7, p7, a7, none⟩, ⟨some d8, .convert SD DD (.tmp d7), ty8, p8, a8, none⟩, ⟨some d9, .buildSlice ST 1 [(0, .tmp d8)].toArray, ty9, p9, a9, none⟩, ⟨some d10, .call ⟨.builtin .append, #[.tmp d5, .tmp d9], #[ST, ST]⟩, ty10, p10, a10, none⟩, ⟨some d11, .nilCheck (.tmp d1), ty11, p11, a11, none⟩, ⟨some d12, .fieldAddr MT (.tmp d11) kf, ty12, p12, a12, none⟩, ⟨none, .store ST (.tmp d12) (.tmp d10), ty13, p13, a13, none⟩].toArray [0, 1, 2, 3, 4, 5, 6, 7] [0, 1, 2, 3, 4, 5, 6, 7, 8, 9, 10, 11, 12] (Array.replicate 13 false) && Region.noSelect [⟨some d1, .move (.tmp pm), ty1, p1, a1, none⟩, ⟨some d2, .move (.tmp pm), ty2, p2, a2, none⟩, ⟨some d3, .nilCheck (.tmp d2), ty3, p3, a3, none⟩, ⟨some d4, .fieldAddr MT (.tmp d3) kf, ty4, p4, a4, none⟩, ⟨some d5, .load ST (.tmp d4), ty5, p5, a5, none⟩, ⟨some d6, .fieldAddr 39 (.tmp tx) kt, ty6, p6, a6, none⟩, ⟨some d7, .load LT (.tmp d6), ty7, p7, a7, none⟩, ⟨some d8, .convert SD DD (.tmp d7), ty8, p8, a8, none⟩, ⟨some d9, .buildSlice ST 1 [(0, .tmp d8)].toArray, ty9, p9, a9, none⟩, ⟨some d10, .call ⟨.builtin .append, #[.tmp d5, .tmp d9], #[ST, ST]⟩, ty10, p10, a10, none⟩, ⟨some d11, .nilCheck (.tmp d1), ty11, p11, a11, none⟩, ⟨some d12, .fieldAddr MT (.tmp d11) kf, ty12, p12, a12, none⟩, ⟨none, .store ST (.tmp d12) (.tmp d10), ty13, p13, a13, none⟩].toArray && Nat.beq 13 13) = true)
    (hl6 : lateB [⟨some d1, .move (.tmp pm), ty1, p1, a1, none⟩, ⟨some d2, .move (.tmp pm), ty2, p2, a2, none⟩, ⟨some d3, .nilCheck (.tmp d2), ty3, p3, a3, none⟩, ⟨some d4, .fieldAddr MT (.tmp d3) kf, ty4, p4, a4, none⟩, ⟨some d5, .load ST (.tmp d4), ty5, p5, a5, none⟩, ⟨some d6, .fieldAddr 39 (.tmp tx) kt, ty6, p6, a6, none⟩, ⟨some d7, .load LT (.tmp d6), ty7, p7, a7, none⟩, ⟨some d8, .convert SD DD (.tmp d7), ty8, p8, a8, none⟩, ⟨some d9, .buildSlice ST 1 [(0, .tmp d8)].toArray, ty9, p9, a9, none⟩, ⟨some d10, .call ⟨.builtin .append, #[.tmp d5, .tmp d9], #[ST, ST]⟩, ty10, p10, a10, none⟩, ⟨some d11, .nilCheck (.tmp d1), ty11, p11, a11, none⟩, ⟨some d12, .fieldAddr MT (.tmp d11) kf, ty12, p12, a12, none⟩, ⟨none, .store ST (.tmp d12) (.tmp d10), ty13, p13, a13, none⟩].toArray [0, 1, 2, 3, 4, 5, 6, 7] 12 = false)
    (kk : ∀ u' g' cap' , Tr s u' → REl u' o sb y [v7] → At N n E (TreeBox b5 ci :: .row (.slice (some ⟨g', 0, none⟩) (i + 1) cap') et 1 (i + 1) (xs ++ [v7]) :: MsgBox bm MT (M.set off (.slice (some ⟨g', 0, none⟩) (i + 1) cap')) :: TreeBox bt tcs :: H0) C u') :
    Cd Tryz.prog (.region id [⟨some d1, .move (.tmp pm), ty1, p1, a1, none⟩, ⟨some d2, .move (.tmp pm), ty2, p2, a2, none⟩, ⟨some d3, .nilCheck (.tmp d2), ty3, p3, a3, none⟩, ⟨some d4, .fieldAddr MT (.tmp d3) kf, ty4, p4, a4, none⟩, ⟨some d5, .load ST (.tmp d4), ty5, p5, a5, none⟩, ⟨some d6, .fieldAddr 39 (.tmp tx) kt, ty6, p6, a6, none⟩, ⟨some d7, .load LT (.tmp d6), ty7, p7, a7, none⟩, ⟨some d8, .convert SD DD (.tmp d7), ty8, p8, a8, none⟩, ⟨some d9, .buildSlice ST 1 [(0, .tmp d8)].toArray, ty9, p9, a9, none⟩, ⟨some d10, .call ⟨.builtin .append, #[.tmp d5, .tmp d9], #[ST, ST]⟩, ty10, p10, a10, none⟩, ⟨some d11, .nilCheck (.tmp d1), ty11, p11, a11, none⟩, ⟨some d12, .fieldAddr MT (.tmp d11) kf, ty12, p12, a12, none⟩, ⟨none, .store ST (.tmp d12) (.tmp d10), ty13, p13, a13, none⟩].toArray true) ⟨N, R, X⟩ n E (TreeBox b5 ci :: .row (.slice (some ⟨g, 0, none⟩) i cap) et 1 i xs :: MsgBox bm MT (M.set off (.slice (some ⟨g, 0, none⟩) i cap)) :: TreeBox bt tcs :: H0) C s := by
  subst hft
  obtain ⟨hb, hfr, hne⟩ := frs_get hf
  simp only [List.pairwise_cons, List.mem_cons, List.not_mem_nil, or_false, forall_eq_or_imp, forall_eq, List.Pairwise.nil, and_true, false_imp_iff, implies_true] at hb hfr hne
  obtain ⟨f1, f2, f3, f4, f5, f6, f7, f8, f9, f10, f11, f12⟩ := hfr
  obtain ⟨g1, g2, g3, g4, g5, g6, g7, g8, g9, g10, g11, g12⟩ := hb
  refine cd_draw' [0, 2] [0, 1, 2, 3, 4, 5, 6, 7] [0, 1, 2, 3, 4, 5, 6, 7, 8, 9, 10, 11, 12] mixed hok ?_
  refine lo_pv rfl rfl (sk_js (Tr.refl _) [0, 2] rfl) (pv_move hp) g1 ?_
  refine lo_pv rfl rfl (sk_js (Tr.refl _) [0, 2] rfl) (pv_move (by rw [ev_t, lk_ne (lk_fr f1 hp)]; exact hp)) g2 ?_
  refine lo_pv rfl rfl (sk_js (Tr.refl _) [0, 2] rfl) (pv_nilCheck lk_eq) g3 ?_
  refine lo_pv rfl rfl (sk_js (Tr.refl _) [0, 2] rfl) (pv_fieldAddr (off := off) (r := off) hu hkf hsz ho lk_eq (by omega)) g4 ?_
  refine lo_pv rfl rfl (sk_js (Tr.refl _) [0, 2] rfl) (pv_ldo (i := 1) (v := .slice (some ⟨g, 0, none⟩) i cap) rfl hST rfl lk_eq (by simp [hlt])) g5 ?_
  refine lo_pv rfl rfl (sk_js (Tr.refl _) [0, 2] rfl) (pv_fieldAddr (off := kt) (r := kt) hut hkt hszt hot (by rw [ev_t, lk_ne (lk_fr f5 htx), lk_ne (lk_fr f4 htx), lk_ne (lk_fr f3 htx), lk_ne (lk_fr f2 htx), lk_ne (lk_fr f1 htx)]; exact htx) (by omega)) g6 ?_
  refine lo_pv rfl rfl (sk_js (Tr.refl _) [0, 2] rfl) (pv_ldo (i := 0) rfl hLT (by cases dd <;> first | rfl | (simp [aggD] at hna)) lk_eq hck) g7 ?_
  refine lo_pv rfl rfl (sk_js (Tr.refl _) [0, 2] rfl) (hcv _ _ lk_eq) g8 ?_
  refine lo_eff rfl rfl ?_
  refine ln_lit (vs := [v7]) (l := [v7]) hST hti hzs (by omega) (by simp [evPs, numbered, ev_t, lk_eq]) rfl (by simp [Nat.ble_eq]) (by simp [partsOk, hv1]) (by simp [flat, one_cells hv1]) g9 (fun b8 => ?_)
  refine lo_back (sk_js (Tr.refl _) [1, 3] rfl) ?_
  refine lo_eff rfl rfl ?_
  refine ln_append (i := 2) (v := .slice (some ⟨g, 0, none⟩) i cap) (u := .slice (some ⟨b8, 0, none⟩) 1 1) (m := 1) (news := [v7]) rfl hST hti hzs (by omega) (by simp [ev_t, lk_eq, lk_ne, hne]) (by simp [ev_t, lk_eq, lk_ne, hne]) (src_obj (j := 0) rfl (rfl) (by simp [hv1])) (by simp only [maxLen]; omega) (by
    have : (i + 1) * by_ ≤ 32768 * by_ := Nat.mul_le_mul_right _ (by omega)
    omega) g10 rfl rfl (fun v' hv' => ?_)
  refine ln_rowshape (i := 2) rfl (fun ad cp hv2 hle hg2 => ?_)
  obtain ⟨g', rfl⟩ := hg2 (by omega)
  subst hv2
  refine lo_back (sk_js (Tr.refl _) [1, 3] rfl) ?_
  refine lo_eff rfl rfl ?_
  refine ln_pv (pv_nilCheck (by rw [ev_t, lk_ne (by simp [hne]), lk_ne (by simp [hne]), lk_ne (by simp [hne]), lk_ne (by simp [hne]), lk_ne (by simp [hne]), lk_ne (by simp [hne]), lk_ne (by simp [hne]), lk_ne (by simp [hne]), lk_ne (by simp [hne]), lk_eq])) g11 ?_
  refine lo_back (sk_js (Tr.refl _) [1, 3] rfl) ?_
  refine lo_eff rfl rfl ?_
  refine ln_pv (pv_fieldAddr (off := off) (r := off) hu hkf hsz ho lk_eq (by omega)) g12 ?_
  refine lo_back (sk_js (Tr.refl _) [1, 3] rfl) ?_
  refine lo_eff rfl rfl ?_
  refine ln_store1 (i := 3) (v := .slice (some ⟨g', 0, none⟩) (i + 1) cp) rfl lk_eq (by simp [ev_t, lk_eq, lk_ne, hne]) rfl hsz (by simp [Nat.ble_eq]; omega) ?_
  refine lo_last hl6 ?_
  refine lo_nil ?_
  refine at_sub (.skip f12 (.skip f11 (.skip f10 (.skip f9 (.skip f8 (.skip f7 (.skip f6 (.skip f5 (.skip f4 (.skip f3 (.skip f2 (.skip f1 .rfl')))))))))))) ?_
  refine at_dropH (H' := TreeBox b5 ci :: .row (.slice (some ⟨g', 0, none⟩) (i + 1) cp) et 1 (i + 1) (xs ++ [v7]) :: MsgBox bm MT (M.set off (.slice (some ⟨g', 0, none⟩) (i + 1) cp)) :: TreeBox bt tcs :: H0) ?_ (at_base fun u2 hu2 => kk u2 g' cp hu2 ?_)
  · simp only [List.set, set_set]
    exact List.Sublist.cons _ (List.Sublist.refl _)
  · simp only [REl, if_neg ho10]
    exact hR.mv hu2
/-- the same, in a variable of the function's own -/
theorem fl_appLN (hp : lk E pm = some (.pointer (some ⟨bm, 0, none⟩))) (htx : lk E tx = some (.pointer (some ⟨b5, 0, none⟩))) (hu : Tryz.prog.underlying MT = some (.struct fs)) (hkf : fs[kf]? = some fl) (hft : fl.type = ST) (hsz : (Tryz.prog.info? ST).map (·.size) = some 1) (ho : fl.offset = off)
    (hST : Tryz.prog.underlying ST = some (.slice et)) (hti : TI Tryz.prog et z 1 by_) (hzs : z.cells.size = 1) (hby : 32768 * by_ ≤ 140737488355328)
    (hut : Tryz.prog.underlying 39 = some (.struct tfs)) (hkt : tfs[kt]? = some tf) (hszt : (Tryz.prog.info? tf.type).map (·.size) = some 1) (hot : tf.offset = kt) (hLT : Tryz.prog.underlying LT = some dd) (hna : aggD dd = false) (hck : ci[kt]? = some w6)
    (hcv : ∀ (L' : Env) (H' : Hp), lk L' d7 = some w6 → PV Tryz.prog (Sk s H') ⟨some d8, .convert SD DD (.tmp d7), ty5, p5, a5, none⟩ n L' v7) (hv1 : v7.oneCell' = true) (ho10 : o ≠ 10) (hR : RS1 s o (-1) y [v7])
    (hf : frs n E [d4, d5, d6, d7, d8, d9, d10, d12] = true) (hlt : off < M.length) (hi : i < 32767) (hxl : xs.length = i * 1)
    (kk : ∀ u' g' cap' , Tr s u' → REl u' o sb y [v7] → At N n E (TreeBox b5 ci :: .row (.slice (some ⟨g', 0, none⟩) (i + 1) cap') et 1 (i + 1) (xs ++ [v7]) :: MsgBox bm MT (M.set off (.slice (some ⟨g', 0, none⟩) (i + 1) cap')) :: TreeBox bt tcs :: H0) C u') :
    Cd Tryz.prog (.region id [⟨some d4, .fieldAddr MT (.tmp pm) kf, ty1, p1, a1, none⟩, ⟨some d5, .load ST (.tmp d4), ty2, p2, a2, none⟩, ⟨some d6, .fieldAddr 39 (.tmp tx) kt, ty3, p3, a3, none⟩, ⟨some d7, .load LT (.tmp d6), ty4, p4, a4, none⟩, ⟨some d8, .convert SD DD (.tmp d7), ty5, p5, a5, none⟩, ⟨some d9, .buildSlice ST 1 [(0, .tmp d8)].toArray, ty6, p6, a6, none⟩, ⟨some d10, .call ⟨.builtin .append, #[.tmp d5, .tmp d9], #[ST, ST]⟩, ty7, p7, a7, none⟩, ⟨some d12, .fieldAddr MT (.tmp pm) kf, ty8, p8, a8, none⟩, ⟨none, .store ST (.tmp d12) (.tmp d10), ty9, p9, a9, none⟩].toArray false) ⟨N, R, X⟩ n E (TreeBox b5 ci :: .row (.slice (some ⟨g, 0, none⟩) i cap) et 1 i xs :: MsgBox bm MT (M.set off (.slice (some ⟨g, 0, none⟩) i cap)) :: TreeBox bt tcs :: H0) C s := by
  subst hft
  obtain ⟨hb, hfr, hne⟩ := frs_get hf
  simp only [List.pairwise_cons, List.mem_cons, List.not_mem_nil, or_false, forall_eq_or_imp, forall_eq, List.Pairwise.nil, and_true, false_imp_iff, implies_true] at hb hfr hne
  obtain ⟨f4, f5, f6, f7, f8, f9, f10, f12⟩ := hfr
  obtain ⟨g4, g5, g6, g7, g8, g9, g10, g12⟩ := hb
  refine cd_region ?_
  refine ln_pv (pv_fieldAddr (off := off) (r := off) hu hkf hsz ho hp (by omega)) g4 ?_
  refine ln_pv (pv_ldo (i := 2) (v := .slice (some ⟨g, 0, none⟩) i cap) rfl hST rfl lk_eq (by simp [hlt])) g5 ?_
  refine ln_pv (pv_fieldAddr (off := kt) (r := kt) hut hkt hszt hot (by rw [ev_t, lk_ne (lk_fr f5 htx), lk_ne (lk_fr f4 htx)]; exact htx) (by omega)) g6 ?_
  refine ln_pv (pv_ldo (i := 0) rfl hLT (by cases dd <;> first | rfl | (simp [aggD] at hna)) lk_eq hck) g7 ?_
  refine ln_pv (hcv _ _ lk_eq) g8 ?_
  refine ln_lit (vs := [v7]) (l := [v7]) hST hti hzs (by omega) (by simp [evPs, numbered, ev_t, lk_eq]) rfl (by simp [Nat.ble_eq]) (by simp [partsOk, hv1]) (by simp [flat, one_cells hv1]) g9 (fun b8 => ?_)
  refine ln_append (i := 2) (v := .slice (some ⟨g, 0, none⟩) i cap) (u := .slice (some ⟨b8, 0, none⟩) 1 1) (m := 1) (news := [v7]) rfl hST hti hzs (by omega) (by simp [ev_t, lk_eq, lk_ne, hne]) (by simp [ev_t, lk_eq, lk_ne, hne]) (src_obj (j := 0) rfl (rfl) (by simp [hv1])) (by simp only [maxLen]; omega) (by
    have : (i + 1) * by_ ≤ 32768 * by_ := Nat.mul_le_mul_right _ (by omega)
    omega) g10 rfl rfl (fun v' hv' => ?_)
  refine ln_rowshape (i := 2) rfl (fun ad cp hv2 hle hg2 => ?_)
  obtain ⟨g', rfl⟩ := hg2 (by omega)
  subst hv2
  refine ln_pv (pv_fieldAddr (off := off) (r := off) hu hkf hsz ho (by rw [ev_t, lk_ne (lk_fr f10 hp), lk_ne (lk_fr f9 hp), lk_ne (lk_fr f8 hp), lk_ne (lk_fr f7 hp), lk_ne (lk_fr f6 hp), lk_ne (lk_fr f5 hp), lk_ne (lk_fr f4 hp)]; exact hp) (by omega)) g12 ?_
  refine ln_store1 (i := 3) (v := .slice (some ⟨g', 0, none⟩) (i + 1) cp) rfl lk_eq (by simp [ev_t, lk_eq, lk_ne, hne]) rfl hsz (by simp [Nat.ble_eq]; omega) ?_
  refine ln_nil ?_
  refine at_sub (.skip f12 (.skip f10 (.skip f9 (.skip f8 (.skip f7 (.skip f6 (.skip f5 (.skip f4 .rfl')))))))) ?_
  refine at_dropH (H' := TreeBox b5 ci :: .row (.slice (some ⟨g', 0, none⟩) (i + 1) cp) et 1 (i + 1) (xs ++ [v7]) :: MsgBox bm MT (M.set off (.slice (some ⟨g', 0, none⟩) (i + 1) cp)) :: TreeBox bt tcs :: H0) ?_ (at_base fun u2 hu2 => kk u2 g' cp hu2 ?_)
  · simp only [List.set, set_set]
    exact List.Sublist.cons _ (List.Sublist.refl _)
  · simp only [REl, if_neg ho10]
    exact hR.mv hu2
end
end K
end Go.Proofs.YtmknncmdbmnmgabGreat
namespace Go.Proofs.YtmknncmdbmnmgabGreat
namespace K
open Go Go.Lib
/-! ### What is asked of a tree that a message is filled from -/
mutual
def gT : Tre → Prop
  | .mk _ _ _ l u => (u.map (·.1)).Nodup ∧ u.length ≤ 32767 ∧ l.length ≤ 32767 ∧ gTs l
def gTs : List Tre → Prop
  | [] => True
  | x :: r => gT x ∧ gTs r
end
theorem gTs.mem : ∀ {l : List Tre}, gTs l → ∀ x ∈ l, gT x
  | [], _, f, h => by simp at h
  | g :: r, h, f, hf => by
    simp only [gTs] at h
    rcases List.mem_cons.1 hf with rfl | hf
    · exact h.1
    · exact gTs.mem h.2 f hf
theorem gTs.of : ∀ {l : List Tre}, (∀ x ∈ l, gT x) → gTs l
  | [], _ => by simp [gTs]
  | g :: r, h => by
    simp only [gTs]
    exact ⟨h g (by simp), gTs.of fun x hx => h x (by simp [hx])⟩
theorem gT.open {x : Tre} (h : gT x) : (x.u.map (·.1)).Nodup ∧ x.u.length ≤ 32767 ∧ x.l.length ≤ 32767 ∧ gTs x.l := by
  cases x
  simpa only [gT, Tre.l, Tre.u] using h
theorem gT.nul : gT .nul := by simp [Tre.nul, gT, gTs]
theorem gT.at_ {x : Tre} (h : gT x) (i : Nat) : gT (x.at_ i) := by
  unfold Tre.at_
  by_cases hi : i < x.l.length
  · rw [List.getElem?_eq_getElem hi]
    exact gTs.mem h.open.2.2.2 _ (List.getElem_mem hi)
  · rw [List.getElem?_eq_none (by omega)]
    exact gT.nul
mutual
def fewF : Fld → Bool
  | .mk _ _ _ _ _ _ _ sub => Nat.ble sub.length 32767 && fewFs sub
def fewFs : List Fld → Bool
  | [] => true
  | f :: r => fewF f && fewFs r
end
theorem gT_u (k : Int) (u : Tags) : (((unkn k u).map cut).map (·.1)).Nodup ∧ ((unkn k u).map cut).length ≤ 32767 :=
  ⟨keys_nodup (srt_cut (unkn_sorted _ _)), by rw [List.length_map]; exact unkn_le _ _⟩
theorem fitL_len : ∀ (fs : List Fld) (v : Int) (x : Tre) (i : Nat), (fitL fs v x i).length = fs.length
  | [], v, x, i => rfl
  | f :: r, v, x, i => by simp [fitL, fitL_len r v x (i + 1)]
mutual
theorem gT_fitF : ∀ (f : Fld) (v : Int) (x : Tre), fewF f = true → gT (fitF f v x)
  | .mk k a b nul tag d o sub, v, x, hok => by
    simp only [fewF, Bool.and_eq_true, Nat.ble_eq] at hok
    have hL : ∀ y, gTs (fitL sub v y 0) := fun y => gT_fitL sub v y 0 hok.2
    have hlen : ∀ y, (fitL sub v y 0).length ≤ 32767 := fun y => by rw [fitL_len]; exact hok.1
    simp only [fitF]
    split
    · simp [gT, gTs]
    · split
      · simp only [gT]
        exact ⟨(gT_u _ _).1, (gT_u _ _).2, hlen x, hL x⟩
      · split
        · simp only [gT]
          refine ⟨by simp, by simp, by rw [List.length_map, List.length_take]; omega, gTs.of fun y hy => ?_⟩
          obtain ⟨z, _, rfl⟩ := List.mem_map.1 hy
          split
          · simp [gT, gTs]
          · split
            · simp only [gT]
              exact ⟨(gT_u _ _).1, (gT_u _ _).2, hlen z, hL z⟩
            · simp [gT, gTs]
        · simp [gT, gTs]
theorem gT_fitL : ∀ (fs : List Fld) (v : Int) (x : Tre) (i : Nat), fewFs fs = true → gTs (fitL fs v x i)
  | [], v, x, i, hok => by simp [fitL, gTs]
  | f :: r, v, x, i, hok => by
    simp only [fewFs, Bool.and_eq_true] at hok
    simp only [fitL, gTs]
    exact ⟨gT_fitF f v (x.at_ i) hok.1, gT_fitL r v x (i + 1) hok.2⟩
end
theorem gT_fitT (fs : List Fld) (v : Int) (x : Tre) (hl : fs.length ≤ 32767) (hok : fewFs fs = true) : gT (fitT fs v x) := by
  simp only [fitT, gT]
  exact ⟨(gT_u _ _).1, (gT_u _ _).2, by rw [fitL_len]; exact hl, gT_fitL fs v x 0 hok⟩
section
variable {P : Program} {n : Nat} {L : Env} {H H' : Hp} {C : Cx} {s : Vw} {p : Post} {c : Code} {K : Act → World → Prop} {ops : Array Oper} {rest : List Oper} {S : World → Prop} {d : Option Nat} {g : Option (Nat × Bool)}
variable {ty : TypeId} {pos : String} {af : Array Edge}
end
theorem uuid_copied (l : List UInt8) : (u8s l).take 16 ++ (List.replicate 16 (Value.int .u8 0)).drop l.length = u8s (uuid l) := by
  have e : ∀ k, (List.replicate 16 (Value.int .u8 0)).drop k = u8s (List.replicate (16 - k) 0) := fun k => by
    rw [List.drop_replicate]
    simp only [u8s, List.map_replicate]
    rfl
  rw [e, uuid]
  simp only [u8s, List.map_append, List.map_take]
theorem impl_sixteen (t : Vw) (v : Value) (l : List UInt8) (hv : RSv t v l) : CA Tryz.prog 114 [v] t fun _ r => r = .agg (u8s (uuid l)).toArray := by
  refine ca_enter Tryz.func114 rfl Tryz.ntmps114 rfl ?_
  refine cd_sr ?_
  refine ln_alloc (l := List.replicate 16 (Value.int .u8 0)) ti_16_uint8 rfl rfl (fun b1 => ?_)
  refine ln_cd ?_
  refine cd_sr ?_
  refine ln_pv (pv_slice_arr Tryz.underlying105 (by have := (tiuint8 : TI Tryz.prog _ _ _ _).size; obtain ⟨ii, h, _⟩ := Option.map_eq_some_iff.1 this; exact Option.isSome_iff_exists.2 ⟨ii, h⟩) rfl) rfl ?_
  refine ln_pv (pv_move (v := v) rfl) rfl ?_
  refine ln_copyO (i := 0) (l' := u8s (uuid l)) (m2 := l.length) (news := u8s l) rfl Tryz.underlying22 tiuint8.size rfl rfl (RS.src hv) (by simp) rfl (by exact uuid_copied l) ?_
  refine ln_cd ?_
  refine cd_sr ?_
  refine ln_pv (pv_ldO (i := 0) rfl Tryz.underlying105 rfl ti_16_uint8.size rfl (by simp [uuid_length])) rfl ?_
  refine ln_storeW (i := 0) (vs := u8s (uuid l)) rfl rfl rfl rfl (by rw [show (u8s (uuid l)).length = 16 by simp [uuid_length]]; exact ti_16_uint8.size) rfl (u8s_one _) ?_
  refine ln_cd ?_
  refine cd_ret ?_
  exact at_retC (i := 0) rfl rfl rfl Tryz.underlying105 rfl ti_16_uint8.size (by simp [uuid_length]) (fun w hS => rfl)
end K
end Go.Proofs.YtmknncmdbmnmgabGreat
namespace Go.Proofs.YtmknncmdbmnmgabGreat
namespace K
open Go Go.Lib
section
variable {n : Nat} {L E : Env} {H H0 H1 : Hp} {C : Cx} {s : Vw} {N R : Act → World → Prop} {X : List (Nat × (Act → World → Prop))} {K : Act → World → Prop} {ops : Array Oper} {rest : List Oper}
variable {id : Nat} {tt pm d0 d1 d2 d3 d4 d5 d6 d7 : Nat} {x : Tre} {tcs : List Value} {bt bm off j kf ez by_ : Nat} {MT ST et : TypeId} {M M' : List Value} {z : Value}
variable {ty0 ty1 ty2 ty3 ty4 ty5 ty6 ty7 ty8 : TypeId} {p0 p1 p2 p3 p4 p5 p6 p7 p8 : String} {a0 a1 a2 a3 a4 a5 a6 a7 a8 : Array Edge} {tys : Array TypeId}
variable {fs : Array Field} {fl : Field} {pos : String} {af : Array Edge} {ty : TypeId}
theorem RT.i64 {x : Tre} {n : Int} {s' z l u : Value} (h : RT s x [.int .i64 n, s', z, l, u]) : I64 n := by
  obtain ⟨_, _, _, hc, h1, _⟩ := h.open
  simp only [List.cons.injEq, Value.int.injEq, true_and] at hc
  exact hc.1 ▸ h1
theorem RT.str {x : Tre} {n s' z l u : Value} (h : RT s x [n, s', z, l, u]) : RSv s s' x.s := by
  obtain ⟨_, _, _, hc, _, h1, _⟩ := h.open
  simp only [List.cons.injEq] at hc
  exact hc.2.1 ▸ h1
theorem RMl_nil {y : Tre} {i : Nat} : RMl s [] y i [] := by simp [RMl]
theorem RMl_cons {f : Fld} {r : List Fld} {y : Tre} {i : Nat} {c c' : List Value} (h1 : RMf s f (y.at_ i) c) (h2 : RMl s r y (i + 1) c') : RMl s (f :: r) y i (c ++ c') := by
  simp only [RMl]
  exact ⟨c, c', rfl, h1, h2⟩
theorem frs_via {ds : List Nat} {tx ti tl ts : Nat} {v : Value} (h : ∀ d, fr d L = true → ¬ d = tx → ¬ d = ti → ¬ d = tl → ¬ d = ts → fr d E = true) : frs n ((tx, v) :: (ti, v) :: (tl, v) :: (ts, v) :: L) ds = true → frs n E ds = true := by
  induction ds with
  | nil => intro _; rfl
  | cons d r ih =>
    intro hh
    simp only [frs, fr, Bool.and_eq_true, Bool.not_eq_true'] at hh ⊢
    obtain ⟨⟨⟨h1, h2, h3, h4, h5, h6⟩, h7⟩, h8⟩ := hh
    have hb : ∀ a : Nat, Nat.beq a d = false → ¬ d = a := fun a hq e => by subst e; simp at hq
    exact ⟨⟨⟨h1, h d h6 (hb _ h2) (hb _ h3) (hb _ h4) (hb _ h5)⟩, h7⟩, ih h8⟩
theorem at_msg (h : M = M') (k : At K n L (MsgBox bm MT M' :: H1) C s) : At K n L (MsgBox bm MT M :: H1) C s := h ▸ k
theorem ln_storeM {t : TypeId} {a b : Operand} {v : Value} (hx : ev L a = some (.pointer (some ⟨bm, off, none⟩))) (hy : ev L b = some v) (h1 : v.oneCell' = true) (hsz : (Tryz.prog.info? t).map (·.size) = some 1) (hlt : off < M.length) (hM : M.set off v = M')
    (k : Ln Tryz.prog ops rest K n L (MsgBox bm MT M' :: H1) C s) : Ln Tryz.prog ops (⟨none, .store t a b, ty, pos, af, none⟩ :: rest) K n L (MsgBox bm MT M :: H1) C s := by
  subst hM
  exact ln_store1 (i := 0) rfl hx hy h1 hsz (by simp [Nat.ble_eq]; omega) k
/-- more cells than one -/
theorem ln_storeMA {t : TypeId} {a b : Operand} {vs : List Value} {m : Nat} (hx : ev L a = some (.pointer (some ⟨bm, off, none⟩))) (hy : ev L b = some (.agg vs.toArray)) (hvs : vs.length = m) (h1 : ∀ u ∈ vs, u.oneCell' = true) (hsz : (Tryz.prog.info? t).map (·.size) = some m) (hlt : off + m ≤ M.length) (hM : wr M off vs = M')
    (k : Ln Tryz.prog ops rest K n L (MsgBox bm MT M' :: H1) C s) : Ln Tryz.prog ops (⟨none, .store t a b, ty, pos, af, none⟩ :: rest) K n L (MsgBox bm MT M :: H1) C s :=
  ln_store (i := 0) (vs := vs) rfl hx hy rfl (by rw [hvs]; exact hsz) (by simp [Nat.ble_eq, hvs]; omega) (List.all_eq_true.2 h1) hM k
/-- if not null, with what follows at hand -/
theorem fl_nl {A : Code} {o : Int} {sb : List Fld} (htt : lk L tt = some (.pointer (some ⟨bt, 0, none⟩))) (hx : RT s x tcs) (hf : frs n L [d1, d2, d3, d4] = true) (hz0 : M[off]? = some (.slice none 0 0))
    (kk : ∀ u c, Tr s u → RLs u o sb (x.at_ j) c → At N n L (MsgBox bm MT (M.set off c) :: TreeBox bt tcs :: H0) C u)
    (hA : (x.at_ j).z = false → ∀ u, Tr s u → (∀ u' c, Tr u u' → RLs u' o sb (x.at_ j) c → At N n L (MsgBox bm MT (M.set off c) :: TreeBox bt tcs :: H0) C u') → Cd Tryz.prog A ⟨N, R, X⟩ n L (MsgBox bm MT M :: TreeBox bt tcs :: H0) C u) :
    Cd Tryz.prog (.seq (.region id [⟨some d1, .load 39 (.tmp tt), ty1, p1, a1, none⟩, ⟨some d2, .call ⟨.value (.func 61), [.tmp d1, .const (.int .i64 (j : Int))].toArray, tys⟩, ty2, p2, a2, none⟩,
      ⟨some d3, .field 39 (.tmp d2) 2, ty3, p3, a3, none⟩, ⟨some d4, .unOp .not ty5 (.tmp d3), ty4, p4, a4, none⟩].toArray false) (.cond (.tmp d4) A .skip)) ⟨N, R, X⟩ n L (MsgBox bm MT M :: TreeBox bt tcs :: H0) C s :=
  fl_null htt hx hf hz0 kk (fun hz u hu => hA hz u hu fun u' c h1 h2 => kk u' c (hu.trans h1) h2)
theorem frs_mem {ds : List Nat} (h : frs n L ds = true) : (∀ d ∈ ds, Nat.blt d n = true ∧ fr d L = true) ∧ ds.Pairwise (fun a b => ¬ a = b) := frs.all h
/-- the list is made, its room as great as it must be: through a pointer -/
theorem fl_makeP (hp : lk L pm = some (.pointer (some ⟨bm, 0, none⟩))) (htt : lk L tt = some (.pointer (some ⟨bt, 0, none⟩))) (hx : RT s x tcs) (hl : (x.at_ j).l.length ≤ 32767) (hu : Tryz.prog.underlying MT = some (.struct fs)) (hkf : fs[kf]? = some fl) (hft : fl.type = ST) (hsz : (Tryz.prog.info? ST).map (·.size) = some 1) (ho : fl.offset = off)
    (hST : Tryz.prog.underlying ST = some (.slice et)) (hti : TI Tryz.prog et z ez by_) (hby : by_ ≤ 4294967296) (hf : frs n L [d0, d1, d2, d3, d4, d5, d6, d7] = true) (hlt : off < M.length)
    (kk : ∀ u g cap, Tr s u → At N n L (.row (.slice (some ⟨g, 0, none⟩) 0 cap) et ez 0 [] :: MsgBox bm MT (M.set off (.slice (some ⟨g, 0, none⟩) 0 cap)) :: TreeBox bt tcs :: H0) C u) :
    Cd Tryz.prog (.region id [⟨some d0, .move (.tmp pm), ty0, p0, a0, none⟩, ⟨some d1, .load 39 (.tmp tt), ty1, p1, a1, none⟩, ⟨some d2, .call ⟨.value (.func 61), [.tmp d1, .const (.int .i64 (j : Int))].toArray, tys⟩, ty2, p2, a2, none⟩,
      ⟨some d3, .field 39 (.tmp d2) 3, ty3, p3, a3, none⟩, ⟨some d4, .call ⟨.builtin .len, #[.tmp d3], #[36]⟩, ty4, p4, a4, none⟩, ⟨some d5, .makeSlice ST (.const (.int .i64 0)) (.tmp d4), ty5, p5, a5, none⟩,
      ⟨some d6, .nilCheck (.tmp d0), ty6, p6, a6, none⟩, ⟨some d7, .fieldAddr MT (.tmp d6) kf, ty7, p7, a7, none⟩, ⟨none, .store ST (.tmp d7) (.tmp d5), ty8, p8, a8, none⟩].toArray false) ⟨N, R, X⟩ n L (MsgBox bm MT M :: TreeBox bt tcs :: H0) C s := by
  subst hft
  have hff := hf
  obtain ⟨hb, hfr, hne⟩ := frs_get hf
  simp only [List.pairwise_cons, List.mem_cons, List.not_mem_nil, or_false, forall_eq_or_imp, forall_eq, List.Pairwise.nil, and_true, false_imp_iff, implies_true] at hb hfr hne
  obtain ⟨f0, f1, f2, f3, f4, f5, f6, f7⟩ := hfr
  obtain ⟨g0, g1, g2, g3, g4, g5, g6, g7⟩ := hb
  have hf2 : ∀ v : Value, frs n ((d0, v) :: L) [d1, d2] = true := fun v => by
    simp only [frs, fr, Bool.and_eq_true, List.all_cons, List.all_nil] at hff ⊢
    have h1 : Nat.beq d0 d1 = false := nbeq hne.1.1.1
    have h2 : Nat.beq d0 d2 = false := nbeq hne.1.2.1.1
    simp_all
  refine cd_region ?_
  refine ln_pv (pv_move hp) g0 ?_
  refine ln_at (i0 := 1) (by rw [lk_ne (lk_fr f0 htt)]; exact htt) rfl hx (hf2 _) (fun u sS sL sU hu' hds => ?_)
  obtain ⟨_, _, _, hcells, _, _, ⟨lc, hL, hLs⟩, _⟩ := hds.open
  simp only [List.cons.injEq, true_and, and_true] at hcells
  obtain ⟨rfl, rfl, rfl⟩ := hcells
  obtain ⟨adL, cL, rfl, hleL⟩ := hL.shape
  refine ln_pv (pv_field1 (v := .slice adL (x.at_ j).l.length cL) Tryz.underlying39 rfl Tryz.underlying36 rfl lk_eq rfl) g3 ?_
  refine ln_pv (pv_len_slice Tryz.underlying36 lk_eq) g4 ?_
  refine ln_make0' (c := (x.at_ j).l.length) hST hti ev_c lk_eq (by have : by_ * (x.at_ j).l.length ≤ 4294967296 * 32767 := Nat.mul_le_mul hby hl; omega) (by simp only [maxLen]; omega) g5 (fun g => ?_)
  refine ln_pv (pv_nilCheck (by rw [ev_t, lk_ne (by simp [hne]), lk_ne (by simp [hne]), lk_ne (by simp [hne]), lk_ne (by simp [hne]), lk_eq])) g6 ?_
  refine ln_pv (pv_fieldAddr (off := off) (r := off) hu hkf hsz ho lk_eq (by omega)) g7 ?_
  refine ln_store1 (i := 1) (v := .slice (some ⟨g, 0, none⟩) 0 (x.at_ j).l.length) rfl lk_eq (by simp [ev_t, lk_eq, lk_ne, hne]) rfl hsz (by simp [Nat.ble_eq]; omega) ?_
  refine ln_nil ?_
  refine at_sub (.skip f7 (.skip f6 (.skip f5 (.skip f4 (.skip f3 (.skip f2 (.skip f0 .rfl'))))))) ?_
  exact kk u g _ hu'
/-- the same, in a variable of the function's own -/
theorem fl_makeL (hp : lk L pm = some (.pointer (some ⟨bm, 0, none⟩))) (htt : lk L tt = some (.pointer (some ⟨bt, 0, none⟩))) (hx : RT s x tcs) (hl : (x.at_ j).l.length ≤ 32767) (hu : Tryz.prog.underlying MT = some (.struct fs)) (hkf : fs[kf]? = some fl) (hft : fl.type = ST) (hsz : (Tryz.prog.info? ST).map (·.size) = some 1) (ho : fl.offset = off)
    (hST : Tryz.prog.underlying ST = some (.slice et)) (hti : TI Tryz.prog et z ez by_) (hby : by_ ≤ 4294967296) (hf : frs n L [d1, d2, d3, d4, d5, d7] = true) (hlt : off < M.length)
    (kk : ∀ u g cap, Tr s u → At N n L (.row (.slice (some ⟨g, 0, none⟩) 0 cap) et ez 0 [] :: MsgBox bm MT (M.set off (.slice (some ⟨g, 0, none⟩) 0 cap)) :: TreeBox bt tcs :: H0) C u) :
    Cd Tryz.prog (.region id [⟨some d1, .load 39 (.tmp tt), ty1, p1, a1, none⟩, ⟨some d2, .call ⟨.value (.func 61), [.tmp d1, .const (.int .i64 (j : Int))].toArray, tys⟩, ty2, p2, a2, none⟩,
      ⟨some d3, .field 39 (.tmp d2) 3, ty3, p3, a3, none⟩, ⟨some d4, .call ⟨.builtin .len, #[.tmp d3], #[36]⟩, ty4, p4, a4, none⟩, ⟨some d5, .makeSlice ST (.const (.int .i64 0)) (.tmp d4), ty5, p5, a5, none⟩,
      ⟨some d7, .fieldAddr MT (.tmp pm) kf, ty7, p7, a7, none⟩, ⟨none, .store ST (.tmp d7) (.tmp d5), ty8, p8, a8, none⟩].toArray false) ⟨N, R, X⟩ n L (MsgBox bm MT M :: TreeBox bt tcs :: H0) C s := by
  subst hft
  have hff := hf
  obtain ⟨hb, hfr, hne⟩ := frs_get hf
  simp only [List.pairwise_cons, List.mem_cons, List.not_mem_nil, or_false, forall_eq_or_imp, forall_eq, List.Pairwise.nil, and_true, false_imp_iff, implies_true] at hb hfr hne
  obtain ⟨f1, f2, f3, f4, f5, f7⟩ := hfr
  obtain ⟨g1, g2, g3, g4, g5, g7⟩ := hb
  have hf2 : frs n L [d1, d2] = true := by
    simp only [frs, Bool.and_eq_true, List.all_cons, List.all_nil] at hff ⊢
    simp_all
  refine cd_region ?_
  refine ln_at (i0 := 1) htt rfl hx hf2 (fun u sS sL sU hu' hds => ?_)
  obtain ⟨_, _, _, hcells, _, _, ⟨lc, hL, hLs⟩, _⟩ := hds.open
  simp only [List.cons.injEq, true_and, and_true] at hcells
  obtain ⟨rfl, rfl, rfl⟩ := hcells
  obtain ⟨adL, cL, rfl, hleL⟩ := hL.shape
  refine ln_pv (pv_field1 (v := .slice adL (x.at_ j).l.length cL) Tryz.underlying39 rfl Tryz.underlying36 rfl lk_eq rfl) g3 ?_
  refine ln_pv (pv_len_slice Tryz.underlying36 lk_eq) g4 ?_
  refine ln_make0' (c := (x.at_ j).l.length) hST hti ev_c lk_eq (by have : by_ * (x.at_ j).l.length ≤ 4294967296 * 32767 := Nat.mul_le_mul hby hl; omega) (by simp only [maxLen]; omega) g5 (fun g => ?_)
  refine ln_pv (pv_fieldAddr (off := off) (r := off) hu hkf hsz ho (by rw [ev_t, lk_ne (lk_fr f5 hp), lk_ne (lk_fr f4 hp), lk_ne (lk_fr f3 hp), lk_ne (lk_fr f2 hp)]; exact hp) (by omega)) g7 ?_
  refine ln_store1 (i := 1) (v := .slice (some ⟨g, 0, none⟩) 0 (x.at_ j).l.length) rfl lk_eq (by simp [ev_t, lk_eq, lk_ne, hne]) rfl hsz (by simp [Nat.ble_eq]; omega) ?_
  refine ln_nil ?_
  refine at_sub (.skip f7 (.skip f5 (.skip f4 (.skip f3 (.skip f2 .rfl'))))) ?_
  exact kk u g _ hu'
end
end K
end Go.Proofs.YtmknncmdbmnmgabGreat
