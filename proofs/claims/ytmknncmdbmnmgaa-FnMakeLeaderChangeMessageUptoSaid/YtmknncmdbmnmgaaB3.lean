import Derived.Test.YtmknncmdbmnmgaaB2
set_option linter.unusedVariables false
set_option linter.unusedSimpArgs false
namespace Go.Proofs.Ytmknncmdbmnmgaa
namespace K
open Go Go.Lib
section
variable {n : Nat} {E : Env} {H H0 : Hp} {C : Cx} {s : Vw} {N R : Act → World → Prop} {X : List (Nat × (Act → World → Prop))} {K : Act → World → Prop} {ops : Array Oper} {rest : List Oper}
variable {id : Nat} {tx pm d1 d2 d3 d4 d5 d6 d7 d8 d9 d10 d11 d12 : Nat} {bt bm b5 off i kf g cap ez by_ kt : Nat} {MT ST et xt LT SD DD : TypeId} {M xs ci tcs : List Value} {f : FuncId} {z : Value}
variable {ty1 ty2 ty3 ty4 ty5 ty6 ty7 ty8 ty9 ty10 ty11 ty12 ty13 : TypeId} {p1 p2 p3 p4 p5 p6 p7 p8 p9 p10 p11 p12 p13 : String} {a1 a2 a3 a4 a5 a6 a7 a8 a9 a10 a11 a12 a13 : Array Edge} {tys : Array TypeId}
variable {fs tfs : Array Field} {sz : Nat} {fl tf : Field} {o : Int} {sb : List Fld} {y : Tre} {w6 v7 : Value} {dd : TypeDesc}
theorem ln_rowshape {P : Program} {L : Env} {l : List Oper} {i : Nat} {v : Value} {e : TypeId} {sz m : Nat} {xs : List Value} (hi : H[i]? = some (.row v e sz m xs)) (h : ∀ ad cp, v = .slice ad m cp → m ≤ cp → (0 < m → ∃ g, ad = some ⟨g, 0, none⟩) → Ln P ops l K n L H C s) : Ln P ops l K n L H C s := fun a w hF hS => by
  obtain ⟨ad, cp, h1, h2, h3⟩ := ownsRow_shape (hS.hf _ (List.mem_of_getElem? hi))
  exact h ad cp h1 h2 h3 a w hF hS
/-- a thing that is a part, appended through a pointer -/
theorem fl_appPS (hp : lk E pm = some (.pointer (some ⟨bm, 0, none⟩))) (htx : lk E tx = some (.pointer (some ⟨b5, 0, none⟩))) (hu : Try.prog.underlying MT = some (.struct fs)) (hkf : fs[kf]? = some fl) (hft : fl.type = ST) (hsz : (Try.prog.info? ST).map (·.size) = some 1) (ho : fl.offset = off)
    (hST : Try.prog.underlying ST = some (.slice et)) (hti : TI Try.prog et z ez by_) (hzs : z.cells.size = ez) (hby : 32768 * by_ ≤ 140737488355328)
    (hez0 : 1 < ez) (hez : ez ≤ 16777216) (hez2 : ez = fszs sb + 1) (hent : Enters Try.prog f) (hci : ci.length = 5) (hmk : ∀ u, Tr s u → CA Try.prog f [.agg ci.toArray] u fun u' v => ∃ c, v = .agg c.toArray ∧ RMp u' sb y c)
    (hf : frs n E [d1, d2, d3, d4, d5, d6, d7, d9, d10, d11, d12] = true) (hlt : off < M.length) (hi : i < 32767) (hxl : xs.length = i * ez)
    (hok : (seqOk [⟨some d1, .move (.tmp pm), ty1, p1, a1, none⟩, ⟨some d2, .move (.tmp pm), ty2, p2, a2, none⟩, ⟨some d3, .nilCheck (.tmp d2), ty3, p3, a3, none⟩, ⟨some d4, .fieldAddr MT (.tmp d3) kf, ty4, p4, a4, none⟩, ⟨some d5, .load ST (.tmp d4), ty5, p5, a5, none⟩, ⟨some d6, .load 37 (.tmp tx), ty6, p6, a6, none⟩, ⟨some d7, .call ⟨.value (.func f), [.tmp d6].toArray, tys⟩, ty7, p7, a7, none⟩, ⟨some d9, .buildSlice ST 1 [(0, .tmp d7)].toArray, ty8, p8, a8, none⟩, ⟨some d10, .call ⟨.builtin .append, #[.tmp d5, .tmp d9], #[ST, ST]⟩, ty9, p9, a9, none⟩, ⟨some d11, .nilCheck (.tmp d1), ty10, p10, a10, none⟩, ⟨some d12, .fieldAddr MT (.tmp d11) kf, ty11, p11, a11, none⟩, ⟨none, .store ST (.tmp d12) (.tmp d10), ty12, p12, a12, none⟩].toArray [0, 1, 2, 3, 4, 5] [0, 1, 2, 3, 4, 5, 6, 7, 8, 9, 10, 11] (Array.replicate 12 false) && Region.noSelect [⟨some d1, .move (.tmp pm), ty1, p1, a1, none⟩, ⟨some d2, .move (.tmp pm), ty2, p2, a2, none⟩, ⟨some d3, .nilCheck (.tmp d2), ty3, p3, a3, none⟩, ⟨some d4, .fieldAddr MT (.tmp d3) kf, ty4, p4, a4, none⟩, ⟨some d5, .load ST (.tmp d4), ty5, p5, a5, none⟩, ⟨some d6, .load 37 (.tmp tx), ty6, p6, a6, none⟩, ⟨some d7, .call ⟨.value (.func f), [.tmp d6].toArray, tys⟩, ty7, p7, a7, none⟩, ⟨some d9, .buildSlice ST 1 [(0, .tmp d7)].toArray, ty8, p8, a8, none⟩, ⟨some d10, .call ⟨.builtin .append, #[.tmp d5, .tmp d9], #[ST, ST]⟩, ty9, p9, a9, none⟩, ⟨some d11, .nilCheck (.tmp d1), ty10, p10, a10, none⟩, ⟨some d12, .fieldAddr MT (.tmp d11) kf, ty11, p11, a11, none⟩, ⟨none, .store ST (.tmp d12) (.tmp d10), ty12, p12, a12, none⟩].toArray && Nat.beq 12 12) = true)
    (hl6 : lateB [⟨some d1, .move (.tmp pm), ty1, p1, a1, none⟩, ⟨some d2, .move (.tmp pm), ty2, p2, a2, none⟩, ⟨some d3, .nilCheck (.tmp d2), ty3, p3, a3, none⟩, ⟨some d4, .fieldAddr MT (.tmp d3) kf, ty4, p4, a4, none⟩, ⟨some d5, .load ST (.tmp d4), ty5, p5, a5, none⟩, ⟨some d6, .load 37 (.tmp tx), ty6, p6, a6, none⟩, ⟨some d7, .call ⟨.value (.func f), [.tmp d6].toArray, tys⟩, ty7, p7, a7, none⟩, ⟨some d9, .buildSlice ST 1 [(0, .tmp d7)].toArray, ty8, p8, a8, none⟩, ⟨some d10, .call ⟨.builtin .append, #[.tmp d5, .tmp d9], #[ST, ST]⟩, ty9, p9, a9, none⟩, ⟨some d11, .nilCheck (.tmp d1), ty10, p10, a10, none⟩, ⟨some d12, .fieldAddr MT (.tmp d11) kf, ty11, p11, a11, none⟩, ⟨none, .store ST (.tmp d12) (.tmp d10), ty12, p12, a12, none⟩].toArray [0, 1, 2, 3, 4, 5] 11 = false)
    (kk : ∀ u' g' cap' c, Tr s u' → REl u' 10 sb y c → At N n E (TreeBox b5 ci :: .row (.slice (some ⟨g', 0, none⟩) (i + 1) cap') et ez (i + 1) (xs ++ c) :: MsgBox bm MT (M.set off (.slice (some ⟨g', 0, none⟩) (i + 1) cap')) :: TreeBox bt tcs :: H0) C u') :
    Cd Try.prog (.region id [⟨some d1, .move (.tmp pm), ty1, p1, a1, none⟩, ⟨some d2, .move (.tmp pm), ty2, p2, a2, none⟩, ⟨some d3, .nilCheck (.tmp d2), ty3, p3, a3, none⟩, ⟨some d4, .fieldAddr MT (.tmp d3) kf, ty4, p4, a4, none⟩, ⟨some d5, .load ST (.tmp d4), ty5, p5, a5, none⟩, ⟨some d6, .load 37 (.tmp tx), ty6, p6, a6, none⟩, ⟨some d7, .call ⟨.value (.func f), [.tmp d6].toArray, tys⟩, ty7, p7, a7, none⟩, ⟨some d9, .buildSlice ST 1 [(0, .tmp d7)].toArray, ty8, p8, a8, none⟩, ⟨some d10, .call ⟨.builtin .append, #[.tmp d5, .tmp d9], #[ST, ST]⟩, ty9, p9, a9, none⟩, ⟨some d11, .nilCheck (.tmp d1), ty10, p10, a10, none⟩, ⟨some d12, .fieldAddr MT (.tmp d11) kf, ty11, p11, a11, none⟩, ⟨none, .store ST (.tmp d12) (.tmp d10), ty12, p12, a12, none⟩].toArray true) ⟨N, R, X⟩ n E (TreeBox b5 ci :: .row (.slice (some ⟨g, 0, none⟩) i cap) et ez i xs :: MsgBox bm MT (M.set off (.slice (some ⟨g, 0, none⟩) i cap)) :: TreeBox bt tcs :: H0) C s := by
  subst hft
  obtain ⟨hb, hfr, hne⟩ := frs_get hf
  simp only [List.pairwise_cons, List.mem_cons, List.not_mem_nil, or_false, forall_eq_or_imp, forall_eq, List.Pairwise.nil, and_true, false_imp_iff, implies_true] at hb hfr hne
  obtain ⟨f1, f2, f3, f4, f5, f6, f7, f9, f10, f11, f12⟩ := hfr
  obtain ⟨g1, g2, g3, g4, g5, g6, g7, g9, g10, g11, g12⟩ := hb
  refine cd_draw' [0, 2] [0, 1, 2, 3, 4, 5] [0, 1, 2, 3, 4, 5, 6, 7, 8, 9, 10, 11] mixed hok ?_
  refine lo_pv rfl rfl (sk_js (Tr.refl _) [0, 2] rfl) (pv_move hp) g1 ?_
  refine lo_pv rfl rfl (sk_js (Tr.refl _) [0, 2] rfl) (pv_move (by rw [ev_t, lk_ne (lk_fr f1 hp)]; exact hp)) g2 ?_
  refine lo_pv rfl rfl (sk_js (Tr.refl _) [0, 2] rfl) (pv_nilCheck lk_eq) g3 ?_
  refine lo_pv rfl rfl (sk_js (Tr.refl _) [0, 2] rfl) (pv_fieldAddr (off := off) (r := off) hu hkf hsz ho lk_eq (by omega)) g4 ?_
  refine lo_pv rfl rfl (sk_js (Tr.refl _) [0, 2] rfl) (pv_ldo (i := 1) (v := .slice (some ⟨g, 0, none⟩) i cap) rfl hST rfl lk_eq (by simp [hlt])) g5 ?_
  refine lo_pv rfl rfl (sk_js (Tr.refl _) [0, 2] rfl) (pv_ldO (i := 0) rfl Try.underlying37 rfl (tiimpl_Tree).size (by rw [ev_t, lk_ne (lk_fr f5 htx), lk_ne (lk_fr f4 htx), lk_ne (lk_fr f3 htx), lk_ne (lk_fr f2 htx), lk_ne (lk_fr f1 htx)]; exact htx) hci) g6 ?_
  refine lo_eff rfl rfl ?_
  refine ln_callA (vals := [.agg ci.toArray]) hent (by simp [evs, ev_t, lk_eq]) hmk g7 ?_
  rintro u1 v1 ht1 ⟨c, rfl, hc⟩
  obtain ⟨hcl, hc1⟩ := hc.len
  refine lo_back (sk_js ht1 [0, 2] rfl) ?_
  refine lo_eff rfl rfl ?_
  refine ln_lit (vs := [.agg c.toArray]) (l := c) hST hti hzs (by omega) (by simp [evPs, numbered, ev_t, lk_eq]) rfl (by simp [Nat.ble_eq, hez]) (by
    have hne1 : ez ≠ 1 := by omega
    have hcz : c.length = ez := by omega
    simp [partsOk, nbeq hne1, Value.cells, hcz]) (by simp [flat, Value.cells]) g9 (fun b8 => ?_)
  refine lo_back (sk_js ht1 [1, 3] rfl) ?_
  refine lo_eff rfl rfl ?_
  refine ln_append (i := 2) (v := .slice (some ⟨g, 0, none⟩) i cap) (u := .slice (some ⟨b8, 0, none⟩) 1 1) (m := 1) (news := c) rfl hST hti hzs (by omega) (by simp [ev_t, lk_eq, lk_ne, hne]) (by simp [ev_t, lk_eq, lk_ne, hne]) (src_obj (j := 0) rfl (by rw [hcl, hez2, Nat.one_mul]) (List.all_eq_true.2 hc1)) (by simp only [maxLen]; omega) (by
    have : (i + 1) * by_ ≤ 32768 * by_ := Nat.mul_le_mul_right _ (by omega)
    omega) g10 rfl rfl (fun v' hv' => ?_)
  refine ln_rowshape (i := 2) rfl (fun ad cp hv2 hle hg2 => ?_)
  obtain ⟨g', rfl⟩ := hg2 (by omega)
  subst hv2
  refine lo_back (sk_js ht1 [1, 3] rfl) ?_
  refine lo_eff rfl rfl ?_
  refine ln_pv (pv_nilCheck (by rw [ev_t, lk_ne (by simp [hne]), lk_ne (by simp [hne]), lk_ne (by simp [hne]), lk_ne (by simp [hne]), lk_ne (by simp [hne]), lk_ne (by simp [hne]), lk_ne (by simp [hne]), lk_ne (by simp [hne]), lk_eq])) g11 ?_
  refine lo_back (sk_js ht1 [1, 3] rfl) ?_
  refine lo_eff rfl rfl ?_
  refine ln_pv (pv_fieldAddr (off := off) (r := off) hu hkf hsz ho lk_eq (by omega)) g12 ?_
  refine lo_back (sk_js ht1 [1, 3] rfl) ?_
  refine lo_eff rfl rfl ?_
  refine ln_store1 (i := 3) (v := .slice (some ⟨g', 0, none⟩) (i + 1) cp) rfl lk_eq (by simp [ev_t, lk_eq, lk_ne, hne]) rfl hsz (by simp [Nat.ble_eq]; omega) ?_
  refine lo_last hl6 ?_
  refine lo_nil ?_
  refine at_sub (.skip f12 (.skip f11 (.skip f10 (.skip f9 (.skip f7 (.skip f6 (.skip f5 (.skip f4 (.skip f3 (.skip f2 (.skip f1 .rfl'))))))))))) ?_
  refine at_dropH (H' := TreeBox b5 ci :: .row (.slice (some ⟨g', 0, none⟩) (i + 1) cp) et ez (i + 1) (xs ++ c) :: MsgBox bm MT (M.set off (.slice (some ⟨g', 0, none⟩) (i + 1) cp)) :: TreeBox bt tcs :: H0) ?_ (at_base fun u2 hu2 => kk u2 g' cp c (ht1.trans hu2) ?_)
  · simp only [List.set, set_set]
    exact List.Sublist.cons _ (List.Sublist.refl _)
  · simp only [REl, if_true]
    exact hc.mv hu2
/-- the same, in a variable of the function's own -/
theorem fl_appLS (hp : lk E pm = some (.pointer (some ⟨bm, 0, none⟩))) (htx : lk E tx = some (.pointer (some ⟨b5, 0, none⟩))) (hu : Try.prog.underlying MT = some (.struct fs)) (hkf : fs[kf]? = some fl) (hft : fl.type = ST) (hsz : (Try.prog.info? ST).map (·.size) = some 1) (ho : fl.offset = off)
    (hST : Try.prog.underlying ST = some (.slice et)) (hti : TI Try.prog et z ez by_) (hzs : z.cells.size = ez) (hby : 32768 * by_ ≤ 140737488355328)
    (hez0 : 1 < ez) (hez : ez ≤ 16777216) (hez2 : ez = fszs sb + 1) (hent : Enters Try.prog f) (hci : ci.length = 5) (hmk : ∀ u, Tr s u → CA Try.prog f [.agg ci.toArray] u fun u' v => ∃ c, v = .agg c.toArray ∧ RMp u' sb y c)
    (hf : frs n E [d4, d5, d6, d7, d9, d10, d12] = true) (hlt : off < M.length) (hi : i < 32767) (hxl : xs.length = i * ez)
    (hok : (seqOk [⟨some d4, .fieldAddr MT (.tmp pm) kf, ty1, p1, a1, none⟩, ⟨some d5, .load ST (.tmp d4), ty2, p2, a2, none⟩, ⟨some d6, .load 37 (.tmp tx), ty3, p3, a3, none⟩, ⟨some d7, .call ⟨.value (.func f), [.tmp d6].toArray, tys⟩, ty4, p4, a4, none⟩, ⟨some d9, .buildSlice ST 1 [(0, .tmp d7)].toArray, ty5, p5, a5, none⟩, ⟨some d10, .call ⟨.builtin .append, #[.tmp d5, .tmp d9], #[ST, ST]⟩, ty6, p6, a6, none⟩, ⟨some d12, .fieldAddr MT (.tmp pm) kf, ty7, p7, a7, none⟩, ⟨none, .store ST (.tmp d12) (.tmp d10), ty8, p8, a8, none⟩].toArray [0, 1, 2] [0, 1, 2, 3, 4, 5, 6, 7] (Array.replicate 8 false) && Region.noSelect [⟨some d4, .fieldAddr MT (.tmp pm) kf, ty1, p1, a1, none⟩, ⟨some d5, .load ST (.tmp d4), ty2, p2, a2, none⟩, ⟨some d6, .load 37 (.tmp tx), ty3, p3, a3, none⟩, ⟨some d7, .call ⟨.value (.func f), [.tmp d6].toArray, tys⟩, ty4, p4, a4, none⟩, ⟨some d9, .buildSlice ST 1 [(0, .tmp d7)].toArray, ty5, p5, a5, none⟩, ⟨some d10, .call ⟨.builtin .append, #[.tmp d5, .tmp d9], #[ST, ST]⟩, ty6, p6, a6, none⟩, ⟨some d12, .fieldAddr MT (.tmp pm) kf, ty7, p7, a7, none⟩, ⟨none, .store ST (.tmp d12) (.tmp d10), ty8, p8, a8, none⟩].toArray && Nat.beq 8 8) = true)
    (hl6 : lateB [⟨some d4, .fieldAddr MT (.tmp pm) kf, ty1, p1, a1, none⟩, ⟨some d5, .load ST (.tmp d4), ty2, p2, a2, none⟩, ⟨some d6, .load 37 (.tmp tx), ty3, p3, a3, none⟩, ⟨some d7, .call ⟨.value (.func f), [.tmp d6].toArray, tys⟩, ty4, p4, a4, none⟩, ⟨some d9, .buildSlice ST 1 [(0, .tmp d7)].toArray, ty5, p5, a5, none⟩, ⟨some d10, .call ⟨.builtin .append, #[.tmp d5, .tmp d9], #[ST, ST]⟩, ty6, p6, a6, none⟩, ⟨some d12, .fieldAddr MT (.tmp pm) kf, ty7, p7, a7, none⟩, ⟨none, .store ST (.tmp d12) (.tmp d10), ty8, p8, a8, none⟩].toArray [0, 1, 2] 7 = false)
    (kk : ∀ u' g' cap' c, Tr s u' → REl u' 10 sb y c → At N n E (TreeBox b5 ci :: .row (.slice (some ⟨g', 0, none⟩) (i + 1) cap') et ez (i + 1) (xs ++ c) :: MsgBox bm MT (M.set off (.slice (some ⟨g', 0, none⟩) (i + 1) cap')) :: TreeBox bt tcs :: H0) C u') :
    Cd Try.prog (.region id [⟨some d4, .fieldAddr MT (.tmp pm) kf, ty1, p1, a1, none⟩, ⟨some d5, .load ST (.tmp d4), ty2, p2, a2, none⟩, ⟨some d6, .load 37 (.tmp tx), ty3, p3, a3, none⟩, ⟨some d7, .call ⟨.value (.func f), [.tmp d6].toArray, tys⟩, ty4, p4, a4, none⟩, ⟨some d9, .buildSlice ST 1 [(0, .tmp d7)].toArray, ty5, p5, a5, none⟩, ⟨some d10, .call ⟨.builtin .append, #[.tmp d5, .tmp d9], #[ST, ST]⟩, ty6, p6, a6, none⟩, ⟨some d12, .fieldAddr MT (.tmp pm) kf, ty7, p7, a7, none⟩, ⟨none, .store ST (.tmp d12) (.tmp d10), ty8, p8, a8, none⟩].toArray true) ⟨N, R, X⟩ n E (TreeBox b5 ci :: .row (.slice (some ⟨g, 0, none⟩) i cap) et ez i xs :: MsgBox bm MT (M.set off (.slice (some ⟨g, 0, none⟩) i cap)) :: TreeBox bt tcs :: H0) C s := by
  subst hft
  obtain ⟨hb, hfr, hne⟩ := frs_get hf
  simp only [List.pairwise_cons, List.mem_cons, List.not_mem_nil, or_false, forall_eq_or_imp, forall_eq, List.Pairwise.nil, and_true, false_imp_iff, implies_true] at hb hfr hne
  obtain ⟨f4, f5, f6, f7, f9, f10, f12⟩ := hfr
  obtain ⟨g4, g5, g6, g7, g9, g10, g12⟩ := hb
  refine cd_draw' [0, 2] [0, 1, 2] [0, 1, 2, 3, 4, 5, 6, 7] mixed hok ?_
  refine lo_pv rfl rfl (sk_js (Tr.refl _) [0, 2] rfl) (pv_fieldAddr (off := off) (r := off) hu hkf hsz ho hp (by omega)) g4 ?_
  refine lo_pv rfl rfl (sk_js (Tr.refl _) [0, 2] rfl) (pv_ldo (i := 1) (v := .slice (some ⟨g, 0, none⟩) i cap) rfl hST rfl lk_eq (by simp [hlt])) g5 ?_
  refine lo_pv rfl rfl (sk_js (Tr.refl _) [0, 2] rfl) (pv_ldO (i := 0) rfl Try.underlying37 rfl (tiimpl_Tree).size (by rw [ev_t, lk_ne (lk_fr f5 htx), lk_ne (lk_fr f4 htx)]; exact htx) hci) g6 ?_
  refine lo_eff rfl rfl ?_
  refine ln_callA (vals := [.agg ci.toArray]) hent (by simp [evs, ev_t, lk_eq]) hmk g7 ?_
  rintro u1 v1 ht1 ⟨c, rfl, hc⟩
  obtain ⟨hcl, hc1⟩ := hc.len
  refine lo_back (sk_js ht1 [0, 2] rfl) ?_
  refine lo_eff rfl rfl ?_
  refine ln_lit (vs := [.agg c.toArray]) (l := c) hST hti hzs (by omega) (by simp [evPs, numbered, ev_t, lk_eq]) rfl (by simp [Nat.ble_eq, hez]) (by
    have hne1 : ez ≠ 1 := by omega
    have hcz : c.length = ez := by omega
    simp [partsOk, nbeq hne1, Value.cells, hcz]) (by simp [flat, Value.cells]) g9 (fun b8 => ?_)
  refine lo_back (sk_js ht1 [1, 3] rfl) ?_
  refine lo_eff rfl rfl ?_
  refine ln_append (i := 2) (v := .slice (some ⟨g, 0, none⟩) i cap) (u := .slice (some ⟨b8, 0, none⟩) 1 1) (m := 1) (news := c) rfl hST hti hzs (by omega) (by simp [ev_t, lk_eq, lk_ne, hne]) (by simp [ev_t, lk_eq, lk_ne, hne]) (src_obj (j := 0) rfl (by rw [hcl, hez2, Nat.one_mul]) (List.all_eq_true.2 hc1)) (by simp only [maxLen]; omega) (by
    have : (i + 1) * by_ ≤ 32768 * by_ := Nat.mul_le_mul_right _ (by omega)
    omega) g10 rfl rfl (fun v' hv' => ?_)
  refine ln_rowshape (i := 2) rfl (fun ad cp hv2 hle hg2 => ?_)
  obtain ⟨g', rfl⟩ := hg2 (by omega)
  subst hv2
  refine lo_back (sk_js ht1 [1, 3] rfl) ?_
  refine lo_eff rfl rfl ?_
  refine ln_pv (pv_fieldAddr (off := off) (r := off) hu hkf hsz ho (by rw [ev_t, lk_ne (lk_fr f10 hp), lk_ne (lk_fr f9 hp), lk_ne (lk_fr f7 hp), lk_ne (lk_fr f6 hp), lk_ne (lk_fr f5 hp), lk_ne (lk_fr f4 hp)]; exact hp) (by omega)) g12 ?_
  refine lo_back (sk_js ht1 [1, 3] rfl) ?_
  refine lo_eff rfl rfl ?_
  refine ln_store1 (i := 3) (v := .slice (some ⟨g', 0, none⟩) (i + 1) cp) rfl lk_eq (by simp [ev_t, lk_eq, lk_ne, hne]) rfl hsz (by simp [Nat.ble_eq]; omega) ?_
  refine lo_last hl6 ?_
  refine lo_nil ?_
  refine at_sub (.skip f12 (.skip f10 (.skip f9 (.skip f7 (.skip f6 (.skip f5 (.skip f4 .rfl'))))))) ?_
  refine at_dropH (H' := TreeBox b5 ci :: .row (.slice (some ⟨g', 0, none⟩) (i + 1) cp) et ez (i + 1) (xs ++ c) :: MsgBox bm MT (M.set off (.slice (some ⟨g', 0, none⟩) (i + 1) cp)) :: TreeBox bt tcs :: H0) ?_ (at_base fun u2 hu2 => kk u2 g' cp c (ht1.trans hu2) ?_)
  · simp only [List.set, set_set]
    exact List.Sublist.cons _ (List.Sublist.refl _)
  · simp only [REl, if_true]
    exact hc.mv hu2
/-- a thing that is no part, appended through a pointer -/
theorem fl_appPN (hp : lk E pm = some (.pointer (some ⟨bm, 0, none⟩))) (htx : lk E tx = some (.pointer (some ⟨b5, 0, none⟩))) (hu : Try.prog.underlying MT = some (.struct fs)) (hkf : fs[kf]? = some fl) (hft : fl.type = ST) (hsz : (Try.prog.info? ST).map (·.size) = some 1) (ho : fl.offset = off)
    (hST : Try.prog.underlying ST = some (.slice et)) (hti : TI Try.prog et z 1 by_) (hzs : z.cells.size = 1) (hby : 32768 * by_ ≤ 140737488355328)
    (hut : Try.prog.underlying 37 = some (.struct tfs)) (hkt : tfs[kt]? = some tf) (hszt : (Try.prog.info? tf.type).map (·.size) = some 1) (hot : tf.offset = kt) (hLT : Try.prog.underlying LT = some dd) (hna : aggD dd = false) (hck : ci[kt]? = some w6)
    (hcv : ∀ (L' : Env) (H' : Hp), lk L' d7 = some w6 → PV Try.prog (Sk s H') ⟨some d8, .convert SD DD (.tmp d7), ty8, p8, a8, none⟩ n L' v7) (hv1 : v7.oneCell' = true) (ho10 : o ≠ 10) (hR : RS1 s o (-1) y [v7])
    (hf : frs n E [d1, d2, d3, d4, d5, d6, d7, d8, d9, d10, d11, d12] = true) (hlt : off < M.length) (hi : i < 32767) (hxl : xs.length = i * 1)
    (hok : (seqOk [⟨some d1, .move (.tmp pm), ty1, p1, a1, none⟩, ⟨some d2, .move (.tmp pm), ty2, p2, a2, none⟩, ⟨some d3, .nilCheck (.tmp d2), ty3, p3, a3, none⟩, ⟨some d4, .fieldAddr MT (.tmp d3) kf, ty4, p4, a4, none⟩, ⟨some d5, .load ST (.tmp d4), ty5, p5, a5, none⟩, ⟨some d6, .fieldAddr 37 (.tmp tx) kt, ty6, p6, a6, none⟩, ⟨some d7, .load LT (.tmp d6), ty7, p7, a7, none⟩, ⟨some d8, .convert SD DD (.tmp d7), ty8, p8, a8, none⟩, ⟨some d9, .buildSlice ST 1 [(0, .tmp d8)].toArray, ty9, p9, a9, none⟩, ⟨some d10, .call ⟨.builtin .append, #[.tmp d5, .tmp d9], #[ST, ST]⟩, ty10, p10, a10, none⟩, ⟨some d11, .nilCheck (.tmp d1), ty11, p11, a11, none⟩, ⟨some d12, .fieldAddr MT (.tmp d11) kf, ty12, p12, a12, none⟩, ⟨none, .store ST (.tmp d12) (.tmp d10), ty13, p13, a13, none⟩].toArray [0, 1, 2, 3, 4, 5, 6, 7] [0, 1, 2, 3, 4, 5, 6, 7, 8, 9, 10, 11, 12] (Array.replicate 13 false) && Region.noSelect [⟨some d1, .move (.tmp pm), ty1, p1, a1, none⟩, ⟨some d2, .move (.tmp pm), ty2, p2, a2, none⟩, ⟨some d3, .nilCheck (.tmp d2), ty3, p3, a3, none⟩, ⟨some d4, .fieldAddr MT (.tmp d3) kf, ty4, p4, a4, none⟩, ⟨some d5, .load ST (.tmp d4), ty5, p5, a5, none⟩, ⟨some d6, .fieldAddr 37 (.tmp tx) kt, ty6, p6, a6, none⟩, ⟨some d7, .load LT (.tmp d6), ty7, p7, a7, none⟩, ⟨some d8, .convert SD DD (.tmp d7), ty8, p8, a8, none⟩, ⟨some d9, .buildSlice ST 1 [(0, .tmp d8)].toArray, ty9, p9, a9, none⟩, ⟨some d10, .call ⟨.builtin .append, #[.tmp d5, .tmp d9], #[ST, ST]⟩, ty10, p10, a10, none⟩, ⟨some d11, .nilCheck (.tmp d1), ty11, p11, a11, none⟩, ⟨some d12, .fieldAddr MT (.tmp d11) kf, ty12, p12, a12, none⟩, ⟨none, .store ST (.tmp d12) (.tmp d10), ty13, p13, a13, none⟩].toArray && Nat.beq 13 13) = true)
    (hl6 : lateB [⟨some d1, .move (.tmp pm), ty1, p1, a1, none⟩, ⟨some d2, .move (.tmp pm), ty2, p2, a2, none⟩, ⟨some d3, .nilCheck (.tmp d2), ty3, p3, a3, none⟩, ⟨some d4, .fieldAddr MT (.tmp d3) kf, ty4, p4, a4, none⟩, ⟨some d5, .load ST (.tmp d4), ty5, p5, a5, none⟩, ⟨some d6, .fieldAddr 37 (.tmp tx) kt, ty6, p6, a6, none⟩, ⟨some d7, .load LT (.tmp d6), ty7, p7, a7, none⟩, ⟨some d8, .convert SD DD (.tmp d7), ty8, p8, a8, none⟩, ⟨some d9, .buildSlice ST 1 [(0, .tmp d8)].toArray, ty9, p9, a9, none⟩, ⟨some d10, .call ⟨.builtin .append, #[.tmp d5, .tmp d9], #[ST, ST]⟩, ty10, p10, a10, none⟩, ⟨some d11, .nilCheck (.tmp d1), ty11, p11, a11, none⟩, ⟨some d12, .fieldAddr MT (.tmp d11) kf, ty12, p12, a12, none⟩, ⟨none, .store ST (.tmp d12) (.tmp d10), ty13, p13, a13, none⟩].toArray [0, 1, 2, 3, 4, 5, 6, 7] 12 = false)
    (kk : ∀ u' g' cap' , Tr s u' → REl u' o sb y [v7] → At N n E (TreeBox b5 ci :: .row (.slice (some ⟨g', 0, none⟩) (i + 1) cap') et 1 (i + 1) (xs ++ [v7]) :: MsgBox bm MT (M.set off (.slice (some ⟨g', 0, none⟩) (i + 1) cap')) :: TreeBox bt tcs :: H0) C u') :
    Cd Try.prog (.region id [⟨some d1, .move (.tmp pm), ty1, p1, a1, none⟩, ⟨some d2, .move (.tmp pm), ty2, p2, a2, none⟩, ⟨some d3, .nilCheck (.tmp d2), ty3, p3, a3, none⟩, ⟨some d4, .fieldAddr MT (.tmp d3) kf, ty4, p4, a4, none⟩, ⟨some d5, .load ST (.tmp d4), ty5, p5, a5, none⟩, ⟨some d6, .fieldAddr 37 (.tmp tx) kt, ty6, p6, a6, none⟩, ⟨some d7, .load LT (.tmp d6), ty7, p7, a7, none⟩, ⟨some d8, .convert SD DD (.tmp d7), ty8, p8, a8, none⟩, ⟨some d9, .buildSlice ST 1 [(0, .tmp d8)].toArray, ty9, p9, a9, none⟩, ⟨some d10, .call ⟨.builtin .append, #[.tmp d5, .tmp d9], #[ST, ST]⟩, ty10, p10, a10, none⟩, ⟨some d11, .nilCheck (.tmp d1), ty11, p11, a11, none⟩, ⟨some d12, .fieldAddr MT (.tmp d11) kf, ty12, p12, a12, none⟩, ⟨none, .store ST (.tmp d12) (.tmp d10), ty13, p13, a13, none⟩].toArray true) ⟨N, R, X⟩ n E (TreeBox b5 ci :: .row (.slice (some ⟨g, 0, none⟩) i cap) et 1 i xs :: MsgBox bm MT (M.set off (.slice (some ⟨g, 0, none⟩) i cap)) :: TreeBox bt tcs :: H0) C s := by
  subst hft
  obtain ⟨hb, hfr, hne⟩ := frs_get hf
  simp only [List.pairwise_cons, List.mem_cons, List.not_mem_nil, or_false, forall_eq_or_imp, forall_eq, List.Pairwise.nil, and_true, false_imp_iff, implies_true] at hb hfr hne
  obtain ⟨f1, f2, f3, f4, f5, f6, f7, f8, f9, f10, f11, f12⟩ := hfr
  obtain ⟨g1, g2, g3, g4, g5, g6, g7, g8, g9, g10, g11, g12⟩ := hb
  refine cd_draw' [0, 2] [0, 1, 2, 3, 4, 5, 6, 7] [0, 1, 2, 3, 4, 5, 6, 7, 8, 9, 10, 11, 12] mixed hok ?_
  refine lo_pv rfl rfl (sk_js (Tr.refl _) [0, 2] rfl) (pv_move hp) g1 ?_
  refine lo_pv rfl rfl (sk_js (Tr.refl _) [0, 2] rfl) (pv_move (by rw [ev_t, lk_ne (lk_fr f1 hp)]; exact hp)) g2 ?_
  refine lo_pv rfl rfl (sk_js (Tr.refl _) [0, 2] rfl) (pv_nilCheck lk_eq) g3 ?_
  refine lo_pv rfl rfl (sk_js (Tr.refl _) [0, 2] rfl) (pv_fieldAddr (off := off) (r := off) hu hkf hsz ho lk_eq (by omega)) g4 ?_
  refine lo_pv rfl rfl (sk_js (Tr.refl _) [0, 2] rfl) (pv_ldo (i := 1) (v := .slice (some ⟨g, 0, none⟩) i cap) rfl hST rfl lk_eq (by simp [hlt])) g5 ?_
  refine lo_pv rfl rfl (sk_js (Tr.refl _) [0, 2] rfl) (pv_fieldAddr (off := kt) (r := kt) hut hkt hszt hot (by rw [ev_t, lk_ne (lk_fr f5 htx), lk_ne (lk_fr f4 htx), lk_ne (lk_fr f3 htx), lk_ne (lk_fr f2 htx), lk_ne (lk_fr f1 htx)]; exact htx) (by omega)) g6 ?_
  refine lo_pv rfl rfl (sk_js (Tr.refl _) [0, 2] rfl) (pv_ldo (i := 0) rfl hLT (by cases dd <;> first | rfl | (simp [aggD] at hna)) lk_eq hck) g7 ?_
  refine lo_pv rfl rfl (sk_js (Tr.refl _) [0, 2] rfl) (hcv _ _ lk_eq) g8 ?_
  refine lo_eff rfl rfl ?_
  refine ln_lit (vs := [v7]) (l := [v7]) hST hti hzs (by omega) (by simp [evPs, numbered, ev_t, lk_eq]) rfl (by simp [Nat.ble_eq]) (by simp [partsOk, hv1]) (by simp [flat, one_cells hv1]) g9 (fun b8 => ?_)
  refine lo_back (sk_js (Tr.refl _) [1, 3] rfl) ?_
  refine lo_eff rfl rfl ?_
  refine ln_append (i := 2) (v := .slice (some ⟨g, 0, none⟩) i cap) (u := .slice (some ⟨b8, 0, none⟩) 1 1) (m := 1) (news := [v7]) rfl hST hti hzs (by omega) (by simp [ev_t, lk_eq, lk_ne, hne]) (by simp [ev_t, lk_eq, lk_ne, hne]) (src_obj (j := 0) rfl (rfl) (by simp [hv1])) (by simp only [maxLen]; omega) (by
    have : (i + 1) * by_ ≤ 32768 * by_ := Nat.mul_le_mul_right _ (by omega)
    omega) g10 rfl rfl (fun v' hv' => ?_)
  refine ln_rowshape (i := 2) rfl (fun ad cp hv2 hle hg2 => ?_)
  obtain ⟨g', rfl⟩ := hg2 (by omega)
  subst hv2
  refine lo_back (sk_js (Tr.refl _) [1, 3] rfl) ?_
  refine lo_eff rfl rfl ?_
  refine ln_pv (pv_nilCheck (by rw [ev_t, lk_ne (by simp [hne]), lk_ne (by simp [hne]), lk_ne (by simp [hne]), lk_ne (by simp [hne]), lk_ne (by simp [hne]), lk_ne (by simp [hne]), lk_ne (by simp [hne]), lk_ne (by simp [hne]), lk_ne (by simp [hne]), lk_eq])) g11 ?_
  refine lo_back (sk_js (Tr.refl _) [1, 3] rfl) ?_
  refine lo_eff rfl rfl ?_
  refine ln_pv (pv_fieldAddr (off := off) (r := off) hu hkf hsz ho lk_eq (by omega)) g12 ?_
  refine lo_back (sk_js (Tr.refl _) [1, 3] rfl) ?_
  refine lo_eff rfl rfl ?_
  refine ln_store1 (i := 3) (v := .slice (some ⟨g', 0, none⟩) (i + 1) cp) rfl lk_eq (by simp [ev_t, lk_eq, lk_ne, hne]) rfl hsz (by simp [Nat.ble_eq]; omega) ?_
  refine lo_last hl6 ?_
  refine lo_nil ?_
  refine at_sub (.skip f12 (.skip f11 (.skip f10 (.skip f9 (.skip f8 (.skip f7 (.skip f6 (.skip f5 (.skip f4 (.skip f3 (.skip f2 (.skip f1 .rfl')))))))))))) ?_
  refine at_dropH (H' := TreeBox b5 ci :: .row (.slice (some ⟨g', 0, none⟩) (i + 1) cp) et 1 (i + 1) (xs ++ [v7]) :: MsgBox bm MT (M.set off (.slice (some ⟨g', 0, none⟩) (i + 1) cp)) :: TreeBox bt tcs :: H0) ?_ (at_base fun u2 hu2 => kk u2 g' cp hu2 ?_)
  · simp only [List.set, set_set]
    exact List.Sublist.cons _ (List.Sublist.refl _)
  · simp only [REl, if_neg ho10]
    exact hR.mv hu2
/-- the same, in a variable of the function's own -/
theorem fl_appLN (hp : lk E pm = some (.pointer (some ⟨bm, 0, none⟩))) (htx : lk E tx = some (.pointer (some ⟨b5, 0, none⟩))) (hu : Try.prog.underlying MT = some (.struct fs)) (hkf : fs[kf]? = some fl) (hft : fl.type = ST) (hsz : (Try.prog.info? ST).map (·.size) = some 1) (ho : fl.offset = off)
    (hST : Try.prog.underlying ST = some (.slice et)) (hti : TI Try.prog et z 1 by_) (hzs : z.cells.size = 1) (hby : 32768 * by_ ≤ 140737488355328)
    (hut : Try.prog.underlying 37 = some (.struct tfs)) (hkt : tfs[kt]? = some tf) (hszt : (Try.prog.info? tf.type).map (·.size) = some 1) (hot : tf.offset = kt) (hLT : Try.prog.underlying LT = some dd) (hna : aggD dd = false) (hck : ci[kt]? = some w6)
    (hcv : ∀ (L' : Env) (H' : Hp), lk L' d7 = some w6 → PV Try.prog (Sk s H') ⟨some d8, .convert SD DD (.tmp d7), ty5, p5, a5, none⟩ n L' v7) (hv1 : v7.oneCell' = true) (ho10 : o ≠ 10) (hR : RS1 s o (-1) y [v7])
    (hf : frs n E [d4, d5, d6, d7, d8, d9, d10, d12] = true) (hlt : off < M.length) (hi : i < 32767) (hxl : xs.length = i * 1)
    (kk : ∀ u' g' cap' , Tr s u' → REl u' o sb y [v7] → At N n E (TreeBox b5 ci :: .row (.slice (some ⟨g', 0, none⟩) (i + 1) cap') et 1 (i + 1) (xs ++ [v7]) :: MsgBox bm MT (M.set off (.slice (some ⟨g', 0, none⟩) (i + 1) cap')) :: TreeBox bt tcs :: H0) C u') :
    Cd Try.prog (.region id [⟨some d4, .fieldAddr MT (.tmp pm) kf, ty1, p1, a1, none⟩, ⟨some d5, .load ST (.tmp d4), ty2, p2, a2, none⟩, ⟨some d6, .fieldAddr 37 (.tmp tx) kt, ty3, p3, a3, none⟩, ⟨some d7, .load LT (.tmp d6), ty4, p4, a4, none⟩, ⟨some d8, .convert SD DD (.tmp d7), ty5, p5, a5, none⟩, ⟨some d9, .buildSlice ST 1 [(0, .tmp d8)].toArray, ty6, p6, a6, none⟩, ⟨some d10, .call ⟨.builtin .append, #[.tmp d5, .tmp d9], #[ST, ST]⟩, ty7, p7, a7, none⟩, ⟨some d12, .fieldAddr MT (.tmp pm) kf, ty8, p8, a8, none⟩, ⟨none, .store ST (.tmp d12) (.tmp d10), ty9, p9, a9, none⟩].toArray false) ⟨N, R, X⟩ n E (TreeBox b5 ci :: .row (.slice (some ⟨g, 0, none⟩) i cap) et 1 i xs :: MsgBox bm MT (M.set off (.slice (some ⟨g, 0, none⟩) i cap)) :: TreeBox bt tcs :: H0) C s := by
  subst hft
  obtain ⟨hb, hfr, hne⟩ := frs_get hf
  simp only [List.pairwise_cons, List.mem_cons, List.not_mem_nil, or_false, forall_eq_or_imp, forall_eq, List.Pairwise.nil, and_true, false_imp_iff, implies_true] at hb hfr hne
  obtain ⟨f4, f5, f6, f7, f8, f9, f10, f12⟩ := hfr
  obtain ⟨g4, g5, g6, g7, g8, g9, g10, g12⟩ := hb
  refine cd_region ?_
  refine ln_pv (pv_fieldAddr (off := off) (r := off) hu hkf hsz ho hp (by omega)) g4 ?_
  refine ln_pv (pv_ldo (i := 2) (v := .slice (some ⟨g, 0, none⟩) i cap) rfl hST rfl lk_eq (by simp [hlt])) g5 ?_
  refine ln_pv (pv_fieldAddr (off := kt) (r := kt) hut hkt hszt hot (by rw [ev_t, lk_ne (lk_fr f5 htx), lk_ne (lk_fr f4 htx)]; exact htx) (by omega)) g6 ?_
  refine ln_pv (pv_ldo (i := 0) rfl hLT (by cases dd <;> first | rfl | (simp [aggD] at hna)) lk_eq hck) g7 ?_
  refine ln_pv (hcv _ _ lk_eq) g8 ?_
  refine ln_lit (vs := [v7]) (l := [v7]) hST hti hzs (by omega) (by simp [evPs, numbered, ev_t, lk_eq]) rfl (by simp [Nat.ble_eq]) (by simp [partsOk, hv1]) (by simp [flat, one_cells hv1]) g9 (fun b8 => ?_)
  refine ln_append (i := 2) (v := .slice (some ⟨g, 0, none⟩) i cap) (u := .slice (some ⟨b8, 0, none⟩) 1 1) (m := 1) (news := [v7]) rfl hST hti hzs (by omega) (by simp [ev_t, lk_eq, lk_ne, hne]) (by simp [ev_t, lk_eq, lk_ne, hne]) (src_obj (j := 0) rfl (rfl) (by simp [hv1])) (by simp only [maxLen]; omega) (by
    have : (i + 1) * by_ ≤ 32768 * by_ := Nat.mul_le_mul_right _ (by omega)
    omega) g10 rfl rfl (fun v' hv' => ?_)
  refine ln_rowshape (i := 2) rfl (fun ad cp hv2 hle hg2 => ?_)
  obtain ⟨g', rfl⟩ := hg2 (by omega)
  subst hv2
  refine ln_pv (pv_fieldAddr (off := off) (r := off) hu hkf hsz ho (by rw [ev_t, lk_ne (lk_fr f10 hp), lk_ne (lk_fr f9 hp), lk_ne (lk_fr f8 hp), lk_ne (lk_fr f7 hp), lk_ne (lk_fr f6 hp), lk_ne (lk_fr f5 hp), lk_ne (lk_fr f4 hp)]; exact hp) (by omega)) g12 ?_
  refine ln_store1 (i := 3) (v := .slice (some ⟨g', 0, none⟩) (i + 1) cp) rfl lk_eq (by simp [ev_t, lk_eq, lk_ne, hne]) rfl hsz (by simp [Nat.ble_eq]; omega) ?_
  refine ln_nil ?_
  refine at_sub (.skip f12 (.skip f10 (.skip f9 (.skip f8 (.skip f7 (.skip f6 (.skip f5 (.skip f4 .rfl')))))))) ?_
  refine at_dropH (H' := TreeBox b5 ci :: .row (.slice (some ⟨g', 0, none⟩) (i + 1) cp) et 1 (i + 1) (xs ++ [v7]) :: MsgBox bm MT (M.set off (.slice (some ⟨g', 0, none⟩) (i + 1) cp)) :: TreeBox bt tcs :: H0) ?_ (at_base fun u2 hu2 => kk u2 g' cp hu2 ?_)
  · simp only [List.set, set_set]
    exact List.Sublist.cons _ (List.Sublist.refl _)
  · simp only [REl, if_neg ho10]
    exact hR.mv hu2
end
end K
end Go.Proofs.Ytmknncmdbmnmgaa
