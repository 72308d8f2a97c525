import Derived.Test.YtmknncmdbmnmgaaB4
set_option linter.unusedVariables false
set_option linter.unusedSimpArgs false
namespace Go.Proofs.Ytmknncmdbmnmgaa
namespace K
open Go Go.Lib
section
variable {n : Nat} {L E : Env} {H H0 H1 : Hp} {C : Cx} {s : Vw} {N R : Act → World → Prop} {X : List (Nat × (Act → World → Prop))} {K : Act → World → Prop} {ops : Array Oper} {rest : List Oper}
variable {id : Nat} {tt pm d0 d1 d2 d3 d4 d5 d6 d7 : Nat} {x : Tre} {tcs : List Value} {bt bm off j kf ez by_ : Nat} {MT ST et : TypeId} {M M' : List Value} {z : Value}
variable {ty0 ty1 ty2 ty3 ty4 ty5 ty6 ty7 ty8 : TypeId} {p0 p1 p2 p3 p4 p5 p6 p7 p8 : String} {a0 a1 a2 a3 a4 a5 a6 a7 a8 : Array Edge} {tys : Array TypeId}
variable {fs : Array Field} {fl : Field} {pos : String} {af : Array Edge} {ty : TypeId}
theorem RT.i64 {x : Tre} {n : Int} {s' z l u : Value} (h : RT s x [.int .i64 n, s', z, l, u]) : I64 n := by
  obtain ⟨_, _, _, hc, h1, _⟩ := h.open
  simp only [List.cons.injEq, Value.int.injEq, true_and] at hc
  exact hc.1 ▸ h1
theorem RT.str {x : Tre} {n s' z l u : Value} (h : RT s x [n, s', z, l, u]) : RSv s s' x.s := by
  obtain ⟨_, _, _, hc, _, h1, _⟩ := h.open
  simp only [List.cons.injEq] at hc
  exact hc.2.1 ▸ h1
theorem RMl_nil {y : Tre} {i : Nat} : RMl s [] y i [] := by simp [RMl]
theorem RMl_cons {f : Fld} {r : List Fld} {y : Tre} {i : Nat} {c c' : List Value} (h1 : RMf s f (y.at_ i) c) (h2 : RMl s r y (i + 1) c') : RMl s (f :: r) y i (c ++ c') := by
  simp only [RMl]
  exact ⟨c, c', rfl, h1, h2⟩
theorem frs_via {ds : List Nat} {tx ti tl ts : Nat} {v : Value} (h : ∀ d, fr d L = true → ¬ d = tx → ¬ d = ti → ¬ d = tl → ¬ d = ts → fr d E = true) : frs n ((tx, v) :: (ti, v) :: (tl, v) :: (ts, v) :: L) ds = true → frs n E ds = true := by
  induction ds with
  | nil => intro _; rfl
  | cons d r ih =>
    intro hh
    simp only [frs, fr, Bool.and_eq_true, Bool.not_eq_true'] at hh ⊢
    obtain ⟨⟨⟨h1, h2, h3, h4, h5, h6⟩, h7⟩, h8⟩ := hh
    have hb : ∀ a : Nat, Nat.beq a d = false → ¬ d = a := fun a hq e => by subst e; simp at hq
    exact ⟨⟨⟨h1, h d h6 (hb _ h2) (hb _ h3) (hb _ h4) (hb _ h5)⟩, h7⟩, ih h8⟩
theorem at_msg (h : M = M') (k : At K n L (MsgBox bm MT M' :: H1) C s) : At K n L (MsgBox bm MT M :: H1) C s := h ▸ k
theorem ln_storeM {t : TypeId} {a b : Operand} {v : Value} (hx : ev L a = some (.pointer (some ⟨bm, off, none⟩))) (hy : ev L b = some v) (h1 : v.oneCell' = true) (hsz : (Try.prog.info? t).map (·.size) = some 1) (hlt : off < M.length) (hM : M.set off v = M')
    (k : Ln Try.prog ops rest K n L (MsgBox bm MT M' :: H1) C s) : Ln Try.prog ops (⟨none, .store t a b, ty, pos, af, none⟩ :: rest) K n L (MsgBox bm MT M :: H1) C s := by
  subst hM
  exact ln_store1 (i := 0) rfl hx hy h1 hsz (by simp [Nat.ble_eq]; omega) k
/-- more cells than one -/
theorem ln_storeMA {t : TypeId} {a b : Operand} {vs : List Value} {m : Nat} (hx : ev L a = some (.pointer (some ⟨bm, off, none⟩))) (hy : ev L b = some (.agg vs.toArray)) (hvs : vs.length = m) (h1 : ∀ u ∈ vs, u.oneCell' = true) (hsz : (Try.prog.info? t).map (·.size) = some m) (hlt : off + m ≤ M.length) (hM : wr M off vs = M')
    (k : Ln Try.prog ops rest K n L (MsgBox bm MT M' :: H1) C s) : Ln Try.prog ops (⟨none, .store t a b, ty, pos, af, none⟩ :: rest) K n L (MsgBox bm MT M :: H1) C s :=
  ln_store (i := 0) (vs := vs) rfl hx hy rfl (by rw [hvs]; exact hsz) (by simp [Nat.ble_eq, hvs]; omega) (List.all_eq_true.2 h1) hM k
/-- if not null, with what follows at hand -/
theorem fl_nl {A : Code} {o : Int} {sb : List Fld} (htt : lk L tt = some (.pointer (some ⟨bt, 0, none⟩))) (hx : RT s x tcs) (hf : frs n L [d1, d2, d3, d4] = true) (hz0 : M[off]? = some (.slice none 0 0))
    (kk : ∀ u c, Tr s u → RLs u o sb (x.at_ j) c → At N n L (MsgBox bm MT (M.set off c) :: TreeBox bt tcs :: H0) C u)
    (hA : (x.at_ j).z = false → ∀ u, Tr s u → (∀ u' c, Tr u u' → RLs u' o sb (x.at_ j) c → At N n L (MsgBox bm MT (M.set off c) :: TreeBox bt tcs :: H0) C u') → Cd Try.prog A ⟨N, R, X⟩ n L (MsgBox bm MT M :: TreeBox bt tcs :: H0) C u) :
    Cd Try.prog (.seq (.region id [⟨some d1, .load 37 (.tmp tt), ty1, p1, a1, none⟩, ⟨some d2, .call ⟨.value (.func 134), [.tmp d1, .const (.int .i64 (j : Int))].toArray, tys⟩, ty2, p2, a2, none⟩,
      ⟨some d3, .field 37 (.tmp d2) 2, ty3, p3, a3, none⟩, ⟨some d4, .unOp .not ty5 (.tmp d3), ty4, p4, a4, none⟩].toArray false) (.cond (.tmp d4) A .skip)) ⟨N, R, X⟩ n L (MsgBox bm MT M :: TreeBox bt tcs :: H0) C s :=
  fl_null htt hx hf hz0 kk (fun hz u hu => hA hz u hu fun u' c h1 h2 => kk u' c (hu.trans h1) h2)
theorem frs_mem {ds : List Nat} (h : frs n L ds = true) : (∀ d ∈ ds, Nat.blt d n = true ∧ fr d L = true) ∧ ds.Pairwise (fun a b => ¬ a = b) := frs.all h
/-- the list is made, its room as great as it must be: through a pointer -/
theorem fl_makeP (hp : lk L pm = some (.pointer (some ⟨bm, 0, none⟩))) (htt : lk L tt = some (.pointer (some ⟨bt, 0, none⟩))) (hx : RT s x tcs) (hl : (x.at_ j).l.length ≤ 32767) (hu : Try.prog.underlying MT = some (.struct fs)) (hkf : fs[kf]? = some fl) (hft : fl.type = ST) (hsz : (Try.prog.info? ST).map (·.size) = some 1) (ho : fl.offset = off)
    (hST : Try.prog.underlying ST = some (.slice et)) (hti : TI Try.prog et z ez by_) (hby : by_ ≤ 4294967296) (hf : frs n L [d0, d1, d2, d3, d4, d5, d6, d7] = true) (hlt : off < M.length)
    (kk : ∀ u g cap, Tr s u → At N n L (.row (.slice (some ⟨g, 0, none⟩) 0 cap) et ez 0 [] :: MsgBox bm MT (M.set off (.slice (some ⟨g, 0, none⟩) 0 cap)) :: TreeBox bt tcs :: H0) C u) :
    Cd Try.prog (.region id [⟨some d0, .move (.tmp pm), ty0, p0, a0, none⟩, ⟨some d1, .load 37 (.tmp tt), ty1, p1, a1, none⟩, ⟨some d2, .call ⟨.value (.func 134), [.tmp d1, .const (.int .i64 (j : Int))].toArray, tys⟩, ty2, p2, a2, none⟩,
      ⟨some d3, .field 37 (.tmp d2) 3, ty3, p3, a3, none⟩, ⟨some d4, .call ⟨.builtin .len, #[.tmp d3], #[34]⟩, ty4, p4, a4, none⟩, ⟨some d5, .makeSlice ST (.const (.int .i64 0)) (.tmp d4), ty5, p5, a5, none⟩,
      ⟨some d6, .nilCheck (.tmp d0), ty6, p6, a6, none⟩, ⟨some d7, .fieldAddr MT (.tmp d6) kf, ty7, p7, a7, none⟩, ⟨none, .store ST (.tmp d7) (.tmp d5), ty8, p8, a8, none⟩].toArray false) ⟨N, R, X⟩ n L (MsgBox bm MT M :: TreeBox bt tcs :: H0) C s := by
  subst hft
  have hff := hf
  obtain ⟨hb, hfr, hne⟩ := frs_get hf
  simp only [List.pairwise_cons, List.mem_cons, List.not_mem_nil, or_false, forall_eq_or_imp, forall_eq, List.Pairwise.nil, and_true, false_imp_iff, implies_true] at hb hfr hne
  obtain ⟨f0, f1, f2, f3, f4, f5, f6, f7⟩ := hfr
  obtain ⟨g0, g1, g2, g3, g4, g5, g6, g7⟩ := hb
  have hf2 : ∀ v : Value, frs n ((d0, v) :: L) [d1, d2] = true := fun v => by
    simp only [frs, fr, Bool.and_eq_true, List.all_cons, List.all_nil] at hff ⊢
    have h1 : Nat.beq d0 d1 = false := nbeq hne.1.1.1
    have h2 : Nat.beq d0 d2 = false := nbeq hne.1.2.1.1
    simp_all
  refine cd_region ?_
  refine ln_pv (pv_move hp) g0 ?_
  refine ln_at (i0 := 1) (by rw [lk_ne (lk_fr f0 htt)]; exact htt) rfl hx (hf2 _) (fun u sS sL sU hu' hds => ?_)
  obtain ⟨_, _, _, hcells, _, _, ⟨lc, hL, hLs⟩, _⟩ := hds.open
  simp only [List.cons.injEq, true_and, and_true] at hcells
  obtain ⟨rfl, rfl, rfl⟩ := hcells
  obtain ⟨adL, cL, rfl, hleL⟩ := hL.shape
  refine ln_pv (pv_field1 (v := .slice adL (x.at_ j).l.length cL) Try.underlying37 rfl Try.underlying34 rfl lk_eq rfl) g3 ?_
  refine ln_pv (pv_len_slice Try.underlying34 lk_eq) g4 ?_
  refine ln_make0' (c := (x.at_ j).l.length) hST hti ev_c lk_eq (by have : by_ * (x.at_ j).l.length ≤ 4294967296 * 32767 := Nat.mul_le_mul hby hl; omega) (by simp only [maxLen]; omega) g5 (fun g => ?_)
  refine ln_pv (pv_nilCheck (by rw [ev_t, lk_ne (by simp [hne]), lk_ne (by simp [hne]), lk_ne (by simp [hne]), lk_ne (by simp [hne]), lk_eq])) g6 ?_
  refine ln_pv (pv_fieldAddr (off := off) (r := off) hu hkf hsz ho lk_eq (by omega)) g7 ?_
  refine ln_store1 (i := 1) (v := .slice (some ⟨g, 0, none⟩) 0 (x.at_ j).l.length) rfl lk_eq (by simp [ev_t, lk_eq, lk_ne, hne]) rfl hsz (by simp [Nat.ble_eq]; omega) ?_
  refine ln_nil ?_
  refine at_sub (.skip f7 (.skip f6 (.skip f5 (.skip f4 (.skip f3 (.skip f2 (.skip f0 .rfl'))))))) ?_
  exact kk u g _ hu'
/-- the same, in a variable of the function's own -/
theorem fl_makeL (hp : lk L pm = some (.pointer (some ⟨bm, 0, none⟩))) (htt : lk L tt = some (.pointer (some ⟨bt, 0, none⟩))) (hx : RT s x tcs) (hl : (x.at_ j).l.length ≤ 32767) (hu : Try.prog.underlying MT = some (.struct fs)) (hkf : fs[kf]? = some fl) (hft : fl.type = ST) (hsz : (Try.prog.info? ST).map (·.size) = some 1) (ho : fl.offset = off)
    (hST : Try.prog.underlying ST = some (.slice et)) (hti : TI Try.prog et z ez by_) (hby : by_ ≤ 4294967296) (hf : frs n L [d1, d2, d3, d4, d5, d7] = true) (hlt : off < M.length)
    (kk : ∀ u g cap, Tr s u → At N n L (.row (.slice (some ⟨g, 0, none⟩) 0 cap) et ez 0 [] :: MsgBox bm MT (M.set off (.slice (some ⟨g, 0, none⟩) 0 cap)) :: TreeBox bt tcs :: H0) C u) :
    Cd Try.prog (.region id [⟨some d1, .load 37 (.tmp tt), ty1, p1, a1, none⟩, ⟨some d2, .call ⟨.value (.func 134), [.tmp d1, .const (.int .i64 (j : Int))].toArray, tys⟩, ty2, p2, a2, none⟩,
      ⟨some d3, .field 37 (.tmp d2) 3, ty3, p3, a3, none⟩, ⟨some d4, .call ⟨.builtin .len, #[.tmp d3], #[34]⟩, ty4, p4, a4, none⟩, ⟨some d5, .makeSlice ST (.const (.int .i64 0)) (.tmp d4), ty5, p5, a5, none⟩,
      ⟨some d7, .fieldAddr MT (.tmp pm) kf, ty7, p7, a7, none⟩, ⟨none, .store ST (.tmp d7) (.tmp d5), ty8, p8, a8, none⟩].toArray false) ⟨N, R, X⟩ n L (MsgBox bm MT M :: TreeBox bt tcs :: H0) C s := by
  subst hft
  have hff := hf
  obtain ⟨hb, hfr, hne⟩ := frs_get hf
  simp only [List.pairwise_cons, List.mem_cons, List.not_mem_nil, or_false, forall_eq_or_imp, forall_eq, List.Pairwise.nil, and_true, false_imp_iff, implies_true] at hb hfr hne
  obtain ⟨f1, f2, f3, f4, f5, f7⟩ := hfr
  obtain ⟨g1, g2, g3, g4, g5, g7⟩ := hb
  have hf2 : frs n L [d1, d2] = true := by
    simp only [frs, Bool.and_eq_true, List.all_cons, List.all_nil] at hff ⊢
    simp_all
  refine cd_region ?_
  refine ln_at (i0 := 1) htt rfl hx hf2 (fun u sS sL sU hu' hds => ?_)
  obtain ⟨_, _, _, hcells, _, _, ⟨lc, hL, hLs⟩, _⟩ := hds.open
  simp only [List.cons.injEq, true_and, and_true] at hcells
  obtain ⟨rfl, rfl, rfl⟩ := hcells
  obtain ⟨adL, cL, rfl, hleL⟩ := hL.shape
  refine ln_pv (pv_field1 (v := .slice adL (x.at_ j).l.length cL) Try.underlying37 rfl Try.underlying34 rfl lk_eq rfl) g3 ?_
  refine ln_pv (pv_len_slice Try.underlying34 lk_eq) g4 ?_
  refine ln_make0' (c := (x.at_ j).l.length) hST hti ev_c lk_eq (by have : by_ * (x.at_ j).l.length ≤ 4294967296 * 32767 := Nat.mul_le_mul hby hl; omega) (by simp only [maxLen]; omega) g5 (fun g => ?_)
  refine ln_pv (pv_fieldAddr (off := off) (r := off) hu hkf hsz ho (by rw [ev_t, lk_ne (lk_fr f5 hp), lk_ne (lk_fr f4 hp), lk_ne (lk_fr f3 hp), lk_ne (lk_fr f2 hp)]; exact hp) (by omega)) g7 ?_
  refine ln_store1 (i := 1) (v := .slice (some ⟨g, 0, none⟩) 0 (x.at_ j).l.length) rfl lk_eq (by simp [ev_t, lk_eq, lk_ne, hne]) rfl hsz (by simp [Nat.ble_eq]; omega) ?_
  refine ln_nil ?_
  refine at_sub (.skip f7 (.skip f5 (.skip f4 (.skip f3 (.skip f2 .rfl'))))) ?_
  exact kk u g _ hu'
end
end K
end Go.Proofs.Ytmknncmdbmnmgaa
