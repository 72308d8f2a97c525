import Derived.Test.YtmknncmdbmnmgabGreatR1
import Derived.Laws.MakeOwn
set_option linter.unusedVariables false
set_option linter.unusedSimpArgs false
namespace Go.Proofs.YtmknncmdbmnmgabGreat
namespace K
open Go Go.Lib
/-! ### Code that fills a struct out of a tree -/
section
variable {P : Program} {n : Nat} {L : Env} {H H' : Hp} {C : Cx} {s : Vw} {N R : Act → World → Prop} {X : List (Nat × (Act → World → Prop))} {K : Act → World → Prop} {p : Post} {ops : Array Oper} {rest : List Oper}
variable {ty : TypeId} {pos : String} {af : Array Edge}
theorem blks_cons (e : Ent) (H : Hp) : blks (e :: H) = e.blk ++ blks H := by simp [blks, List.flatMap_cons]
/-- one thing that the call has made is let go: from here on it is old memory -/
theorem st_free1 {e : Ent} {w : World} (hO : ∀ q, C.O q → q ∈ blks H) (hS : St C s (e :: H) w) : ∃ t : Vw, Tr s t ∧ Known t e ∧ St C t H w := by
  have hnd := hS.nd
  rw [blks_cons] at hnd
  obtain ⟨n1, n2, n3⟩ := List.nodup_append.1 hnd
  have hin : ∀ b ∈ e.blk, b ∈ blks (e :: H) := fun b hb => by rw [blks_cons]; exact List.mem_append.2 (.inl hb)
  have hfresh : ∀ b ∈ e.blk, ¬ C.t.av b := fun b hb h => by
    have h1 := (hS.own b (hin b hb)).2
    have h2 := C.t.lt b h
    rcases h1 with h3 | h3
    · exact n3 b hb b (hO b h3) rfl
    · exact absurd h3 (by show ¬ C.t.w.heap.size ≤ b; omega)
  refine ⟨⟨w, fun b => (b ∈ blks H ∨ s.av b) ∧ b ∉ e.blk, fun b hb => hb.1.elim (fun h => hS.hf.lt (by rw [blks_cons]; exact List.mem_append.2 (.inr h))) (fun h => Nat.lt_of_lt_of_le (s.lt b h) hS.mod.size)⟩,
    ⟨hS.mod.mono fun _ _ h => h.1, fun b hb => hb.1.elim (fun h => (hS.own b (by rw [blks_cons]; exact List.mem_append.2 (.inr h))).1) .inl⟩, ?_, ?_⟩
  · cases e with
    | obj b o => exact ⟨fun h => h.2 (by simp [Ent.blk]), hS.hf (.obj b o) (by simp)⟩
    | row v e sz m xs => exact ⟨hS.hf (.row v e sz m xs) (by simp), fun b hb h => h.2 (by simp [Ent.blk, hb])⟩
  · exact ⟨hS.whole, Mod.refl _ _, fun x hx => hS.hf x (List.mem_cons_of_mem _ hx), fun b hb => ⟨.inl ⟨.inl hb, fun h => n3 b h b hb rfl⟩, (hS.own b (by rw [blks_cons]; exact List.mem_append.2 (.inr hb))).2⟩, n2,
      fun b hb => ⟨.inr (hS.up b hb), fun h => hfresh b h hb⟩⟩
theorem at_free1 {e : Ent} (hO : ∀ q, C.O q → q ∈ blks H) (k : ∀ t, Tr s t → Known t e → At K n L H C t) : At K n L (e :: H) C s := fun a w hF hS => by
  obtain ⟨t, h1, h2, h3⟩ := st_free1 hO hS
  exact k t h1 h2 a w hF h3
theorem cd_free1 {e : Ent} {c : Code} (hO : ∀ q, C.O q → q ∈ blks H) (k : ∀ t, Tr s t → Known t e → Cd P c p n L H C t) : Cd P c p n L (e :: H) C s := fun a w hF hS => by
  obtain ⟨t, h1, h2, h3⟩ := st_free1 hO hS
  exact k t h1 h2 a w hF h3
theorem ln_free1 {e : Ent} {l : List Oper} (hO : ∀ q, C.O q → q ∈ blks H) (k : ∀ t, Tr s t → Known t e → Ln P ops l K n L H C t) : Ln P ops l K n L (e :: H) C s := fun a w hF hS => by
  obtain ⟨t, h1, h2, h3⟩ := st_free1 hO hS
  exact k t h1 h2 a w hF h3
theorem at_dropH (hs : H'.Sublist H) (k : At K n L H' C s) : At K n L H C s := fun a w hF hS => k a w hF (hS.sub hs)
theorem cd_dropH {c : Code} (hs : H'.Sublist H) (k : Cd P c p n L H' C s) : Cd P c p n L H C s := fun a w hF hS => k a w hF (hS.sub hs)
/-- make of a slice with nothing in it -/
theorem ln_make0' {d c by_ sz : Nat} {t e : TypeId} {z : Value} {x y : Operand} (hu : P.underlying t = some (.slice e)) (hti : TI P e z sz by_) (hx : ev L x = some (.int .i64 0)) (hy : ev L y = some (.int .i64 (c : Int))) (hb : by_ * c ≤ 281474976710656) (hm : c ≤ maxLen) (hd : Nat.blt d n = true)
    (k : ∀ g, Ln P ops rest K n ((d, .slice (some ⟨g, 0, none⟩) 0 c) :: L) (.row (.slice (some ⟨g, 0, none⟩) 0 c) e sz 0 [] :: H) C s) : Ln P ops (⟨some d, .makeSlice t x y, ty, pos, af, none⟩ :: rest) K n L H C s := fun a w hF hS => by
  obtain ⟨ii, hii, hz0, hz1, hz2⟩ := info_parts hti
  obtain ⟨w', hr, hown, hg⟩ := run_make_own (P := P) w 0 t e ii z sz hu hii hz0 hz1 .i64 .i64 c (by rw [hz2]; exact hb) hm (Nat.zero_le _)
  have hS' : St C s (.row (.slice none 0 0) e sz 0 [] :: H) w := hS.nilrow e sz
  have hsz := hown.2
  refine wpl_val (w' := w') rfl (by simp [execOp, hF.ev hx, hF.ev hy, hr]) (k w.heap.size _ _ (hF.put d _ hd) (hS'.turn (i := 0) (e' := .row (.slice (some ⟨w.heap.size, 0, none⟩) 0 c) e sz 0 []) rfl (Mod.grown hg (by simp)) hown (fun q hq => .inr (by simp only [Ent.blk, Value.ownBlock, Option.toList, List.mem_singleton] at hq; omega)) (by simp [Ent.blk, Value.ownBlock])))
end
section
variable {n : Nat} {L : Env} {H H0 : Hp} {C : Cx} {s : Vw} {N R : Act → World → Prop} {X : List (Nat × (Act → World → Prop))} {K : Act → World → Prop} {ops : Array Oper} {rest : List Oper}
variable {id id' id1 id2 id3 id4 : Nat} {tt ti tl ts tc te tx d0 d1 d2 d3 d4 d5 d6 d7 d8 : Nat} {x : Tre} {tcs : List Value} {bt bm off j i0 : Nat} {MT : TypeId} {M : List Value}
variable {ty0 ty1 ty2 ty3 ty4 ty5 ty6 ty7 ty8 ty9 : TypeId} {p0 p1 p2 p3 p4 p5 p6 p7 p8 p9 : String} {a0 a1 a2 a3 a4 a5 a6 a7 a8 a9 : Array Edge} {tys : Array TypeId}
variable {uy1 uy2 uy3 uy4 uy5 uy6 : TypeId} {q1 q2 q3 q4 q5 q6 : String} {c1 c2 c3 c4 c5 c6 : Array Edge}
abbrev TreeBox (bt : Nat) (tcs : List Value) : Ent := .obj bt (.cells tcs.toArray 39)
abbrev MsgBox (bm : Nat) (MT : TypeId) (M : List Value) : Ent := .obj bm (.cells M.toArray MT)
/-- at(t, j) -/
theorem ln_at (htt : lk L tt = some (.pointer (some ⟨bt, 0, none⟩))) (hH : H[i0]? = some (TreeBox bt tcs)) (hx : RT s x tcs) (hf : frs n L [d1, d2] = true)
    (kk : ∀ u sS sL sU, Tr s u → RT u (x.at_ j) [.int .i64 (x.at_ j).n, sS, .bool (x.at_ j).z, sL, sU] → Ln Tryz.prog ops rest K n ((d2, .agg [.int .i64 (x.at_ j).n, sS, .bool (x.at_ j).z, sL, sU].toArray) :: L) H C u) :
    Ln Tryz.prog ops (⟨some d1, .load 39 (.tmp tt), ty1, p1, a1, none⟩ :: ⟨some d2, .call ⟨.value (.func 61), [.tmp d1, .const (.int .i64 (j : Int))].toArray, tys⟩, ty2, p2, a2, none⟩ :: rest) K n L H C s := by
  obtain ⟨hb, hfr, hne⟩ := frs_get hf
  simp only [List.pairwise_cons, List.mem_cons, List.not_mem_nil, or_false, forall_eq_or_imp, forall_eq, List.Pairwise.nil, and_true, false_imp_iff, implies_true] at hb hfr hne
  refine ln_pv (pv_ldO hH Tryz.underlying39 rfl (tiimpl_Tree).size htt hx.len) hb.1 ?_
  refine ln_callA (vals := [.agg tcs.toArray, .int .i64 (j : Int)]) en_61 (by simp [evs, ev_t, ev_c, lk_eq]) (fun u hu => impl_at u x tcs j (RT.mv hx hu)) hb.2 ?_
  rintro u v hu ⟨ds, rfl, hds⟩
  obtain ⟨sS, sL, sU, rfl, h2, h3, h4, h5⟩ := hds.open
  have h := kk u sS sL sU hu hds
  have hsub : sub ((d2, .agg [.int .i64 (x.at_ j).n, sS, .bool (x.at_ j).z, sL, sU].toArray) :: L) ((d2, .agg [.int .i64 (x.at_ j).n, sS, .bool (x.at_ j).z, sL, sU].toArray) :: (d1, .agg tcs.toArray) :: L) := .cons (.skip hfr.1 .rfl')
  exact fun a w hF hS => h a w (hF.drop hsub) hS
/-- if not null -/
theorem fl_null {A : Code} {o : Int} {sb : List Fld} (htt : lk L tt = some (.pointer (some ⟨bt, 0, none⟩))) (hx : RT s x tcs) (hf : frs n L [d1, d2, d3, d4] = true) (hz0 : M[off]? = some (.slice none 0 0))
    (kk : ∀ u c, Tr s u → RLs u o sb (x.at_ j) c → At N n L (MsgBox bm MT (M.set off c) :: TreeBox bt tcs :: H0) C u)
    (hA : (x.at_ j).z = false → ∀ u, Tr s u → Cd Tryz.prog A ⟨N, R, X⟩ n L (MsgBox bm MT M :: TreeBox bt tcs :: H0) C u) :
    Cd Tryz.prog (.seq (.region id [⟨some d1, .load 39 (.tmp tt), ty1, p1, a1, none⟩, ⟨some d2, .call ⟨.value (.func 61), [.tmp d1, .const (.int .i64 (j : Int))].toArray, tys⟩, ty2, p2, a2, none⟩,
      ⟨some d3, .field 39 (.tmp d2) 2, ty3, p3, a3, none⟩, ⟨some d4, .unOp .not ty5 (.tmp d3), ty4, p4, a4, none⟩].toArray false) (.cond (.tmp d4) A .skip)) ⟨N, R, X⟩ n L (MsgBox bm MT M :: TreeBox bt tcs :: H0) C s := by
  have hff := hf
  obtain ⟨hb, hfr, hne⟩ := frs_get hf
  simp only [List.pairwise_cons, List.mem_cons, List.not_mem_nil, or_false, forall_eq_or_imp, forall_eq, List.Pairwise.nil, and_true, false_imp_iff, implies_true] at hb hfr hne
  have hf2 : frs n L [d1, d2] = true := by
    simp only [frs, Bool.and_eq_true, List.all_cons, List.all_nil] at hff ⊢
    simp_all
  refine cd_sq ?_
  refine cd_region ?_
  refine ln_at (i0 := 1) htt rfl hx hf2 (fun u sS sL sU hu hds => ?_)
  refine ln_pv (pv_field1 (v := .bool (x.at_ j).z) Tryz.underlying39 rfl Tryz.underlying4 rfl lk_eq rfl) hb.2.2.1 ?_
  refine ln_pv (pv_not lk_eq) hb.2.2.2 ?_
  have hs : ∀ u1 u2 u3, sub L ((d4, u1) :: (d3, u2) :: (d2, u3) :: L) := fun u1 u2 u3 => .skip hfr.2.2.2 (.skip hfr.2.2.1 (.skip hfr.2.1 .rfl'))
  refine ln_nil (at_cd ?_)
  refine cd_cond lk_eq (fun h => cd_sub_ (hs _ _ _) ?_) (fun h => cd_sub_ (hs _ _ _) ?_)
  · exact hA (by simpa using h) u hu
  · refine cd_skip (at_base fun u' hu' => ?_)
    have h2 := kk u' (.slice none 0 0) (hu.trans hu') (.inl ⟨by simpa using h, rfl⟩)
    have e : M.set off (.slice none 0 0) = M := by
      obtain ⟨h3, h4⟩ := List.getElem?_eq_some_iff.1 hz0
      rw [← h4, List.set_getElem_self]
    rwa [e] at h2
theorem seg_app {xs c : List Value} {i j ez : Nat} (hl : xs.length = i * ez) (hc : c.length = ez) : (j < i → seg (xs ++ c) j ez = seg xs j ez) ∧ seg (xs ++ c) i ez = c := by
  refine ⟨fun hj => ?_, ?_⟩
  · have h1 : (j + 1) * ez ≤ i * ez := Nat.mul_le_mul_right _ hj
    rw [Nat.succ_mul] at h1
    unfold seg
    rw [List.drop_append_of_le_length (by omega), List.take_append_of_le_length (by rw [List.length_drop]; omega)]
  · unfold seg
    rw [← hl, List.drop_left, List.take_of_length_le (by omega)]
/-- the things of a list, one behind the other, each appended -/
theorem fl_list {body : Code} {o : Int} {sb : List Fld} {rv : Value} {e : TypeId} {ez g0 cap0 : Nat} (hez : (if o = 7 then 16 else if o = 10 then fszs sb + 1 else 1) = ez) (htt : lk L tt = some (.pointer (some ⟨bt, 0, none⟩))) (hx : RT s x tcs) (hl : (x.at_ j).l.length ≤ 32767) (hz : (x.at_ j).z = false)
    (hf : frs n L [d1, d2, ts, tl, ti, tc, te, d3, d4, tx] = true) (hO : ∀ q, C.O q → q = bm) (hrv : rv = .slice (some ⟨g0, 0, none⟩) 0 cap0)
    (hbody : ∀ (i : Nat) (hi : i < (x.at_ j).l.length) (u : Vw) (b5 : Nat) (g cap : Nat) (xs ci : List Value) (sl : Value) (N' : Act → World → Prop) (X' : List (Nat × (Act → World → Prop))), Tr s u → xs.length = i * ez → RT u (x.at_ j).l[i] ci →
      (∀ u' g' cap' c, Tr u u' → REl u' o sb (x.at_ j).l[i] c → At N' n ((tx, .pointer (some ⟨b5, 0, none⟩)) :: (ti, .int .i64 (i : Int)) :: (tl, .int .i64 ((x.at_ j).l.length : Int)) :: (ts, sl) :: L) (TreeBox b5 ci :: .row (.slice (some ⟨g', 0, none⟩) (i + 1) cap') e ez (i + 1) (xs ++ c) :: MsgBox bm MT (M.set off (.slice (some ⟨g', 0, none⟩) (i + 1) cap')) :: TreeBox bt tcs :: H0) C u') →
      Cd Tryz.prog body ⟨N', R, X'⟩ n ((tx, .pointer (some ⟨b5, 0, none⟩)) :: (ti, .int .i64 (i : Int)) :: (tl, .int .i64 ((x.at_ j).l.length : Int)) :: (ts, sl) :: L) (TreeBox b5 ci :: .row (.slice (some ⟨g, 0, none⟩) i cap) e ez i xs :: MsgBox bm MT (M.set off (.slice (some ⟨g, 0, none⟩) i cap)) :: TreeBox bt tcs :: H0) C u)
    (kk : ∀ u c, Tr s u → RLs u o sb (x.at_ j) c → At N n L (MsgBox bm MT (M.set off c) :: TreeBox bt tcs :: H0) C u) :
    Cd Tryz.prog (.seq (.region id [⟨some d1, .load 39 (.tmp tt), ty1, p1, a1, none⟩, ⟨some d2, .call ⟨.value (.func 61), [.tmp d1, .const (.int .i64 (j : Int))].toArray, tys⟩, ty2, p2, a2, none⟩,
        ⟨some ts, .field 39 (.tmp d2) 3, ty3, p3, a3, none⟩, ⟨some tl, .call ⟨.builtin .len, #[.tmp ts], #[36]⟩, ty4, p4, a4, none⟩, ⟨some ti, .move (.const (.int .i64 0)), ty5, p5, a5, none⟩].toArray false)
      (.block id1 (.loop (.seq (.region id2 [⟨some tc, .binOp .lss uy1 (.tmp ti) (.tmp tl) uy2, ty6, p6, a6, none⟩].toArray false) (.seq (.cond (.tmp tc) .skip (.exit id1)) (.seq (.block id3 (.seq
          (.region id4 [⟨some d3, .indexAddr 36 (.tmp ts) (.tmp ti), uy5, q1, c1, none⟩, ⟨some d4, .load 39 (.tmp d3), uy6, q2, c2, none⟩, ⟨some tx, .alloc 39, ty9, q3, c3, none⟩, ⟨none, .store 39 (.tmp tx) (.tmp d4), ty0, q4, c4, none⟩].toArray false) body))
        (.region id' [⟨some te, .binOp .add uy3 (.tmp ti) (.const (.int .i64 1)) uy4, ty7, p7, a7, none⟩, ⟨some ti, .move (.tmp te), ty8, p8, a8, none⟩].toArray false)))))))
      ⟨N, R, X⟩ n L (.row rv e ez 0 [] :: MsgBox bm MT (M.set off rv) :: TreeBox bt tcs :: H0) C s := by
  subst hrv
  have hff := hf
  obtain ⟨hb, hfr, hne⟩ := frs_get hf
  simp only [List.pairwise_cons, List.mem_cons, List.not_mem_nil, or_false, forall_eq_or_imp, forall_eq, List.Pairwise.nil, and_true, false_imp_iff, implies_true] at hb hfr hne
  obtain ⟨f1, f2, fs, fl, fi, fc, fe, f3, f4, fx⟩ := hfr
  obtain ⟨b1, b2, bs, bl, bi, bc, be, b3, b4, bx⟩ := hb
  have hf2 : frs n L [d1, d2] = true := by
    simp only [frs, Bool.and_eq_true, List.all_cons, List.all_nil] at hff ⊢
    simp_all
  refine cd_sq ?_
  refine cd_region ?_
  refine ln_at (i0 := 2) htt rfl hx hf2 (fun u0 sS sL sU hu0 hds => ?_)
  obtain ⟨_, _, _, hcells, _, _, ⟨lc, hL, hLs⟩, _⟩ := hds.open
  simp only [List.cons.injEq, true_and, and_true] at hcells
  obtain ⟨rfl, rfl, rfl⟩ := hcells
  obtain ⟨adL, cL, rfl, hleL⟩ := hL.shape
  refine ln_pv (pv_field1 (v := .slice adL (x.at_ j).l.length cL) Tryz.underlying39 rfl Tryz.underlying36 rfl lk_eq rfl) bs ?_
  refine ln_pv (pv_len_slice Tryz.underlying36 lk_eq) bl ?_
  refine ln_pv (pv_move ev_c) bi ?_
  refine ln_nil (at_cd ?_)
  refine cd_block ?_
  generalize hy : x.at_ j = y at *
  refine cd_loop' (S := Nat × (Nat × Nat) × List Value) ⟨fun z => (ti, .int .i64 (z.1 : Int)) :: (tl, .int .i64 (y.l.length : Int)) :: (ts, .slice adL y.l.length cL) :: L, fun z => .row (.slice (some ⟨z.2.1.1, 0, none⟩) z.1 z.2.1.2) e ez z.1 z.2.2 :: MsgBox bm MT (M.set off (.slice (some ⟨z.2.1.1, 0, none⟩) z.1 z.2.1.2)) :: TreeBox bt tcs :: H0,
      fun z u => z.1 ≤ y.l.length ∧ z.2.2.length = z.1 * ez ∧ ∀ k, (hk : k < y.l.length) → k < z.1 → REl u o sb y.l[k] (seg z.2.2 k ez), fun z => y.l.length - z.1⟩ (0, (g0, cap0), [])
    (fun u hu => ⟨Nat.zero_le _, by simp, fun k hk h0 => absurd h0 (Nat.not_lt_zero k)⟩) ?_ (List.Sublist.refl _) ?_
  · exact .cons (.cons (.cons (.skip f2 .rfl')))
  · rintro ⟨i, ⟨g, cap⟩, xs⟩ u hu ⟨hi, hxl, hEl⟩
    dsimp only at hi hxl hEl ⊢
    have hs : ∀ v, sub ((ti, .int .i64 (i : Int)) :: (tl, .int .i64 (y.l.length : Int)) :: (ts, .slice adL y.l.length cL) :: L) ((tc, v) :: (ti, .int .i64 (i : Int)) :: (tl, .int .i64 (y.l.length : Int)) :: (ts, .slice adL y.l.length cL) :: L) := fun v =>
      .put (by simp [lk_eq, lk_ne, hne]) (.put (by simp [lk_eq, lk_ne, hne]) (.put (by simp [lk_eq, lk_ne, hne]) (.skip fc (.skip fi (.skip fl (.skip fs .rfl'))))))
    refine cd_sq ?_
    refine cd_region ?_
    refine ln_pv (pv_lss (k := .i64) (i := (i : Int)) (j := (y.l.length : Int)) lk_eq (by simp [ev_t, lk_eq, lk_ne, hne])) bc ?_
    refine ln_nil (at_cd ?_)
    refine cd_sq ?_
    refine cd_if lk_eq (fun hlt => ?_) (fun hge => ?_)
    · have hi' : i < y.l.length := by omega
      refine cd_skip ?_
      refine at_cd (cd_sub_ (hs _) ?_)
      refine cd_sq ?_
      refine cd_block ?_
      refine cd_sq ?_
      obtain ⟨bu, ou, rfl, hrc⟩ := hL.pos (by omega) (by decide)
      obtain ⟨w1, w2, w3, he, hk1, hk2⟩ := RTs.at_ hi' hLs
      have hsub := (hrc.mv hu (by rintro rfl; have := congrArg List.length he; simp [hk2.len] at this; omega)).sub (i * 5) he hk1
      have hk3 := hk2.mv hu
      have hlen := hk2.len
      refine cd_region ?_
      refine ln_pv (pv_ixN (b := bu) (o := ou) (c := cL) (i := i) Tryz.underlying36 (tiimpl_Tree).size (by simp [ev_t, lk_eq, lk_ne, hne]) (by simp [ev_t, lk_eq, lk_ne, hne]; rfl) hi') b3 ?_
      refine ln_pv (pv_ldR hsub Tryz.underlying39 rfl (tiimpl_Tree).size lk_eq hlen) b4 ?_
      refine ln_alloc tiimpl_Tree rfl bx (fun b5 => ?_)
      refine ln_storeW (i := 0) (v := .agg w2.toArray) rfl lk_eq (by simp [ev_t, lk_eq, lk_ne, hne]) rfl (tiimpl_Tree).size hlen hk2.cells ?_
      refine ln_nil (at_cd ?_)
      refine cd_sub_ (L' := (tx, .pointer (some ⟨b5, 0, none⟩)) :: (ti, .int .i64 (i : Int)) :: (tl, .int .i64 (y.l.length : Int)) :: (ts, .slice (some ⟨bu, ou, none⟩) y.l.length cL) :: L) (.cons (.put (by simp [lk_eq, lk_ne, hne]) (.put (by simp [lk_eq, lk_ne, hne]) (.put (by simp [lk_eq, lk_ne, hne]) (.skip f4 (.skip f3 (.skip fi (.skip fl (.skip fs .rfl'))))))))) ?_
      refine cd_base fun u2 hu2 => ?_
      refine hbody i hi' u2 b5 g cap xs w2 _ _ _ (hu0.trans (hu.trans hu2)) hxl (hk3.mv hu2) (fun u' g' cap' c hu' hc => ?_)
      refine at_cd ?_
      refine cd_region ?_
      refine ln_pv (pv_add' (k := .i64) (i := (i : Int)) (j := 1) (r := ((i + 1 : Nat) : Int)) (by simp [ev_t, lk_eq, lk_ne, hne]) ev_c (wrap_succ (by omega))) be ?_
      refine ln_pv (pv_move lk_eq) bi ?_
      refine ln_nil ?_
      have hcl : c.length = ez := by rw [hc.len.1, hez]
      refine at_rnd' (i + 1, (g', cap'), xs ++ c) (hu.trans (hu2.trans hu')) (fun u3 hu3 => ⟨by dsimp only; omega, by dsimp only; rw [List.length_append, hxl, hcl, Nat.succ_mul], fun k hk hki => ?_⟩) (by dsimp only; omega) ?_ ?_
      · by_cases hkk : k < i
        · rw [(seg_app hxl hcl).1 hkk]
          exact (hEl k hk hkk).mv (hu2.trans (hu'.trans hu3))
        · have hke : k = i := by dsimp only at hki; omega
          subst hke
          rw [(seg_app (j := k) hxl hcl).2]
          exact hc.mv hu3
      · exact .put lk_eq (.put (by simp [lk_eq, lk_ne, hne]) (.put (by simp [lk_eq, lk_ne, hne]) (.skip fi (.skip fe (.skip fx (.skip fi (.skip fl (.skip fs .rfl'))))))))
      · exact List.Sublist.cons _ (List.Sublist.refl _)
    · have him : i = y.l.length := by omega
      subst him
      refine cd_exit (K := N) (by simp [lkx]) ?_
      refine at_sub (.skip fc (.skip fi (.skip fl (.skip fs .rfl')))) ?_
      refine at_base fun u2 hu2 => ?_
      refine at_free1 (fun q hq => by rw [hO q hq]; simp [blks, Ent.blk]) (fun u3 hu3 hK => ?_)
      have hEl3 := fun k (hk : k < y.l.length) => (hEl k hk hk).mv (hu2.trans hu3)
      have hone : ∀ v ∈ xs, v.oneCell' = true := fun v hv => by
        obtain ⟨q, hq, rfl⟩ := List.getElem_of_mem hv
        have hpos : 0 < ez := by
          rw [← hez]
          split
          · omega
          · split <;> omega
        have h1 : q / ez < y.l.length := by rw [Nat.div_lt_iff_lt_mul hpos]; rw [← hxl]; exact hq
        refine (hEl3 (q / ez) h1).len.2 _ ?_
        unfold seg
        have h2 : q = q / ez * ez + q % ez := by rw [Nat.mul_comm]; exact (Nat.div_add_mod q ez).symm
        have h3 := Nat.mod_lt q hpos
        have h4 : ((xs.drop (q / ez * ez)).take ez)[q % ez]? = some xs[q] := by
          rw [List.getElem?_take_of_lt h3, List.getElem?_drop, ← h2]
          exact List.getElem?_eq_getElem hq
        exact List.mem_of_getElem? h4
      refine kk u3 _ (hu0.trans (hu.trans (hu2.trans hu3))) (.inr ⟨hz, g, 0, cap, xs, rfl, ?_, fun k hk => ?_⟩)
      · rw [hez]
        exact hK.rs hone
      · rw [hez]
        exact hEl3 k hk
end
end K
end Go.Proofs.YtmknncmdbmnmgabGreat
