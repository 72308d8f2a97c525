import Derived.Test.YtpphedmelbfnmaaGreatDoorR1
import Derived.Laws.MakeOwn
import Derived.Test.YtpphedmelbfnmaaGreatDoorP2
set_option linter.unusedVariables false
set_option linter.unusedSimpArgs false
namespace Go.Proofs.YtpphedmelbfnmaaGreatDoor
namespace K
open Go Go.Lib
/-! ### Code that fills a struct out of a tree -/
section
variable {P : Program} {n : Nat} {L : Env} {H H' : Hp} {C : Cx} {s : Vw} {N R : Act → World → Prop} {X : List (Nat × (Act → World → Prop))} {K : Act → World → Prop} {p : Post} {ops : Array Oper} {rest : List Oper}
variable {ty : TypeId} {pos : String} {af : Array Edge}
theorem blks_cons (e : Ent) (H : Hp) : blks (e :: H) = e.blk ++ blks H := by simp [blks, List.flatMap_cons]
/-- one thing that the call has made is let go: from here on it is old memory -/
theorem st_free1 {e : Ent} {w : World} (hO : ∀ q, C.O q → q ∈ blks H) (hS : St C s (e :: H) w) : ∃ t : Vw, Tr s t ∧ Known t e ∧ St C t H w := by
  have hnd := hS.nd
  rw [blks_cons] at hnd
  obtain ⟨n1, n2, n3⟩ := List.nodup_append.1 hnd
  have hin : ∀ b ∈ e.blk, b ∈ blks (e :: H) := fun b hb => by rw [blks_cons]; exact List.mem_append.2 (.inl hb)
  have hfresh : ∀ b ∈ e.blk, ¬ C.t.av b := fun b hb h => by
    have h1 := (hS.own b (hin b hb)).2
    have h2 := C.t.lt b h
    rcases h1 with h3 | h3
    · exact n3 b hb b (hO b h3) rfl
    · exact absurd h3 (by show ¬ C.t.w.heap.size ≤ b; omega)
  refine ⟨⟨w, fun b => (b ∈ blks H ∨ s.av b) ∧ b ∉ e.blk, fun b hb => hb.1.elim (fun h => hS.hf.lt (by rw [blks_cons]; exact List.mem_append.2 (.inr h))) (fun h => Nat.lt_of_lt_of_le (s.lt b h) hS.mod.size)⟩,
    ⟨hS.mod.mono fun _ _ h => h.1, fun b hb => hb.1.elim (fun h => (hS.own b (by rw [blks_cons]; exact List.mem_append.2 (.inr h))).1) .inl⟩, ?_, ?_⟩
  · cases e with
    | obj b o => exact ⟨fun h => h.2 (by simp [Ent.blk]), hS.hf (.obj b o) (by simp)⟩
    | row v e sz m xs => exact ⟨hS.hf (.row v e sz m xs) (by simp), fun b hb h => h.2 (by simp [Ent.blk, hb])⟩
  · exact ⟨hS.whole, Mod.refl _ _, fun x hx => hS.hf x (List.mem_cons_of_mem _ hx), fun b hb => ⟨.inl ⟨.inl hb, fun h => n3 b h b hb rfl⟩, (hS.own b (by rw [blks_cons]; exact List.mem_append.2 (.inr hb))).2⟩, n2,
      fun b hb => ⟨.inr (hS.up b hb), fun h => hfresh b h hb⟩⟩
theorem at_free1 {e : Ent} (hO : ∀ q, C.O q → q ∈ blks H) (k : ∀ t, Tr s t → Known t e → At K n L H C t) : At K n L (e :: H) C s := fun a w hF hS => by
  obtain ⟨t, h1, h2, h3⟩ := st_free1 hO hS
  exact k t h1 h2 a w hF h3
theorem cd_free1 {e : Ent} {c : Code} (hO : ∀ q, C.O q → q ∈ blks H) (k : ∀ t, Tr s t → Known t e → Cd P c p n L H C t) : Cd P c p n L (e :: H) C s := fun a w hF hS => by
  obtain ⟨t, h1, h2, h3⟩ := st_free1 hO hS
  exact k t h1 h2 a w hF h3
theorem ln_free1 {e : Ent} {l : List Oper} (hO : ∀ q, C.O q → q ∈ blks H) (k : ∀ t, Tr s t → Known t e → Ln P ops l K n L H C t) : Ln P ops l K n L (e :: H) C s := fun a w hF hS => by
  obtain ⟨t, h1, h2, h3⟩ := st_free1 hO hS
  exact k t h1 h2 a w hF h3
theorem at_dropH (hs : H'.Sublist H) (k : At K n L H' C s) : At K n L H C s := fun a w hF hS => k a w hF (hS.sub hs)
theorem cd_dropH {c : Code} (hs : H'.Sublist H) (k : Cd P c p n L H' C s) : Cd P c p n L H C s := fun a w hF hS => k a w hF (hS.sub hs)
/-- make of a slice with nothing in it -/
theorem ln_make0' {d c by_ sz : Nat} {t e : TypeId} {z : Value} {x y : Operand} (hu : P.underlying t = some (.slice e)) (hti : TI P e z sz by_) (hx : ev L x = some (.int .i64 0)) (hy : ev L y = some (.int .i64 (c : Int))) (hb : by_ * c ≤ 281474976710656) (hm : c ≤ maxLen) (hd : Nat.blt d n = true)
    (k : ∀ g, Ln P ops rest K n ((d, .slice (some ⟨g, 0, none⟩) 0 c) :: L) (.row (.slice (some ⟨g, 0, none⟩) 0 c) e sz 0 [] :: H) C s) : Ln P ops (⟨some d, .makeSlice t x y, ty, pos, af, none⟩ :: rest) K n L H C s := fun a w hF hS => by
  obtain ⟨ii, hii, hz0, hz1, hz2⟩ := info_parts hti
  obtain ⟨w', hr, hown, hg⟩ := run_make_own (P := P) w 0 t e ii z sz hu hii hz0 hz1 .i64 .i64 c (by rw [hz2]; exact hb) hm (Nat.zero_le _)
  have hS' : St C s (.row (.slice none 0 0) e sz 0 [] :: H) w := hS.nilrow e sz
  have hsz := hown.2
  refine wpl_val (w' := w') rfl (by simp [execOp, hF.ev hx, hF.ev hy, hr]) (k w.heap.size _ _ (hF.put d _ hd) (hS'.turn (i := 0) (e' := .row (.slice (some ⟨w.heap.size, 0, none⟩) 0 c) e sz 0 []) rfl (Mod.grown hg (by simp)) hown (fun q hq => .inr (by simp only [Ent.blk, Value.ownBlock, Option.toList, List.mem_singleton] at hq; omega)) (by simp [Ent.blk, Value.ownBlock])))
end
section
variable {n : Nat} {L : Env} {H H0 : Hp} {C : Cx} {s : Vw} {N R : Act → World → Prop} {X : List (Nat × (Act → World → Prop))} {K : Act → World → Prop} {ops : Array Oper} {rest : List Oper}
variable {id id' id1 id2 id3 id4 : Nat} {tt ti tl ts tc te tx d0 d1 d2 d3 d4 d5 d6 d7 d8 : Nat} {x : Tre} {tcs : List Value} {bt bm off j i0 : Nat} {MT : TypeId} {M : List Value}
variable {ty0 ty1 ty2 ty3 ty4 ty5 ty6 ty7 ty8 ty9 : TypeId} {p0 p1 p2 p3 p4 p5 p6 p7 p8 p9 : String} {a0 a1 a2 a3 a4 a5 a6 a7 a8 a9 : Array Edge} {tys : Array TypeId}
variable {uy1 uy2 uy3 uy4 uy5 uy6 : TypeId} {q1 q2 q3 q4 q5 q6 : String} {c1 c2 c3 c4 c5 c6 : Array Edge}
abbrev TreeBox (bt : Nat) (tcs : List Value) : Ent := .obj bt (.cells tcs.toArray 42)
abbrev MsgBox (bm : Nat) (MT : TypeId) (M : List Value) : Ent := .obj bm (.cells M.toArray MT)
theorem seg_app {xs c : List Value} {i j ez : Nat} (hl : xs.length = i * ez) (hc : c.length = ez) : (j < i → seg (xs ++ c) j ez = seg xs j ez) ∧ seg (xs ++ c) i ez = c := by
  refine ⟨fun hj => ?_, ?_⟩
  · have h1 : (j + 1) * ez ≤ i * ez := Nat.mul_le_mul_right _ hj
    rw [Nat.succ_mul] at h1
    unfold seg
    rw [List.drop_append_of_le_length (by omega), List.take_append_of_le_length (by rw [List.length_drop]; omega)]
  · unfold seg
    rw [← hl, List.drop_left, List.take_of_length_le (by omega)]
end
end K
end Go.Proofs.YtpphedmelbfnmaaGreatDoor
namespace Go.Proofs.YtpphedmelbfnmaaGreatDoor
namespace K
open Go Go.Lib
def mapV : Option Nat → Value
  | none => .map none
  | some m => .map (some m)
def mapE : Option Nat → List (Nat × Value) → Hp
  | none, _ => []
  | some m, l => [.obj m (.map (ME l) l.length)]
theorem set_set {M : List Value} {off : Nat} {a b : Value} : (M.set off a).set off b = M.set off b := by simp
theorem set_get {M : List Value} {off : Nat} {a : Value} (h : off < M.length) : (M.set off a)[off]? = some a := by simp [h]
theorem tags_SetU (t : Vw) (b off k : Nat) (M : List Value) (ty : TypeId) (v : Value) (mo : Option Nat) (l : List (Nat × Value)) (hlt : off < M.length) (h0 : mo = none → l = []) (hnew : ∀ x ∈ l, x.1 ≠ k) (hok : HF (mapE mo l ++ [.obj b (.cells (M.set off (mapV mo)).toArray ty)]) t.w)
    (hav : ∀ q ∈ blks (mapE mo l ++ [.obj b (.cells (M.set off (mapV mo)).toArray ty)]), t.av q) (hnd : (blks (mapE mo l ++ [.obj b (.cells (M.set off (mapV mo)).toArray ty)])).Nodup) :
    CH Tryz.prog 84 [.pointer (some ⟨b, off, none⟩), .int .u32 (k : Int), v] t (mapE mo l ++ [.obj b (.cells (M.set off (mapV mo)).toArray ty)]) fun u r E' => ∃ m, E' = mapE (some m) (l ++ [(k, v)]) ++ [.obj b (.cells (M.set off (mapV (some m))).toArray ty)] := by
  cases mo with
  | none =>
    obtain rfl := h0 rfl
    have := tags_Set0 t b off k (M.set off (.map none)) ty v (set_get hlt) hok hav hnd
    refine Calls.mono this fun e w' ⟨r, E', he, h1, h2, h3, h4, h5, m, h6⟩ => ⟨r, E', he, h1, h2, h3, h4, h5, m, ?_⟩
    rw [h6, set_set]
    rfl
  | some m =>
    have := tags_Set1 t b off k m (M.set off (.map (some m))) ty v l (set_get hlt) hnew hok hav hnd
    refine Calls.mono this fun e w' ⟨r, E', he, h1, h2, h3, h4, h5, h6⟩ => ⟨r, E', he, h1, h2, h3, h4, h5, m, ?_⟩
    rw [h6]
    rfl
section
variable {n : Nat} {L : Env} {H H0 : Hp} {C : Cx} {s : Vw} {N R : Act → World → Prop} {X : List (Nat × (Act → World → Prop))} {K : Act → World → Prop} {ops : Array Oper} {rest : List Oper}
variable {id id' id1 id2 id3 id4 : Nat} {tt ti tl ts tc te tx pm d0 d1 d2 d3 d4 d5 d6 d7 d8 : Nat} {x : Tre} {tcs : List Value} {bt bm off j i0 kf : Nat} {MT : TypeId} {M : List Value}
variable {ty0 ty1 ty2 ty3 ty4 ty5 ty6 ty7 ty8 ty9 : TypeId} {p0 p1 p2 p3 p4 p5 p6 p7 p8 p9 : String} {a0 a1 a2 a3 a4 a5 a6 a7 a8 a9 : Array Edge} {tys : Array TypeId}
variable {uy1 uy2 uy3 uy4 uy5 uy6 : TypeId} {q1 q2 q3 q4 q5 q6 : String} {c1 c2 c3 c4 c5 c6 : Array Edge}
variable {fs : Array Field} {sz : Nat} {fl : Field}
abbrev TagBox (b5 k : Nat) (tv : Value) : Ent := .obj b5 (.cells [.int .u32 (k : Int), tv].toArray 69)
theorem set_perm {mo : Option Nat} {l : List (Nat × Value)} {e1 e2 : Ent} {H0 : Hp} : (e1 :: (mapE mo l ++ e2 :: H0)).Perm ((mapE mo l ++ [e2]) ++ (e1 :: H0)) := by
  have h : (mapE mo l ++ [e2]) ++ (e1 :: H0) = (mapE mo l ++ [e2]) ++ e1 :: H0 := rfl
  rw [h]
  refine List.Perm.trans ?_ List.perm_middle.symm
  simp
/-- the unknown tags, each set -/
theorem fl_tags {body : Code} (htt : lk L tt = some (.pointer (some ⟨bt, 0, none⟩))) (hx : RT s x tcs) (hk : (x.u.map (·.1)).Nodup) (hul : x.u.length ≤ 4398046511104) (hf : frs n L [d1, ts, tl, ti, tc, te, d3, d4, tx] = true) (hO : ∀ q, C.O q → q = bm) (hM0 : M[off]? = some (.map none))
    (hbody : ∀ (i : Nat) (hi : i < x.u.length) (u : Vw) (b5 : Nat) (mo : Option Nat) (l : List (Nat × Value)) (tv : Value) (E : Env) (N' : Act → World → Prop) (X' : List (Nat × (Act → World → Prop))), Tr s u → RSv u tv x.u[i].2 → (mo = none → l = []) → (∀ y ∈ l, y.1 ≠ x.u[i].1) →
      (∀ t v, lk L t = some v → lk E t = some v) → lk E tx = some (.pointer (some ⟨b5, 0, none⟩)) → (∀ d, fr d L = true → ¬ d = tx → ¬ d = ti → ¬ d = tl → ¬ d = ts → fr d E = true) →
      (∀ u' m, Tr u u' → At N' n E (mapE (some m) (l ++ [(x.u[i].1, tv)]) ++ MsgBox bm MT (M.set off (mapV (some m))) :: TagBox b5 x.u[i].1 tv :: TreeBox bt tcs :: H0) C u') →
      Cd Tryz.prog body ⟨N', R, X'⟩ n E (TagBox b5 x.u[i].1 tv :: (mapE mo l ++ MsgBox bm MT (M.set off (mapV mo)) :: TreeBox bt tcs :: H0)) C u)
    (kk : ∀ u mv, Tr s u → RTg u x mv → At N n L (MsgBox bm MT (M.set off mv) :: TreeBox bt tcs :: H0) C u) :
    Cd Tryz.prog (.seq (.region id [⟨some d1, .fieldAddr 42 (.tmp tt) 4, ty1, p1, a1, none⟩, ⟨some ts, .load 40 (.tmp d1), ty2, p2, a2, none⟩, ⟨some tl, .call ⟨.builtin .len, #[.tmp ts], #[40]⟩, ty4, p4, a4, none⟩, ⟨some ti, .move (.const (.int .i64 0)), ty5, p5, a5, none⟩].toArray false)
      (.block id1 (.loop (.seq (.region id2 [⟨some tc, .binOp .lss uy1 (.tmp ti) (.tmp tl) uy2, ty6, p6, a6, none⟩].toArray false) (.seq (.cond (.tmp tc) .skip (.exit id1)) (.seq (.block id3 (.seq
          (.region id4 [⟨some d3, .indexAddr 40 (.tmp ts) (.tmp ti), uy5, q1, c1, none⟩, ⟨some d4, .load 69 (.tmp d3), uy6, q2, c2, none⟩, ⟨some tx, .alloc 69, ty9, q3, c3, none⟩, ⟨none, .store 69 (.tmp tx) (.tmp d4), ty0, q4, c4, none⟩].toArray false) body))
        (.region id' [⟨some te, .binOp .add uy3 (.tmp ti) (.const (.int .i64 1)) uy4, ty7, p7, a7, none⟩, ⟨some ti, .move (.tmp te), ty8, p8, a8, none⟩].toArray false)))))))
      ⟨N, R, X⟩ n L (MsgBox bm MT M :: TreeBox bt tcs :: H0) C s := by
  obtain ⟨hb, hfr, hne⟩ := frs_get hf
  simp only [List.pairwise_cons, List.mem_cons, List.not_mem_nil, or_false, forall_eq_or_imp, forall_eq, List.Pairwise.nil, and_true, false_imp_iff, implies_true] at hb hfr hne
  obtain ⟨f1, fs, fl, fi, fc, fe, f3, f4, fx⟩ := hfr
  obtain ⟨b1, bs, bl, bi, bc, be, b3, b4, bx⟩ := hb
  have hoff : off < M.length := (List.getElem?_eq_some_iff.1 hM0).1
  have hMset : M = M.set off (mapV none) := by
    obtain ⟨h1, h2⟩ := List.getElem?_eq_some_iff.1 hM0
    show M = M.set off (.map none)
    rw [← h2, List.set_getElem_self]
  obtain ⟨sS, sL, sU, hcells, hn, hS, hLL, ⟨uc, hU, hUs⟩⟩ := hx.open
  obtain ⟨adU, cU, rfl, hleU⟩ := hU.shape
  have hH0 : (MsgBox bm MT M : Ent) = MsgBox bm MT (M.set off (mapV none)) := congrArg _ hMset
  refine cd_sq ?_
  refine cd_region ?_
  refine ln_pv (pv_fieldAddr (off := 4) (r := 4) Tryz.underlying42 rfl (tiSl_impl_Tag).size rfl htt rfl) b1 ?_
  refine ln_pv (pv_ldo (i := 1) (v := .slice adU x.u.length cU) rfl Tryz.underlying40 rfl lk_eq (by rw [hcells]; rfl)) bs ?_
  refine ln_pv (pv_len_slice Tryz.underlying40 lk_eq) bl ?_
  refine ln_pv (pv_move ev_c) bi ?_
  refine ln_nil (at_cd ?_)
  refine cd_block ?_
  refine cd_loop' (S := Nat × Option Nat × List (Nat × Value)) ⟨fun z => (ti, .int .i64 (z.1 : Int)) :: (tl, .int .i64 (x.u.length : Int)) :: (ts, .slice adU x.u.length cU) :: L, fun z => mapE z.2.1 z.2.2 ++ MsgBox bm MT (M.set off (mapV z.2.1)) :: TreeBox bt tcs :: H0,
      fun z u => z.1 ≤ x.u.length ∧ RK u z.2.2 (x.u.take z.1) ∧ (z.2.1 = none → z.2.2 = []), fun z => x.u.length - z.1⟩ (0, none, [])
    (fun u hu => ⟨Nat.zero_le _, rfl, fun _ => rfl⟩) ?_ (by show List.Sublist (MsgBox bm MT (M.set off (mapV none)) :: TreeBox bt tcs :: H0) _; rw [← hH0]; exact List.Sublist.refl _) ?_
  · exact .cons (.cons (.cons (.skip f1 .rfl')))
  · rintro ⟨i, mo, l⟩ u hu ⟨hi, hRK, hmo⟩
    dsimp only at hi hRK hmo ⊢
    have hs : ∀ v, sub ((ti, .int .i64 (i : Int)) :: (tl, .int .i64 (x.u.length : Int)) :: (ts, .slice adU x.u.length cU) :: L) ((tc, v) :: (ti, .int .i64 (i : Int)) :: (tl, .int .i64 (x.u.length : Int)) :: (ts, .slice adU x.u.length cU) :: L) := fun v =>
      .put (by simp [lk_eq, lk_ne, hne]) (.put (by simp [lk_eq, lk_ne, hne]) (.put (by simp [lk_eq, lk_ne, hne]) (.skip fc (.skip fi (.skip fl (.skip fs .rfl'))))))
    refine cd_sq ?_
    refine cd_region ?_
    refine ln_pv (pv_lss (k := .i64) (i := (i : Int)) (j := (x.u.length : Int)) lk_eq (by simp [ev_t, lk_eq, lk_ne, hne])) bc ?_
    refine ln_nil (at_cd ?_)
    refine cd_sq ?_
    refine cd_if lk_eq (fun hlt => ?_) (fun hge => ?_)
    · have hi' : i < x.u.length := by omega
      refine cd_skip ?_
      refine at_cd (cd_sub_ (hs _) ?_)
      refine cd_sq ?_
      refine cd_block ?_
      refine cd_sq ?_
      obtain ⟨bu, ou, rfl, hrc⟩ := hU.pos (by omega) (by decide)
      obtain ⟨w1, tv, w3, he, hk1, hk2, hk3⟩ := RUs.at_ hi' hUs
      have hsub := (hrc.mv hu (by rintro rfl; have := congrArg List.length he; simp at this)).sub (i * 2) he hk1
      refine cd_region ?_
      refine ln_pv (pv_ixN (b := bu) (o := ou) (c := cU) (i := i) Tryz.underlying40 (tiimpl_Tag).size (by simp [ev_t, lk_eq, lk_ne, hne]) (by simp [ev_t, lk_eq, lk_ne, hne]; rfl) hi') b3 ?_
      refine ln_pv (pv_ldR hsub Tryz.underlying69 rfl (tiimpl_Tag).size lk_eq rfl) b4 ?_
      refine ln_alloc tiimpl_Tag rfl bx (fun b5 => ?_)
      refine ln_storeW (i := 0) (v := .agg [.int .u32 (x.u[i].1 : Int), tv].toArray) rfl lk_eq (by simp [ev_t, lk_eq, lk_ne, hne]) rfl (tiimpl_Tag).size rfl (by simp [RS.one hk3]) ?_
      refine ln_nil (at_cd ?_)
      refine cd_sub_ (L' := (tx, .pointer (some ⟨b5, 0, none⟩)) :: (ti, .int .i64 (i : Int)) :: (tl, .int .i64 (x.u.length : Int)) :: (ts, .slice (some ⟨bu, ou, none⟩) x.u.length cU) :: L) (.cons (.put (by simp [lk_eq, lk_ne, hne]) (.put (by simp [lk_eq, lk_ne, hne]) (.put (by simp [lk_eq, lk_ne, hne]) (.skip f4 (.skip f3 (.skip fi (.skip fl (.skip fs .rfl'))))))))) ?_
      refine cd_base fun u2 hu2 => ?_
      refine hbody i hi' u2 b5 mo l tv _ _ _ (hu.trans hu2) (RSv.mv hk3 (hu.trans hu2)) hmo (nodup_new hi' (RK.keys hRK) hk) ?_ (by simp [lk_eq]) ?_ (fun u' m hu' => ?_)
      · exact sub.skip fx (sub.skip fi (sub.skip fl (sub.skip fs sub.rfl')))
      · intro d h1 h2 h3 h4 h5
        have hb : ∀ a b : Nat, ¬ b = a → Nat.beq a b = false := fun a b h => nbeq fun e => h e.symm
        simp [fr, hb _ _ h2, hb _ _ h3, hb _ _ h4, hb _ _ h5, h1]
      refine at_cd ?_
      refine cd_region ?_
      refine ln_pv (pv_add' (k := .i64) (i := (i : Int)) (j := 1) (r := ((i + 1 : Nat) : Int)) (by simp [ev_t, lk_eq, lk_ne, hne]) ev_c (wrap_succ (by omega))) be ?_
      refine ln_pv (pv_move lk_eq) bi ?_
      refine ln_nil ?_
      refine at_rnd' (i + 1, some m, l ++ [(x.u[i].1, tv)]) (hu.trans (hu2.trans hu')) (fun u3 hu3 => ⟨by dsimp only; omega, ?_, fun h => by cases h⟩) (by dsimp only; omega) ?_ ?_
      · rw [take_snoc' hi']
        exact RK.snoc (RSv.mv hk3 (hu.trans (hu2.trans (hu'.trans hu3)))) (RK.mv (hu2.trans (hu'.trans hu3)) hRK)
      · exact .put lk_eq (.put (by simp [lk_eq, lk_ne, hne]) (.put (by simp [lk_eq, lk_ne, hne]) (.skip fi (.skip fe (.skip fx (.skip fi (.skip fl (.skip fs .rfl'))))))))
      · exact List.Sublist.append (List.Sublist.refl _) (List.Sublist.cons_cons _ (List.Sublist.cons _ (List.Sublist.refl _)))
    · have him : i = x.u.length := by omega
      subst him
      rw [List.take_length] at hRK
      refine cd_exit (K := N) (by simp [lkx]) ?_
      refine at_sub (.skip fc (.skip fi (.skip fl (.skip fs .rfl')))) ?_
      refine at_base fun u2 hu2 => ?_
      cases mo with
      | none =>
        obtain rfl := hmo rfl
        exact kk u2 _ (hu.trans hu2) ⟨[], .inl ⟨rfl, rfl⟩, RK.mv hu2 hRK⟩
      | some m =>
        refine at_free1 (e := .obj m (.map (ME l) l.length)) (fun q hq => by rw [hO q hq]; simp [blks, Ent.blk]) (fun u3 hu3 hK => ?_)
        exact kk u3 _ (hu.trans (hu2.trans hu3)) ⟨l, .inr ⟨m, rfl, hK⟩, RK.mv (hu2.trans hu3) hRK⟩
/-- the tag is set, through a pointer -/
theorem fl_setP {E : Env} {b5 k : Nat} {mo : Option Nat} {l : List (Nat × Value)} {tv : Value} (hp : lk E pm = some (.pointer (some ⟨bm, 0, none⟩))) (htx : lk E tx = some (.pointer (some ⟨b5, 0, none⟩))) (hu : Tryz.prog.underlying MT = some (.struct fs)) (hkf : fs[kf]? = some fl) (hsz : (Tryz.prog.info? fl.type).map (·.size) = some (sz + 1)) (ho : fl.offset = off)
    (hf : frs n E [d1, d2, d3, d4, d5, d6, d7, d8] = true) (hlt : off < M.length) (h0 : mo = none → l = []) (hnew : ∀ y ∈ l, y.1 ≠ k)
    (hok : (seqOk [⟨some d1, .move (.tmp pm), ty1, p1, a1, none⟩, ⟨some d2, .nilCheck (.tmp d1), ty2, p2, a2, none⟩, ⟨some d3, .fieldAddr MT (.tmp d2) kf, ty3, p3, a3, none⟩, ⟨some d4, .fieldAddr 69 (.tmp tx) 0, ty4, p4, a4, none⟩, ⟨some d5, .load 67 (.tmp d4), ty5, p5, a5, none⟩,
        ⟨some d6, .fieldAddr 69 (.tmp tx) 1, ty6, p6, a6, none⟩, ⟨some d7, .load 22 (.tmp d6), ty7, p7, a7, none⟩, ⟨some d8, .call ⟨.value (.func 84), [.tmp d3, .tmp d5, .tmp d7].toArray, tys⟩, ty8, p8, a8, none⟩].toArray [0, 1, 2, 3, 4, 5, 6] [0, 1, 2, 3, 4, 5, 6, 7] (Array.replicate 8 false) &&
      Region.noSelect [⟨some d1, .move (.tmp pm), ty1, p1, a1, none⟩, ⟨some d2, .nilCheck (.tmp d1), ty2, p2, a2, none⟩, ⟨some d3, .fieldAddr MT (.tmp d2) kf, ty3, p3, a3, none⟩, ⟨some d4, .fieldAddr 69 (.tmp tx) 0, ty4, p4, a4, none⟩, ⟨some d5, .load 67 (.tmp d4), ty5, p5, a5, none⟩,
        ⟨some d6, .fieldAddr 69 (.tmp tx) 1, ty6, p6, a6, none⟩, ⟨some d7, .load 22 (.tmp d6), ty7, p7, a7, none⟩, ⟨some d8, .call ⟨.value (.func 84), [.tmp d3, .tmp d5, .tmp d7].toArray, tys⟩, ty8, p8, a8, none⟩].toArray && Nat.beq 8 8) = true)
    (kk : ∀ u m, Tr s u → At N n E (mapE (some m) (l ++ [(k, tv)]) ++ MsgBox bm MT (M.set off (mapV (some m))) :: TagBox b5 k tv :: H0) C u) :
    Cd Tryz.prog (.region id [⟨some d1, .move (.tmp pm), ty1, p1, a1, none⟩, ⟨some d2, .nilCheck (.tmp d1), ty2, p2, a2, none⟩, ⟨some d3, .fieldAddr MT (.tmp d2) kf, ty3, p3, a3, none⟩, ⟨some d4, .fieldAddr 69 (.tmp tx) 0, ty4, p4, a4, none⟩, ⟨some d5, .load 67 (.tmp d4), ty5, p5, a5, none⟩,
        ⟨some d6, .fieldAddr 69 (.tmp tx) 1, ty6, p6, a6, none⟩, ⟨some d7, .load 22 (.tmp d6), ty7, p7, a7, none⟩, ⟨some d8, .call ⟨.value (.func 84), [.tmp d3, .tmp d5, .tmp d7].toArray, tys⟩, ty8, p8, a8, none⟩].toArray true)
      ⟨N, R, X⟩ n E (TagBox b5 k tv :: (mapE mo l ++ MsgBox bm MT (M.set off (mapV mo)) :: H0)) C s := by
  obtain ⟨hb, hfr, hne⟩ := frs_get hf
  simp only [List.pairwise_cons, List.mem_cons, List.not_mem_nil, or_false, forall_eq_or_imp, forall_eq, List.Pairwise.nil, and_true, false_imp_iff, implies_true] at hb hfr hne
  obtain ⟨f1, f2, f3, f4, f5, f6, f7, f8⟩ := hfr
  obtain ⟨b1, b2, b3, b4, b5', b6, b7, b8⟩ := hb
  refine cd_draw' [0] [0, 1, 2, 3, 4, 5, 6] [0, 1, 2, 3, 4, 5, 6, 7] mixed hok ?_
  refine lo_pv rfl rfl (sk_js (Tr.refl _) [0] rfl) (pv_move hp) b1 ?_
  refine lo_pv rfl rfl (sk_js (Tr.refl _) [0] rfl) (pv_nilCheck lk_eq) b2 ?_
  refine lo_pv rfl rfl (sk_js (Tr.refl _) [0] rfl) (pv_fieldAddr (r := 0 + off) hu hkf hsz ho lk_eq rfl) b3 ?_
  refine lo_pv rfl rfl (sk_js (Tr.refl _) [0] rfl) (pv_fieldAddr (off := 0) (r := 0) Tryz.underlying69 rfl (tiuint32).size rfl (by rw [ev_t, lk_ne (lk_fr f3 htx), lk_ne (lk_fr f2 htx), lk_ne (lk_fr f1 htx)]; exact htx) rfl) b4 ?_
  refine lo_pv rfl rfl (sk_js (Tr.refl _) [0] rfl) (pv_ldo (i := 0) rfl Tryz.underlying67 rfl lk_eq rfl) b5' ?_
  refine lo_pv rfl rfl (sk_js (Tr.refl _) [0] rfl) (pv_fieldAddr (off := 1) (r := 1) Tryz.underlying69 rfl (tiSl_uint8).size rfl (by rw [ev_t, lk_ne (lk_fr f5 htx), lk_ne (lk_fr f4 htx), lk_ne (lk_fr f3 htx), lk_ne (lk_fr f2 htx), lk_ne (lk_fr f1 htx)]; exact htx) rfl) b6 ?_
  refine lo_pv rfl rfl (sk_js (Tr.refl _) [0] rfl) (pv_ldo (i := 0) rfl Tryz.underlying22 rfl lk_eq rfl) b7 ?_
  refine lo_eff rfl rfl ?_
  refine ln_callH (vals := [.pointer (some ⟨bm, 0 + off, none⟩), .int .u32 (k : Int), tv]) set_perm en_84 (by simp [evs, ev_t, lk_eq, lk_ne, hne]) (fun u hu hok hav hnd => by rw [Nat.zero_add]; exact tags_SetU u bm off k M MT tv mo l hlt h0 hnew hok hav hnd) b8 ?_
  rintro u v _ ht ⟨_, ⟨m, rfl⟩, _⟩
  refine lo_back (sk_js ht [2] rfl) ?_
  refine lo_nil (at_sub (.skip f8 (.skip f7 (.skip f6 (.skip f5 (.skip f4 (.skip f3 (.skip f2 (.skip f1 .rfl')))))))) ?_)
  have := kk u m ht
  simpa [mapE] using this
/-- the tag is set, in a variable of the function's own -/
theorem fl_setL {E : Env} {b5 k : Nat} {mo : Option Nat} {l : List (Nat × Value)} {tv : Value} (hp : lk E pm = some (.pointer (some ⟨bm, 0, none⟩))) (htx : lk E tx = some (.pointer (some ⟨b5, 0, none⟩))) (hu : Tryz.prog.underlying MT = some (.struct fs)) (hkf : fs[kf]? = some fl) (hsz : (Tryz.prog.info? fl.type).map (·.size) = some (sz + 1)) (ho : fl.offset = off)
    (hf : frs n E [d3, d4, d5, d6, d7, d8] = true) (hlt : off < M.length) (h0 : mo = none → l = []) (hnew : ∀ y ∈ l, y.1 ≠ k)
    (kk : ∀ u m, Tr s u → At N n E (mapE (some m) (l ++ [(k, tv)]) ++ MsgBox bm MT (M.set off (mapV (some m))) :: TagBox b5 k tv :: H0) C u) :
    Cd Tryz.prog (.region id [⟨some d3, .fieldAddr MT (.tmp pm) kf, ty3, p3, a3, none⟩, ⟨some d4, .fieldAddr 69 (.tmp tx) 0, ty4, p4, a4, none⟩, ⟨some d5, .load 67 (.tmp d4), ty5, p5, a5, none⟩,
        ⟨some d6, .fieldAddr 69 (.tmp tx) 1, ty6, p6, a6, none⟩, ⟨some d7, .load 22 (.tmp d6), ty7, p7, a7, none⟩, ⟨some d8, .call ⟨.value (.func 84), [.tmp d3, .tmp d5, .tmp d7].toArray, tys⟩, ty8, p8, a8, none⟩].toArray false)
      ⟨N, R, X⟩ n E (TagBox b5 k tv :: (mapE mo l ++ MsgBox bm MT (M.set off (mapV mo)) :: H0)) C s := by
  obtain ⟨hb, hfr, hne⟩ := frs_get hf
  simp only [List.pairwise_cons, List.mem_cons, List.not_mem_nil, or_false, forall_eq_or_imp, forall_eq, List.Pairwise.nil, and_true, false_imp_iff, implies_true] at hb hfr hne
  obtain ⟨f3, f4, f5, f6, f7, f8⟩ := hfr
  obtain ⟨b3, b4, b5', b6, b7, b8⟩ := hb
  refine cd_region ?_
  refine ln_pv (pv_fieldAddr (r := 0 + off) hu hkf hsz ho hp rfl) b3 ?_
  refine ln_pv (pv_fieldAddr (off := 0) (r := 0) Tryz.underlying69 rfl (tiuint32).size rfl (by rw [ev_t, lk_ne (lk_fr f3 htx)]; exact htx) rfl) b4 ?_
  refine ln_pv (pv_ldo (i := 0) rfl Tryz.underlying67 rfl lk_eq rfl) b5' ?_
  refine ln_pv (pv_fieldAddr (off := 1) (r := 1) Tryz.underlying69 rfl (tiSl_uint8).size rfl (by rw [ev_t, lk_ne (lk_fr f5 htx), lk_ne (lk_fr f4 htx), lk_ne (lk_fr f3 htx)]; exact htx) rfl) b6 ?_
  refine ln_pv (pv_ldo (i := 0) rfl Tryz.underlying22 rfl lk_eq rfl) b7 ?_
  refine ln_callH (vals := [.pointer (some ⟨bm, 0 + off, none⟩), .int .u32 (k : Int), tv]) set_perm en_84 (by simp [evs, ev_t, lk_eq, lk_ne, hne]) (fun u hu hok hav hnd => by rw [Nat.zero_add]; exact tags_SetU u bm off k M MT tv mo l hlt h0 hnew hok hav hnd) b8 ?_
  rintro u v _ ht ⟨_, ⟨m, rfl⟩, _⟩
  refine ln_nil (at_sub (.skip f8 (.skip f7 (.skip f6 (.skip f5 (.skip f4 (.skip f3 .rfl')))))) ?_)
  have := kk u m ht
  simpa [mapE] using this
end
end K
end Go.Proofs.YtpphedmelbfnmaaGreatDoor
