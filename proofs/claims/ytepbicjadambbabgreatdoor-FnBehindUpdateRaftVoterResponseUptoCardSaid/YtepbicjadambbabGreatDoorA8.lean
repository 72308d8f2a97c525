import Derived.Test.YtepbicjadambbabGreatDoorA5
import Derived.Laws.StructEq
import Derived.ScopeJumps
import Derived.Test.YtepbicjadambbabGreatDoorP2
import Derived.Test.YtepbicjadambbabGreatDoorP1
set_option linter.unusedVariables false
set_option linter.unusedSimpArgs false
namespace Go.Proofs.YtepbicjadambbabGreatDoor
namespace K
open Go Go.Lib
/-! ### Arrays of octets held against one another -/
def eqElems (d : Nat) (e : TypeId) (n : Nat) (xs ys : Array Value) : List Nat → Sem Bool
  | [] => pure true
  | i :: r => do
    let a ← part e xs (i * n)
    let b ← part e ys (i * n)
    let q ← Op.equalIn d e a b
    if (!q) = true then pure false else eqElems d e n xs ys r
theorem ar_run_equalIn_arr {P : Program} (w : World) (d : Nat) (t e : TypeId) (m : Nat) (xs ys : Array Value) (ht : P.underlying t = some (.array m e)) {ii : TypeInfo} (hi : P.info? e = some ii) :
    (Op.equalIn (d + 1) t (.agg xs) (.agg ys)).run P w = (eqElems d e ii.size xs ys (List.range' 0 m)).run P w := by
  have hs : ∀ w, (sizeOf e).run P w = .ok ii.size w := fun w => by simp [sizeOf, typeInfo, hi, Result.andThen]
  simp only [Op.equalIn, Sem.run_bind, run_underlying ht, Result.andThen_ok, hs]
  simp only [Std.Legacy.Range.forIn_eq_forIn_range', Std.Legacy.Range.size, Nat.sub_zero, Nat.add_sub_cancel, Nat.div_one]
  generalize List.range' 0 m = l
  clear ht
  induction l generalizing w with
  | nil => simp [eqElems]
  | cons f fs ih =>
    simp only [List.forIn_cons, eqElems, Sem.run_bind]
    generalize (part e xs (f * ii.size)).run P w = r1
    cases r1 with
    | ok a w1 =>
      simp only [Result.andThen_ok]
      generalize (part e ys (f * ii.size)).run P w1 = r2
      cases r2 with
      | ok b w2 =>
        simp only [Result.andThen_ok]
        generalize (Op.equalIn d e a b).run P w2 = r3
        cases r3 with
        | ok r w3 =>
          cases r
          · simp [Result.andThen_ok]
          · simp only [Result.andThen_ok, Bool.not_true, Bool.false_eq_true, if_false, Sem.run_pure, Sem.run_ite]
            exact ih w3
        | halt x w3 => simp [Result.andThen]
      | halt x w2 => simp [Result.andThen]
    | halt x w1 => simp [Result.andThen]
theorem ar_run_part_u8 {P : Program} (w : World) (e : TypeId) (cs : Array Value) (i : Nat) {v : Value} (he : P.underlying e = some (.int .u8)) (hv : cs[i]? = some v) : (part e cs i).run P w = .ok v w := by
  simp [part, isAgg, run_underlying he, Result.andThen, hv]
theorem ar_run_eqElems_u8 {P : Program} (w : World) (d : Nat) (e : TypeId) (he : P.underlying e = some (.int .u8)) (a b : List UInt8) (hl : a.length = b.length) : ∀ (m k : Nat), k + m = a.length →
    (eqElems (d + 1) e 1 (a.map fun x => Value.int .u8 (x.toNat : Int)).toArray (b.map fun x => Value.int .u8 (x.toNat : Int)).toArray (List.range' k m)).run P w = .ok (decide (a.drop k = b.drop k)) w
  | 0, k, h => by
    have h1 : a.drop k = [] := List.drop_eq_nil_of_le (by omega)
    have h2 : b.drop k = [] := List.drop_eq_nil_of_le (by omega)
    simp [eqElems, h1, h2]
  | m + 1, k, h => by
    have hka : k < a.length := by omega
    have hkb : k < b.length := by omega
    have h1 : ((a.map fun x => Value.int .u8 (x.toNat : Int)).toArray)[k * 1]? = some (.int .u8 (a[k].toNat : Int)) := by simp [hka]
    have h2 : ((b.map fun x => Value.int .u8 (x.toNat : Int)).toArray)[k * 1]? = some (.int .u8 (b[k].toNat : Int)) := by simp [hkb]
    have ih := ar_run_eqElems_u8 w d e he a b hl m (k + 1) (by omega)
    simp only [List.range'_succ, eqElems, Sem.run_bind, ar_run_part_u8 w e _ _ he h1, ar_run_part_u8 w e _ _ he h2, Result.andThen_ok, run_equalIn_int w d e .u8 .u8 _ _ he]
    rw [List.drop_eq_getElem_cons hka, List.drop_eq_getElem_cons hkb]
    by_cases hq : a[k] = b[k]
    · simp only [hq, beq_self_eq_true, Bool.not_true, Bool.false_eq_true, if_false, List.cons.injEq, true_and]
      exact ih
    · have h3 : ¬ ((a[k].toNat : Int) = (b[k].toNat : Int)) := fun h => hq (UInt8.toNat_inj.1 (by omega))
      have h4 : ¬ (a[k] :: a.drop (k + 1) = b[k] :: b.drop (k + 1)) := fun h => hq (List.cons.inj h).1
      rw [decide_eq_false h4]
      simp [h3]

section
variable {P : Program} {S : World → Prop} {d : Option Nat} {g : Option (Nat × Bool)} {t u e ty : TypeId} {pos : String} {af : Array Edge} {n : Nat} {L : Env} {x y : Operand}
theorem pv_neqA {m : Nat} {ii : TypeInfo} {a b : List UInt8} (hu : P.underlying t = some (.array m e)) (he : P.underlying e = some (.int .u8)) (hi : P.info? e = some ii) (h1 : ii.size = 1) (hm : P.eqGuardType P.depth t = false) (hx : ev L x = some (.agg (u8s a).toArray)) (hy : ev L y = some (.agg (u8s b).toArray)) (ha : a.length = m) (hb : b.length = m) :
    PV P S ⟨d, .binOp .neq t x y u, ty, pos, af, g⟩ n L (.bool (!decide (a = b))) := fun ac w hF _ => by
  have h2 := ar_run_equalIn_arr (P := P) w 9999 t e m (u8s a).toArray (u8s b).toArray hu hi
  rw [h1] at h2
  have h3 := ar_run_eqElems_u8 (P := P) w 9998 e he a b (by omega) m 0 (by omega)
  simp only [List.drop_zero] at h3
  have h4 : (Op.equalIn 10000 t (.agg (u8s a).toArray) (.agg (u8s b).toArray)).run P w = .ok (decide (a = b)) w := h2.trans h3
  simp only [execOp, hF.ev hx, hF.ev hy, Sem.run_bind, run_eqGuard_agg w .neq t x y _ _ hm, Result.andThen_ok, run_neq_struct, h4]
  rfl
theorem pv_neqA' {m : Nat} {a b : List UInt8} (hu : P.underlying t = some (.array m e)) (he : P.underlying e = some (.int .u8)) (hsz : (P.info? e).map (·.size) = some 1) (hm : P.eqGuardType P.depth t = false) (hx : ev L x = some (.agg (u8s a).toArray)) (hy : ev L y = some (.agg (u8s b).toArray)) (ha : a.length = m) (hb : b.length = m) :
    PV P S ⟨d, .binOp .neq t x y u, ty, pos, af, g⟩ n L (.bool (!decide (a = b))) := by
  obtain ⟨ii, hi, h1⟩ := Option.map_eq_some_iff.1 hsz
  exact pv_neqA hu he hi h1 hm hx hy ha hb
theorem pv_ldSub {H : Hp} {s : Vw} {b o off m : Nat} {cells vs : List Value} {dd : TypeDesc} (hrc : RC s b o cells) (hd : P.underlying t = some dd) (hna : aggD dd = true) (hsz : (P.info? t).map (·.size) = some m) (hvs : (cells.drop off).take m = vs) (hvl : vs.length = m) (hx : ev L x = some (.pointer (some ⟨b, o + off, none⟩))) :
    PV P (Sk s H) ⟨d, .load t x, ty, pos, af, g⟩ n L (.agg vs.toArray) :=
  pv_loadA (cs := vs) hd (by cases dd <;> first | rfl | (simp [aggD] at hna)) hsz hvl hx fun w hw j v hv => by
    rw [Nat.add_assoc]
    refine hw.rc hrc ?_
    rw [← hvs] at hv
    have hj : j < m := by
      have := (List.getElem?_eq_some_iff.1 hv).1
      simp at this
      omega
    rwa [List.getElem?_take_of_lt hj, List.getElem?_drop] at hv
theorem pv_build0 {m sz by_ : Nat} {z : Value} {cs : List Value} (hu : P.underlying t = some (.array m e)) (hti : TI P t z sz by_) (hz : z.cells = cs.toArray) (hsz : (P.info? e).isSome = true) : PV P S ⟨d, .build t [].toArray, ty, pos, af, g⟩ n L (.agg cs.toArray) := fun ac w hF _ => by
  obtain ⟨ii, hi, h1, h2, h3⟩ := info_parts hti
  obtain ⟨jj, hj⟩ := Option.isSome_iff_exists.1 hsz
  simp [execOp, Instr.build, zeroValue, typeInfo, hi, h1, run_underlying hu, sizeOf, hj, Result.andThen, Instr.fill, hz]
end
end K
end Go.Proofs.YtepbicjadambbabGreatDoor
namespace Go.Proofs.YtepbicjadambbabGreatDoor
namespace K
open Go Go.Lib
/-! ### Jumps back to one label -/
section jumps
variable {P : Program} {n : Nat} {L L' : Env} {H H' : Hp} {C : Cx} {s : Vw} {N R J : Act → World → Prop} {X : List (Nat × (Act → World → Prop))} {p : Post} {c x y : Code} {l : Nat}
def CdG (P : Program) (c : Code) (l : Nat) (J : Act → World → Prop) (p : Post) (n : Nat) (L : Env) (H : Hp) (C : Cx) (s : Vw) : Prop :=
  ∀ a w, Fr n L a → St C s H w → c.wp P (Exit.jump l J p.q) a w
theorem cdG_of (h : Cd P c p n L H C s) : CdG P c l J p n L H C s := fun a w hF hS => Code.wp_mono (fun e a w hq => by
  cases e <;> first | exact hq | exact (hq : False).elim) (h a w hF hS)
theorem cdG_sq (h : Cd P x ⟨y.wp P (Exit.jump l J (Post.q ⟨N, R, X⟩)), R, X⟩ n L H C s) : CdG P (.seq x y) l J ⟨N, R, X⟩ n L H C s := fun a w hF hS => by
  refine wp_seq (Code.wp_mono (fun e a w hq => ?_) (h a w hF hS))
  cases e <;> first | exact hq | exact (hq : False).elim
theorem at_cdG (h : CdG P y l J p n L H C s) : At (y.wp P (Exit.jump l J p.q)) n L H C s := h
theorem cdG_label {k : Nat} (h : CdG P y l J p n L H C s) : CdG P (.seq (.label k) y) l J p n L H C s := fun a w hF hS => wp_seq (wp_label (h a w hF hS))
theorem cdG_goto (h : At J n L H C s) : CdG P (.goto l) l J p n L H C s := fun a w hF hS => wp_goto ⟨rfl, h a w hF hS⟩
theorem cdG_tt {o : Operand} (hc : ev L o = some (.bool true)) (h : CdG P x l J p n L H C s) : CdG P (.cond o x y) l J p n L H C s := fun a w hF hS => wp_cond_true (hF.ev hc) (h a w hF hS)
theorem cdG_sub (h : sub L' L) (k : CdG P c l J p n L' H C s) : CdG P c l J p n L H C s := fun a w hF hS => k a w (hF.drop h) hS
theorem cd_label {k : Nat} (h : Cd P y p n L H C s) : Cd P (.seq (.label k) y) p n L H C s := fun a w hF hS => wp_seq (wp_label (h a w hF hS))
/-- a scope with one jump back: what holds at the jump is told by z -/
theorem cd_scopeJ {S : Type} {rest : Code} (l : Nat) (Lj : S → Env) (Hj : S → Hp) (I : S → Vw → Prop) (hf : findLabel c l = some rest)
    (first : CdG P c l (fun a w => ∃ z u, Tr s u ∧ I z u ∧ Fr n (Lj z) a ∧ St C u (Hj z) w) ⟨N, R, X⟩ n L H C s)
    (pass : ∀ z u, Tr s u → I z u → Cd P rest ⟨N, R, X⟩ n (Lj z) (Hj z) C u) : Cd P (.scope c) ⟨N, R, X⟩ n L H C s := fun a w hF hS =>
  wp_scope_jumps l _ (fun _ _ => 0) hf (first a w hF hS) (by
    rintro a w ⟨z, u, h1, h2, h3, h4⟩
    exact Code.wp_mono (fun e a w hq => by cases e <;> first | exact hq | exact (hq : False).elim) (pass z u h1 h2 a w h3 h4))
theorem at_jump {S : Type} {Lj : S → Env} {Hj : S → Hp} {I : S → Vw → Prop} {s0 : Vw} (z : S) (ht : Tr s0 s) (hI : ∀ u, Tr s u → I z u) (hL : sub (Lj z) L) (hH : (Hj z).Sublist H) :
    At (fun a w => ∃ z u, Tr s0 u ∧ I z u ∧ Fr n (Lj z) a ∧ St C u (Hj z) w) n L H C s := fun a w hF hS => by
  have hS0 := hS.sub hH
  exact ⟨z, hS0.vw, ht.trans hS0.tr, hI _ hS0.tr, hF.drop hL, hS0.rebase⟩
/-- a scope without a jump -/
theorem cd_scope0 (h : Cd P c ⟨N, R, X⟩ n L H C s) : Cd P (.scope c) ⟨N, R, X⟩ n L H C s := fun a w hF hS =>
  wp_scope_straight (Code.wp_mono (fun e a w hq => by cases e <;> first | exact hq | exact (hq : False).elim) (h a w hF hS))
end jumps
/-! ### A row that is cut -/
theorem owns_cut {w : World} {base : Nat} {e : TypeId} {sz k m : Nat} {ad : Option Addr} {cap : Nat} {xs : List Value} (h : w.ownsRow base e sz (.slice ad m cap) m xs) (hk : k ≤ m) (h0 : 0 < m) : w.ownsRow base e sz (.slice ad k cap) k (xs.take (k * sz)) := by
  obtain ⟨hl, h1 | ⟨g, cp, cur, hv, h2, h3, h4, h5, h6, h7⟩⟩ := h
  · omega
  · simp only [Value.slice.injEq] at hv
    obtain ⟨rfl, _, rfl⟩ := hv
    have hm : k * sz ≤ m * sz := Nat.mul_le_mul_right _ hk
    refine ⟨by rw [List.length_take]; omega, .inr ⟨g, cap, cur, rfl, h2, h3, by omega, h5, h6, ?_⟩⟩
    rw [← h7, List.take_take, Nat.min_eq_left hm]
section
variable {n : Nat} {L : Env} {H0 : Hp} {C : Cx} {s : Vw} {N R : Act → World → Prop} {X : List (Nat × (Act → World → Prop))}
variable {id id' id1 id2 id3 : Nat} {td x y p sz la d0 d1 d2 d3 d4 d5 d6 d7 d8 d9 d10 : Nat} {vd val : Value} {Lc bs rest Full : List UInt8} {ts : Array TypeId} {f : FuncId}
variable {ty0 ty1 ty2 ty3 ty4 ty5 ty6 ty7 ty8 ty9 ty10 : TypeId} {p0 p1 p2 p3 p4 p5 p6 p7 p8 p9 p10 : String} {a0 a1 a2 a3 a4 a5 a6 a7 a8 a9 a10 : Array Edge} {uy1 uy2 uy3 : TypeId}
variable {q z : Bool} {T ft e : TypeId} {v : Int} {yy : Tre}
theorem ln_rowsh {P : Program} {H : Hp} {ops : Array Oper} {K : Act → World → Prop} {l : List Oper} {i : Nat} {v : Value} {e : TypeId} {sz m : Nat} {xs : List Value} (hi : H[i]? = some (.row v e sz m xs)) (h : ∀ ad cp, v = .slice ad m cp → m ≤ cp → (0 < m → ∃ g, ad = some ⟨g, 0, none⟩) → Ln P ops l K n L H C s) : Ln P ops l K n L H C s := fun a w hF hS => by
  obtain ⟨ad, cp, h1, h2, h3⟩ := ownsRow_shape (hS.hf _ (List.mem_of_getElem? hi))
  exact h ad cp h1 h2 h3 a w hF hS
/-- a row is cut -/
theorem ln_cut {P : Program} {ops : Array Oper} {K : Act → World → Prop} {l : List Oper} {ad : Option Addr} {cp k : Nat} (hk : k ≤ Lc.length) (h0 : 0 < Lc.length) (h : Ln P ops l K n L (OctRow (.slice ad k cp) (Lc.take k) :: H0) C s) : Ln P ops l K n L (OctRow (.slice ad Lc.length cp) Lc :: H0) C s := fun a w hF hS => by
  have h1 := owns_cut (hS.hf _ (List.mem_of_getElem? (i := 0) rfl)) hk h0
  have e1 : (u8s Lc).take (k * 1) = u8s (Lc.take k) := by simp [u8s, List.map_take]
  have e2 : k = (Lc.take k).length := by rw [List.length_take]; omega
  rw [e1] at h1
  refine h a w hF (hS.turn (i := 0) (e' := OctRow (.slice ad k cp) (Lc.take k)) rfl (Mod.refl _ _) ?_ ?_ ?_)
  · show World.ownsRow w 0 _ 1 _ (Lc.take k).length _
    rw [← e2]
    exact h1
  · intro b hb
    refine .inl ?_
    cases ad with
    | none => simp [Ent.blk, Value.ownBlock] at hb
    | some x => simpa [Ent.blk, Value.ownBlock] using hb
  · simp only [Ent.blk, Value.ownBlock]
    cases ad <;> simp
theorem pv_slice_lo {P : Program} {S : World → Prop} {d : Option Nat} {g : Option (Nat × Bool)} {t e ty : TypeId} {pos : String} {af : Array Edge} {o y' : Operand} {k : IntKind} {i : Int} {b : Option Addr} {m c : Nat} (hu : P.underlying t = some (.slice e)) (hsz : (P.info? e).isSome = true) (hx : ev L o = some (.slice b m c)) (hy : ev L y' = some (.int k i)) (h0 : 0 ≤ i) (h1 : i ≤ m) :
    ∃ b', PV P S ⟨d, .slice t o (some y') none none, ty, pos, af, g⟩ n L (.slice b' (m - i.toNat) (c - i.toNat)) := by
  obtain ⟨ii, hi⟩ := Option.isSome_iff_exists.1 hsz
  refine ⟨if c = i.toNat then b else b.map (·.add (i.toNat * ii.size)), fun a w hF _ => ?_⟩
  simp only [execOp, hF.ev hx, hF.ev hy, Instr.sliceAt, Option.map_some, Option.map_none]
  simp [run_underlying hu, Instr.slice, Instr.sliceBounds, sliceBound_run h0 h1, sizeOf, typeInfo, hi, Result.andThen]
/-- td = f(td, c) -/
theorem ap_callK {c : Value} (hent : Enters Tryz.prog f) (hf : frs n L [td, d1, d2] = true) (hc : ∀ u, Tr s u → AppC f [c] bs u) (hE : Lc ++ (bs ++ rest) = Full) (hB : Full.length ≤ 4398046511104)
    (kk : ∀ u v' Lc', Tr s u → Lc' = Lc ++ bs → At N n ((td, v') :: L) (OctRow v' Lc' :: H0) C u) :
    Cd Tryz.prog (.region id [⟨some d1, .move (.tmp td), ty1, p1, a1, none⟩, ⟨some d2, .call ⟨.value (.func f), [.tmp d1, .const c].toArray, ts⟩, ty2, p2, a2, none⟩, ⟨some td, .assign (.tmp d2), ty3, p3, a3, none⟩].toArray false) ⟨N, R, X⟩ n ((td, vd) :: L) (OctRow vd Lc :: H0) C s := by
  obtain ⟨hb, hfr, hne⟩ := frs_get hf
  simp only [List.pairwise_cons, List.mem_cons, List.not_mem_nil, or_false, forall_eq_or_imp, forall_eq, List.Pairwise.nil, and_true, false_imp_iff, implies_true] at hb hfr hne
  obtain ⟨f0, f1, f2⟩ := hfr
  obtain ⟨b0, b1, b2⟩ := hb
  refine cd_region ?_
  refine ln_pv (pv_move (v := vd) lk_eq) b1 ?_
  refine ln_callT (i := 0) (vals := [vd, c]) hent (by simp [evs, ev_t, ev_c, lk_eq, lk_ne, hne]) rfl (fun u hu hok hav => hc u hu _ _ (app_len hE hB) hok hav) b2 ?_
  rintro u v' _ ht ⟨_, ⟨rfl, h1⟩, _⟩
  refine ln_pv (pv_assign (v := v') lk_eq) b0 ?_
  exact ln_nil (at_sub (sub.cons (.skip f2 (.skip f1 (.skip f0 .rfl')))) (kk u v' _ ht rfl))
/-- la = len(td) -/
theorem ap_lenD (hf : frs n L [td, y, d1, d2] = true) (kk : At N n ((td, vd) :: (y, .int .i64 (Lc.length : Int)) :: L) (OctRow vd Lc :: H0) C s) :
    Cd Tryz.prog (.region id [⟨some d1, .move (.tmp td), ty1, p1, a1, none⟩, ⟨some d2, .call ⟨.builtin .len, #[.tmp d1], #[22]⟩, ty2, p2, a2, none⟩, ⟨some y, .assign (.tmp d2), ty3, p3, a3, none⟩].toArray false) ⟨N, R, X⟩ n ((td, vd) :: L) (OctRow vd Lc :: H0) C s := by
  obtain ⟨hb, hfr, hne⟩ := frs_get hf
  simp only [List.pairwise_cons, List.mem_cons, List.not_mem_nil, or_false, forall_eq_or_imp, forall_eq, List.Pairwise.nil, and_true, false_imp_iff, implies_true] at hb hfr hne
  obtain ⟨f0, fy, f1, f2⟩ := hfr
  obtain ⟨b0, by_, b1, b2⟩ := hb
  refine cd_region ?_
  refine ln_pv (pv_move (v := vd) lk_eq) b1 ?_
  refine ln_rowsh (i := 0) rfl (fun ad cp h1 _ _ => ?_)
  subst h1
  refine ln_pv (pv_len_slice Tryz.underlying22 lk_eq) b2 ?_
  refine ln_pv (pv_assign lk_eq) by_ ?_
  exact ln_nil (at_sub (.put (by simp [lk_eq, lk_ne, hne]) (.cons (.skip f2 (.skip f1 (.skip f0 .rfl'))))) kk)
/-- if not yet sized -/
theorem pv_notb {P : Program} {S : World → Prop} {b : Bool} (hx : lk L x = some (.bool b)) : PV P S ⟨some d1, .unOp .not uy1 (.tmp x), ty1, p1, a1, none⟩ n L (.bool !b) := pv_not hx
theorem ap_sized {b : Bool} (hx : lk L sz = some (.bool b)) (hf : frs n L [td, d1, d2] = true) (kk : At N n ((d2, .bool !b) :: (td, vd) :: L) (OctRow vd Lc :: H0) C s) :
    Cd Tryz.prog (.region id [⟨some d1, .move (.tmp sz), ty1, p1, a1, none⟩, ⟨some d2, .unOp .not uy1 (.tmp d1), ty2, p2, a2, none⟩].toArray false) ⟨N, R, X⟩ n ((td, vd) :: L) (OctRow vd Lc :: H0) C s := by
  obtain ⟨hb, hfr, hne⟩ := frs_get hf
  simp only [List.pairwise_cons, List.mem_cons, List.not_mem_nil, or_false, forall_eq_or_imp, forall_eq, List.Pairwise.nil, and_true, false_imp_iff, implies_true] at hb hfr hne
  obtain ⟨f0, f1, f2⟩ := hfr
  obtain ⟨b0, b1, b2⟩ := hb
  refine cd_region ?_
  refine ln_pv (pv_move (by rw [ev_t, lk_ne (lk_fr f0 hx)]; exact hx)) b1 ?_
  refine ln_pv (pv_not lk_eq) b2 ?_
  exact ln_nil (at_sub (.cons (.put (by simp [lk_eq, lk_ne, hne]) (.skip f1 (.skip f0 .rfl')))) kk)
/-- the size is written where the value stood -/
theorem ap_resize {k : Nat} (hla : lk L la = some (.int .i64 (k : Int))) (hent : Enters Tryz.prog f) (hk : k ≤ Lc.length) (hk0 : 0 < Lc.length) (hLm : Lc.length - k ≤ 4294967295) (hf : frs n L [td, d1, d2, d3, d4, d5, d6, d7, d8, d9] = true) (hc : ∀ u, Tr s u → AppC f [.int .u32 ((Lc.length - k : Nat) : Int)] bs u) (hB : k + bs.length ≤ 4398046511104)
    (hok : (seqOk [⟨some d1, .move (.tmp td), ty1, p1, a1, none⟩, ⟨some d2, .move (.tmp la), ty2, p2, a2, none⟩, ⟨some d3, .slice 22 (.tmp d1) none (some (.tmp d2)) none, ty3, p3, a3, none⟩, ⟨some d4, .move (.tmp td), ty4, p4, a4, none⟩, ⟨some d5, .move (.tmp la), ty5, p5, a5, none⟩, ⟨some d6, .slice 22 (.tmp d4) (some (.tmp d5)) none none, ty6, p6, a6, none⟩, ⟨some d7, .call ⟨.builtin .len, #[.tmp d6], #[22]⟩, ty7, p7, a7, none⟩, ⟨some d8, .convert 3 53 (.tmp d7), ty8, p8, a8, none⟩, ⟨some d9, .call ⟨.value (.func f), [.tmp d3, .tmp d8].toArray, ts⟩, ty9, p9, a9, none⟩, ⟨some td, .assign (.tmp d9), ty10, p10, a10, none⟩].toArray [0, 1, 2, 3, 4, 5, 6, 7] [0, 1, 2, 3, 4, 5, 6, 7, 8, 9] (Array.replicate 10 false) && Region.noSelect [⟨some d1, .move (.tmp td), ty1, p1, a1, none⟩, ⟨some d2, .move (.tmp la), ty2, p2, a2, none⟩, ⟨some d3, .slice 22 (.tmp d1) none (some (.tmp d2)) none, ty3, p3, a3, none⟩, ⟨some d4, .move (.tmp td), ty4, p4, a4, none⟩, ⟨some d5, .move (.tmp la), ty5, p5, a5, none⟩, ⟨some d6, .slice 22 (.tmp d4) (some (.tmp d5)) none none, ty6, p6, a6, none⟩, ⟨some d7, .call ⟨.builtin .len, #[.tmp d6], #[22]⟩, ty7, p7, a7, none⟩, ⟨some d8, .convert 3 53 (.tmp d7), ty8, p8, a8, none⟩, ⟨some d9, .call ⟨.value (.func f), [.tmp d3, .tmp d8].toArray, ts⟩, ty9, p9, a9, none⟩, ⟨some td, .assign (.tmp d9), ty10, p10, a10, none⟩].toArray && Nat.beq 10 10) = true)
    (kk : ∀ u v', Tr s u → At N n ((td, v') :: L) (OctRow v' (Lc.take k ++ bs) :: H0) C u) :
    Cd Tryz.prog (.region id [⟨some d1, .move (.tmp td), ty1, p1, a1, none⟩, ⟨some d2, .move (.tmp la), ty2, p2, a2, none⟩, ⟨some d3, .slice 22 (.tmp d1) none (some (.tmp d2)) none, ty3, p3, a3, none⟩, ⟨some d4, .move (.tmp td), ty4, p4, a4, none⟩, ⟨some d5, .move (.tmp la), ty5, p5, a5, none⟩, ⟨some d6, .slice 22 (.tmp d4) (some (.tmp d5)) none none, ty6, p6, a6, none⟩, ⟨some d7, .call ⟨.builtin .len, #[.tmp d6], #[22]⟩, ty7, p7, a7, none⟩, ⟨some d8, .convert 3 53 (.tmp d7), ty8, p8, a8, none⟩, ⟨some d9, .call ⟨.value (.func f), [.tmp d3, .tmp d8].toArray, ts⟩, ty9, p9, a9, none⟩, ⟨some td, .assign (.tmp d9), ty10, p10, a10, none⟩].toArray true) ⟨N, R, X⟩ n ((td, vd) :: L) (OctRow vd Lc :: H0) C s := by
  obtain ⟨hb, hfr, hne⟩ := frs_get hf
  simp only [List.pairwise_cons, List.mem_cons, List.not_mem_nil, or_false, forall_eq_or_imp, forall_eq, List.Pairwise.nil, and_true, false_imp_iff, implies_true] at hb hfr hne
  obtain ⟨f0, f1, f2, f3, f4, f5, f6, f7, f8, f9⟩ := hfr
  obtain ⟨b0, b1, b2, b3, b4, b5, b6, b7, b8, b9⟩ := hb
  have hu8 : (Tryz.prog.info? 5).isSome = true := by
    obtain ⟨ii, h, _⟩ := Option.map_eq_some_iff.1 (tiuint8 : TI Tryz.prog _ _ _ _).size
    exact Option.isSome_iff_exists.2 ⟨ii, h⟩
  refine fun a w hF hS => ?_
  obtain ⟨ad, cp, rfl, hcp, _⟩ := ownsRow_shape (hS.hf _ (List.mem_of_getElem? (i := 0) rfl))
  revert a w
  refine cd_draw' [] [0, 1, 2, 3, 4, 5, 6, 7] [0, 1, 2, 3, 4, 5, 6, 7, 8, 9] mixed hok ?_
  refine lo_pv rfl rfl (sk_js (Tr.refl _) [] rfl) (pv_move (v := .slice ad Lc.length cp) lk_eq) b1 ?_
  refine lo_pv rfl rfl (sk_js (Tr.refl _) [] rfl) (pv_move (by rw [ev_t, lk_ne (lk_fr f1 hla), lk_ne (lk_fr f0 hla)]; exact hla)) b2 ?_
  refine lo_pv rfl rfl (sk_js (Tr.refl _) [] rfl) (pv_slice_hi' (k' := k) Tryz.underlying22 hu8 (by rw [ev_t, lk_ne (by simp [hne]), lk_eq]) lk_eq (by omega) (by omega) (by omega)) b3 ?_
  refine lo_pv rfl rfl (sk_js (Tr.refl _) [] rfl) (pv_move (v := .slice ad Lc.length cp) (by simp [ev_t, lk_eq, lk_ne, hne])) b4 ?_
  refine lo_pv rfl rfl (sk_js (Tr.refl _) [] rfl) (pv_move (by rw [ev_t, lk_ne (lk_fr f4 hla), lk_ne (lk_fr f3 hla), lk_ne (lk_fr f2 hla), lk_ne (lk_fr f1 hla), lk_ne (lk_fr f0 hla)]; exact hla)) b5 ?_
  obtain ⟨b', hsl⟩ := pv_slice_lo (P := Tryz.prog) (S := Sk s (pick [] (OctRow (.slice ad Lc.length cp) Lc :: H0))) (d := some d6) (g := none) (ty := ty6) (pos := p6) (af := a6) (n := n)
    (L := (d5, .int .i64 (k : Int)) :: (d4, .slice ad Lc.length cp) :: (d3, .slice ad k cp) :: (d2, .int .i64 (k : Int)) :: (d1, .slice ad Lc.length cp) :: (td, .slice ad Lc.length cp) :: L) (o := .tmp d4) (y' := .tmp d5) (k := .i64) (i := (k : Int)) (b := ad) (m := Lc.length) (c := cp)
    Tryz.underlying22 hu8 (by rw [ev_t, lk_ne (by simp [hne]), lk_eq]) lk_eq (by omega) (by omega)
  rw [Int.toNat_natCast] at hsl
  refine lo_pv rfl rfl (sk_js (Tr.refl _) [] rfl) hsl b6 ?_
  refine lo_pv rfl rfl (sk_js (Tr.refl _) [] rfl) (pv_len_slice Tryz.underlying22 lk_eq) b7 ?_
  refine lo_pv rfl rfl (sk_js (Tr.refl _) [] rfl) (pv_conv' (k := .i64) (i := ((Lc.length - k : Nat) : Int)) (r := ((Lc.length - k : Nat) : Int)) Tryz.underlying3 Tryz.underlying53 lk_eq (by rw [IntKind.wrap_u32]; omega)) b8 ?_
  refine lo_eff rfl rfl ?_
  refine ln_cut hk hk0 ?_
  refine ln_callT (i := 0) (vals := [.slice ad k cp, .int .u32 ((Lc.length - k : Nat) : Int)]) hent (by simp [evs, ev_t, lk_eq, lk_ne, hne]) rfl (fun u hu hok hav => hc u hu _ _ (by rw [List.length_take]; omega) hok hav) b9 ?_
  rintro u v' _ ht ⟨_, ⟨rfl, h1⟩, _⟩
  refine lo_back (sk_js ht [] rfl) ?_
  refine lo_eff rfl rfl ?_
  refine ln_pv (pv_assign (v := v') lk_eq) b0 ?_
  refine lo_back (sk_js ht [] rfl) ?_
  exact lo_nil (at_sub (sub.cons (.skip f9 (.skip f8 (.skip f7 (.skip f6 (.skip f5 (.skip f4 (.skip f3 (.skip f2 (.skip f1 (.skip f0 .rfl'))))))))))) (kk u v' ht))
end
end K
end Go.Proofs.YtepbicjadambbabGreatDoor
namespace Go.Proofs.YtepbicjadambbabGreatDoor
namespace K
open Go Go.Lib
/-! ### A part with one tagged field -/
section plain
variable {fs r : List Fld} {f : Fld} {v : Int} {q : Bool} {y : Tre} {i : Nat} {T Lc Full fb : List UInt8} {us : Bool}
def tg0 (l : List (Int × List UInt8)) : List (Int × List UInt8) := l.filter fun e => decide (e.1 = ((0 : Nat) : Int))
theorem tgf_nil : tg0 (tgB [] v q y i) = [] := rfl
theorem tgf_skip (ht : f.tag ≠ 0) : tg0 (tgB (f :: r) v q y i) = tg0 (tgB r v q y (i + 1)) := by
  have h : ¬ f.tag = ((0 : Nat) : Int) := ht
  simp only [tgB, tg0, List.filter_append]
  by_cases hu : usualB f (y.at_ i) = true
  · simp [hu]
  · simp [hu, ht]
theorem tgf_here (ht : f.tag = 0) (hr : tg0 (tgB r v q y (i + 1)) = []) : tg0 (tgB (f :: r) v q y i) = if usualB f (y.at_ i) then [] else [(0, fieldB f v q (y.at_ i))] := by
  simp only [tgB, tg0, List.filter_append] at hr ⊢
  rw [hr]
  by_cases hu : usualB f (y.at_ i) = true
  · simp [hu]
  · simp [hu, ht]
theorem partB_tag (hk : known fs = 1) (ho : okU (known fs) q y.u) (htg : tg0 (tgB fs v q y 0) = if us then [] else [(0, fb)]) :
    partB fs v q y = plainB fs v q y 0 ++ (if q then uvar ((if us then 0 else 1) + y.u.length) ++ ((if us then [] else tagB (0, fb)) ++ y.u.flatMap tagB) else []) := by
  have e1 : (known fs).toNat = 1 := by rw [hk]; rfl
  cases q with
  | false => simp [partB, partOf]
  | true =>
    have h := (ho rfl).1
    have e2 : (tgB fs v true y 0).filter (fun e => decide (e.1 = ((0 : Nat) : Int))) = if us then [] else [(0, fb)] := htg
    simp only [partB, partOf, e1, h, if_true, List.range_succ, List.range_zero, List.nil_append, List.flatMap_cons, List.flatMap_nil, List.append_nil, e2]
    cases us <;> simp [Nat.add_comm]
theorem pt_open1 (hk : known fs = 1) (ho : okU (known fs) q y.u) (htg : tg0 (tgB fs v q y 0) = if us then [] else [(0, fb)]) (hE : Lc ++ (partB fs v q y ++ T) = Full) :
    Lc ++ (plainB fs v q y 0 ++ ((if q then uvar ((if us then 0 else 1) + y.u.length) ++ ((if us then [] else tagB (0, fb)) ++ y.u.flatMap tagB) else []) ++ T)) = Full := by
  rw [partB_tag hk ho htg, List.append_assoc] at hE
  exact hE
theorem vt_open1 {nl : Bool} (hk : known fs = 1) (ho : okU (known fs) q y.u) (htg : tg0 (tgB fs v q y 0) = if us then [] else [(0, fb)]) (hE : Lc ++ (valueB 10 fs nl v q y ++ T) = Full) :
    Lc ++ (plainB fs v q y 0 ++ ((if q then uvar ((if us then 0 else 1) + y.u.length) ++ ((if us then [] else tagB (0, fb)) ++ y.u.flatMap tagB) else []) ++ T)) = Full :=
  pt_open1 hk ho htg (by simpa only [valueB, if_true] using hE)
theorem okV_tag {P : Prop} (h : (if f.tag < 0 then hasB f v = true else q = true) → P) (ht : ¬ f.tag < 0) (hq : q = true) : P := h (by rw [if_neg ht]; exact hq)
end plain
section
variable {n : Nat} {L : Env} {H0 : Hp} {C : Cx} {s : Vw} {N R : Act → World → Prop} {X : List (Nat × (Act → World → Prop))}
variable {id id' id1 id2 id3 bid : Nat} {td x p te tl ti tc ta tg d0 d1 d2 d3 d4 d5 d6 d7 d8 d9 d10 : Nat} {vd mv : Value} {Lc bs rest Full : List UInt8} {ts ts' : Array TypeId} {ad : Option Addr} {m c : Nat}
variable {ty0 ty1 ty2 ty3 ty4 ty5 ty6 ty7 ty8 ty9 ty10 : TypeId} {p0 p1 p2 p3 p4 p5 p6 p7 p8 p9 p10 : String} {a0 a1 a2 a3 a4 a5 a6 a7 a8 a9 a10 : Array Edge} {uy1 uy2 uy3 uy4 : TypeId}
variable {T TS eU : TypeId} {fs : Array Field} {k off sz b o : Nat} {fl : Field} {cells : List Value} {yy : Tre} {body SC : Code}
theorem pv_ldRow {P : Program} {H : Hp} {d : Option Nat} {g : Option (Nat × Bool)} {t e ty : TypeId} {pos : String} {af : Array Edge} {i gb cp j mm szz : Nat} {xx : Operand} {xs : List Value} {dd : TypeDesc} {vv : Value} (hi : H[i]? = some (.row (.slice (some ⟨gb, 0, none⟩) mm cp) e szz mm xs)) (hd : P.underlying t = some dd) (hna : aggD dd = false)
    (hx : ev L xx = some (.pointer (some ⟨gb, j, none⟩))) (hv : xs[j]? = some vv) : PV P (Sk s H) ⟨d, .load t xx, ty, pos, af, g⟩ n L vv :=
  pv_load1 hd (by cases dd <;> first | rfl | (simp [aggD] at hna)) hx fun w hw => by
    obtain ⟨hl, h1 | ⟨g', cp', cur, hv', h2, h3, h4, h5, h6, h7⟩⟩ := hw.2 _ (List.mem_of_getElem? hi)
    · obtain ⟨h1, _⟩ := h1
      cases h1
    · simp only [Value.slice.injEq, Option.some.injEq, Addr.mk.injEq] at hv'
      obtain ⟨⟨rfl, _⟩, _, rfl⟩ := hv'
      refine cell_of_list (l := cur.toList) (by simpa using h3) j ?_
      rw [← h7] at hv
      exact (List.getElem?_take_of_lt (by
        have := (List.getElem?_eq_some_iff.1 hv).1
        rw [List.length_take] at this
        omega)).symm.trans hv
/-- what is to be written is noted -/
theorem ap_tapp {z : Value} (hTS : Tryz.prog.underlying TS = some (.slice eU)) (hti : TI Tryz.prog eU z 1 4) (hzs : z.cells.size = 1) (hf : frs n L [td, te, d1, d2, d3] = true)
    (kk : ∀ g cp, At N n ((te, .slice (some ⟨g, 0, none⟩) 1 cp) :: (td, vd) :: L) (OctRow vd Lc :: .row (.slice (some ⟨g, 0, none⟩) 1 cp) eU 1 1 [.int .u32 0] :: H0) C s) :
    Cd Tryz.prog (.region id [⟨some d1, .move (.tmp te), ty1, p1, a1, none⟩, ⟨some d2, .buildSlice TS 1 [(0, .const (.int .u32 0))].toArray, ty2, p2, a2, none⟩, ⟨some d3, .call ⟨.builtin .append, #[.tmp d1, .tmp d2], #[TS, TS]⟩, ty3, p3, a3, none⟩, ⟨some te, .assign (.tmp d3), ty4, p4, a4, none⟩].toArray false)
      ⟨N, R, X⟩ n ((te, .slice none 0 0) :: (td, vd) :: L) (OctRow vd Lc :: H0) C s := by
  obtain ⟨hb, hfr, hne⟩ := frs_get hf
  simp only [List.pairwise_cons, List.mem_cons, List.not_mem_nil, or_false, forall_eq_or_imp, forall_eq, List.Pairwise.nil, and_true, false_imp_iff, implies_true] at hb hfr hne
  obtain ⟨f0, fe, f1, f2, f3⟩ := hfr
  obtain ⟨b0, be, b1, b2, b3⟩ := hb
  refine cd_region ?_
  refine ln_nilrow eU 1 ?_
  refine ln_pv (pv_move (v := .slice none 0 0) lk_eq) b1 ?_
  refine ln_lit (vs := [.int .u32 0]) (l := [.int .u32 0]) hTS hti hzs (by decide) (by simp [evPs, numbered, ev_c]) rfl (by decide) rfl rfl b2 (fun b8 => ?_)
  refine ln_append (i := 1) (v := .slice none 0 0) (u := .slice (some ⟨b8, 0, none⟩) 1 1) (m := 1) (news := [.int .u32 0]) rfl hTS hti hzs (by decide) (by simp [ev_t, lk_eq, lk_ne, hne]) lk_eq (src_obj (j := 0) rfl rfl rfl) (by decide) (by decide) b3 rfl rfl (fun v' hv' => ?_)
  refine ln_rowsh (i := 1) rfl (fun ad cp h1 _ h3 => ?_)
  obtain ⟨g, rfl⟩ := h3 (by decide)
  subst h1
  refine ln_pv (pv_assign lk_eq) be ?_
  have hf' : ∀ d, fr d L = true → ¬ td = d → fr d ((td, vd) :: L) = true := fun d h1 h2 => by simp [fr, h1, nbeq h2]
  refine ln_nil (at_sub (.cons (.skip (hf' _ f3 (by simp [hne])) (.skip (hf' _ f2 (by simp [hne])) (.skip (hf' _ f1 (by simp [hne])) (.skip (hf' _ fe (by simp [hne])) .rfl'))))) ?_)
  intro a w hF hS
  refine kk g cp a w ?_ ((hS.sub (List.Sublist.cons _ (List.Sublist.refl _))).perm (List.Perm.swap _ _ _))
  exact hF
/-- how many tags -/
theorem ap_tcount (hte : lk L te = some (.slice ad m c)) (hm : m ≤ 1) (hTS : Tryz.prog.underlying TS = some (.slice eU)) (hp : lk L p = some (.pointer (some ⟨b, o, none⟩))) (hu : Tryz.prog.underlying T = some (.struct fs)) (hk : fs[k]? = some fl) (hsz : (Tryz.prog.info? fl.type).map (·.size) = some (sz + 1)) (ho : fl.offset = off)
    (hrc : RC s b o cells) (hc : cells[off]? = some mv) (hT : RTg s yy mv) (hul : yy.u.length ≤ 32767) (hf : frs n L [td, d1, d2, d3, d4, d5, d6, d7, d8, d9, d10] = true) (hE : Lc ++ (uvar (m + yy.u.length) ++ rest) = Full) (hB : Full.length ≤ 4398046511104)
    (kk : ∀ u v' Lc', Tr s u → Lc' ++ rest = Full → At N n ((td, v') :: L) (OctRow v' Lc' :: H0) C u) :
    Cd Tryz.prog (.region id [⟨some d1, .move (.tmp td), ty1, p1, a1, none⟩, ⟨some d2, .move (.tmp te), ty2, p2, a2, none⟩, ⟨some d3, .call ⟨.builtin .len, #[.tmp d2], #[TS]⟩, ty3, p3, a3, none⟩, ⟨some d4, .move (.tmp p), ty4, p4, a4, none⟩, ⟨some d5, .nilCheck (.tmp d4), ty5, p5, a5, none⟩, ⟨some d6, .fieldAddr T (.tmp d5) k, ty6, p6, a6, none⟩,
      ⟨some d7, .call ⟨.value (.func 36), [.tmp d6].toArray, ts⟩, ty7, p7, a7, none⟩, ⟨some d8, .binOp .add uy1 (.tmp d3) (.tmp d7) uy2, ty8, p8, a8, none⟩, ⟨some d9, .convert 3 53 (.tmp d8), ty9, p9, a9, none⟩,
      ⟨some d10, .call ⟨.value (.func 35), [.tmp d1, .tmp d9].toArray, ts'⟩, ty10, p10, a10, none⟩, ⟨some td, .assign (.tmp d10), ty0, p0, a0, none⟩].toArray false) ⟨N, R, X⟩ n ((td, vd) :: L) (OctRow vd Lc :: H0) C s := by
  obtain ⟨hb, hfr, hne⟩ := frs_get hf
  simp only [List.pairwise_cons, List.mem_cons, List.not_mem_nil, or_false, forall_eq_or_imp, forall_eq, List.Pairwise.nil, and_true, false_imp_iff, implies_true] at hb hfr hne
  obtain ⟨f0, f1, f2, f3, f4, f5, f6, f7, f8, f9, f10⟩ := hfr
  obtain ⟨b0, b1, b2, b3, b4, b5, b6, b7, b8, b9, b10⟩ := hb
  obtain ⟨l, hMK, hRK⟩ := hT
  have hlen := hRK.len
  have hrc1 : RC s b (o + off) [mv] := ⟨hrc.1, fun j w hj => by
    cases j with
    | zero =>
      simp only [List.getElem?_cons_zero, Option.some.injEq] at hj
      subst hj
      exact hrc.2 off mv hc
    | succ j => simp at hj⟩
  refine cd_region ?_
  refine ln_pv (pv_move (v := vd) lk_eq) b1 ?_
  refine ln_pv (pv_move (by rw [ev_t, lk_ne (lk_fr f1 hte), lk_ne (lk_fr f0 hte)]; exact hte)) b2 ?_
  refine ln_pv (pv_len_slice hTS lk_eq) b3 ?_
  refine ln_pv (pv_move (by rw [ev_t, lk_ne (lk_fr f3 hp), lk_ne (lk_fr f2 hp), lk_ne (lk_fr f1 hp), lk_ne (lk_fr f0 hp)]; exact hp)) b4 ?_
  refine ln_pv (pv_nilCheck lk_eq) b5 ?_
  refine ln_pv (pv_fieldAddr hu hk hsz ho lk_eq rfl) b6 ?_
  refine ln_callS (vals := [.pointer (some ⟨b, o + off, none⟩)]) en_36 (by simp [evs, ev_t, lk_eq]) (fun u hu => tags_Len u b (o + off) mv l (hrc1.mv hu (by simp)) (hMK.mv hu)) b7 ?_
  refine ln_pv (pv_add' (k := .i64) (i := (m : Int)) (j := ((l.length : Nat) : Int)) (r := ((m + yy.u.length : Nat) : Int)) (by simp [ev_t, lk_eq, lk_ne, hne]) lk_eq (by rw [hlen, wrap_i64 (by omega) (by omega)]; omega)) b8 ?_
  refine ln_pv (pv_conv' Tryz.underlying3 Tryz.underlying53 lk_eq (r := ((m + yy.u.length : Nat) : Int)) (wrap_u32_in (by omega) (by omega))) b9 ?_
  refine ln_callT (i := 0) (vals := [vd, .int .u32 ((m + yy.u.length : Nat) : Int)]) en_35 (by simp [evs, ev_t, lk_eq, lk_ne, hne]) rfl (fun u hu hok hav => kbin_AppendUvarint u (m + yy.u.length) (by omega) _ _ (app_len hE hB) hok hav) b10 ?_
  rintro u v' _ ht ⟨_, ⟨rfl, h1⟩, _⟩
  refine ln_pv (pv_assign (v := v') lk_eq) b0 ?_
  refine ln_nil (at_sub (.cons (.skip f10 (.skip f9 (.skip f8 (.skip f7 (.skip f6 (.skip f5 (.skip f4 (.skip f3 (.skip f2 (.skip f1 (.skip f0 .rfl')))))))))))) ?_)
  exact kk u v' _ ht (app_step hE)
/-- the unknown tags, each -/
theorem ap_teach (hp : lk L p = some (.pointer (some ⟨b, o, none⟩))) (hu : Tryz.prog.underlying T = some (.struct fs)) (hk : fs[k]? = some fl) (hsz : (Tryz.prog.info? fl.type).map (·.size) = some (sz + 1)) (ho : fl.offset = off)
    (hrc : RC s b o cells) (hc : cells[off]? = some mv) (hT : RTg s yy mv) (o1 : yy.u.Pairwise (fun x y => x.1 < y.1)) (o2 : ∀ y ∈ yy.u, y.1 < 4294967296 ∧ y.2.length ≤ 32767) (hf : frs n L [td, d1, d2, d3, d4, d5] = true) (hE : Lc ++ (yy.u.flatMap tagB ++ rest) = Full) (hB : Full.length ≤ 4398046511104)
    (kk : ∀ u v' Lc', Tr s u → Lc' ++ rest = Full → At N n ((td, v') :: L) (OctRow v' Lc' :: H0) C u) :
    Cd Tryz.prog (.region id [⟨some d1, .move (.tmp p), ty1, p1, a1, none⟩, ⟨some d2, .nilCheck (.tmp d1), ty2, p2, a2, none⟩, ⟨some d3, .fieldAddr T (.tmp d2) k, ty3, p3, a3, none⟩, ⟨some d4, .move (.tmp td), ty4, p4, a4, none⟩,
      ⟨some d5, .call ⟨.value (.func 39), [.tmp d3, .tmp d4].toArray, ts⟩, ty5, p5, a5, none⟩, ⟨some td, .assign (.tmp d5), ty6, p6, a6, none⟩].toArray false) ⟨N, R, X⟩ n ((td, vd) :: L) (OctRow vd Lc :: H0) C s := by
  obtain ⟨hb, hfr, hne⟩ := frs_get hf
  simp only [List.pairwise_cons, List.mem_cons, List.not_mem_nil, or_false, forall_eq_or_imp, forall_eq, List.Pairwise.nil, and_true, false_imp_iff, implies_true] at hb hfr hne
  obtain ⟨f0, f1, f2, f3, f4, f5⟩ := hfr
  obtain ⟨b0, b1, b2, b3, b4, b5⟩ := hb
  obtain ⟨l, hMK, hRK⟩ := hT
  have hrc1 : RC s b (o + off) [mv] := ⟨hrc.1, fun j w hj => by
    cases j with
    | zero =>
      simp only [List.getElem?_cons_zero, Option.some.injEq] at hj
      subst hj
      exact hrc.2 off mv hc
    | succ j => simp at hj⟩
  refine cd_region ?_
  refine ln_pv (pv_move (by rw [ev_t, lk_ne (lk_fr f0 hp)]; exact hp)) b1 ?_
  refine ln_pv (pv_nilCheck lk_eq) b2 ?_
  refine ln_pv (pv_fieldAddr hu hk hsz ho lk_eq rfl) b3 ?_
  refine ln_pv (pv_move (v := vd) (by simp [ev_t, lk_eq, lk_ne, hne])) b4 ?_
  refine ln_callT (i := 0) (vals := [.pointer (some ⟨b, o + off, none⟩), vd]) en_39 (by simp [evs, ev_t, lk_eq, lk_ne, hne]) rfl (fun u hu hok hav => tags_AppendEach u b (o + off) mv l yy.u _ _ (hrc1.mv hu (by simp)) (hMK.mv hu) (RK.mv hu hRK) o1 o2 (app_len hE hB) hok hav) b5 ?_
  rintro u2 v2 _ ht2 ⟨_, ⟨rfl, h2⟩, _⟩
  refine ln_pv (pv_assign (v := v2) lk_eq) b0 ?_
  refine ln_nil (at_sub (.cons (.skip f5 (.skip f4 (.skip f3 (.skip f2 (.skip f1 (.skip f0 .rfl')))))))  ?_)
  exact kk u2 v2 _ ht2 (app_step hE)
/-- over what is noted, its slice at hand -/
theorem ap_rangeV {e : TypeId} {x : Nat} {Tl : Nat → List UInt8} (hu : Tryz.prog.underlying TS = some (.slice e)) (hx : lk L x = some (.slice ad m c)) (hm : m ≤ 4398046511104) (hf : frs n L [td, d1, tl, ti, tc, d2] = true) (hE : Lc ++ (Tl 0 ++ rest) = Full)
    (hbody : ∀ (i : Nat) (u : Vw) (vd : Value) (Lc : List UInt8) (N' : Act → World → Prop) (X' : List (Nat × (Act → World → Prop))), i < m → Tr s u → Lc ++ (Tl i ++ rest) = Full →
      (∀ u' v' Lc', Tr u u' → Lc' ++ (Tl (i + 1) ++ rest) = Full → At N' n ((td, v') :: (ti, .int .i64 (i : Int)) :: (tl, .int .i64 (m : Int)) :: (d1, .slice ad m c) :: L) (OctRow v' Lc' :: H0) C u') →
      Cd Tryz.prog body ⟨N', R, X'⟩ n ((td, vd) :: (ti, .int .i64 (i : Int)) :: (tl, .int .i64 (m : Int)) :: (d1, .slice ad m c) :: L) (OctRow vd Lc :: H0) C u)
    (kk : ∀ u v' Lc', Tr s u → Lc' ++ (Tl m ++ rest) = Full → At N n ((td, v') :: L) (OctRow v' Lc' :: H0) C u) :
    Cd Tryz.prog (.seq (.region id [⟨some d1, .move (.tmp x), ty1, p1, a1, none⟩, ⟨some tl, .call ⟨.builtin .len, #[.tmp d1], #[TS]⟩, ty2, p2, a2, none⟩, ⟨some ti, .move (.const (.int .i64 0)), ty3, p3, a3, none⟩].toArray false)
      (.block id1 (.loop (.seq (.region id2 [⟨some tc, .binOp .lss uy1 (.tmp ti) (.tmp tl) uy2, ty4, p4, a4, none⟩].toArray false) (.seq (.cond (.tmp tc) .skip (.exit id1)) (.seq (.block id3 body) (.region id' [⟨some d2, .binOp .add uy3 (.tmp ti) (.const (.int .i64 1)) uy4, ty5, p5, a5, none⟩, ⟨some ti, .move (.tmp d2), ty6, p6, a6, none⟩].toArray false)))))))
      ⟨N, R, X⟩ n ((td, vd) :: L) (OctRow vd Lc :: H0) C s := by
  obtain ⟨hb, hfr, hne⟩ := frs_get hf
  simp only [List.pairwise_cons, List.mem_cons, List.not_mem_nil, or_false, forall_eq_or_imp, forall_eq, List.Pairwise.nil, and_true, false_imp_iff, implies_true] at hb hfr hne
  obtain ⟨f0, f1, fl, fi, fc, fe⟩ := hfr
  obtain ⟨b0, b1, bl, bi, bc, be⟩ := hb
  have hf' : ∀ d, fr d L = true → ¬ d1 = d → fr d ((d1, .slice ad m c) :: L) = true := fun d h1 h2 => by simp [fr, h1, nbeq h2]
  have fc' := hf' _ fc (by simp [hne])
  have f0' := hf' _ f0 (by simp [hne])
  have fi' := hf' _ fi (by simp [hne])
  have fl' := hf' _ fl (by simp [hne])
  have fe' := hf' _ fe (by simp [hne])
  have hs : ∀ (v u1 : Value) (i : Nat), sub ((td, v) :: (ti, .int .i64 (i : Int)) :: (tl, .int .i64 (m : Int)) :: (d1, .slice ad m c) :: L) ((tc, u1) :: (td, v) :: (ti, .int .i64 (i : Int)) :: (tl, .int .i64 (m : Int)) :: (d1, .slice ad m c) :: L) := fun v u1 i =>
    .put (by simp [lk_eq, lk_ne, hne]) (.put (by simp [lk_eq, lk_ne, hne]) (.put (by simp [lk_eq, lk_ne, hne]) (.skip fc' (.skip f0' (.skip fi' (.skip fl' .rfl'))))))
  refine cd_sq ?_
  refine cd_region ?_
  refine ln_pv (pv_move (by rw [ev_t, lk_ne (lk_fr f0 hx)]; exact hx)) b1 ?_
  refine ln_pv (pv_len_slice hu lk_eq) bl ?_
  refine ln_pv (pv_move ev_c) bi ?_
  refine ln_nil (at_cd ?_)
  refine cd_block ?_
  refine cd_loop' (S := Nat × Value × List UInt8) ⟨fun z => (td, z.2.1) :: (ti, .int .i64 (z.1 : Int)) :: (tl, .int .i64 (m : Int)) :: (d1, .slice ad m c) :: L, fun z => (OctRow z.2.1 z.2.2 :: H0), fun z _ => z.1 ≤ m ∧ z.2.2 ++ (Tl z.1 ++ rest) = Full, fun z => m - z.1⟩ (0, vd, Lc)
    (fun u hu => ⟨Nat.zero_le _, hE⟩) ?_ (List.Sublist.refl _) ?_
  · exact .put (by simp [lk_eq, lk_ne, hne]) (.cons (.cons (.cons (.skip f0 .rfl'))))
  · rintro ⟨i, v, Lz⟩ u hu ⟨hi, hEz⟩
    dsimp only at hi hEz ⊢
    refine cd_sq ?_
    refine cd_region ?_
    refine ln_pv (pv_lss (k := .i64) (i := (i : Int)) (j := (m : Int)) (by simp [ev_t, lk_eq, lk_ne, hne]) (by simp [ev_t, lk_eq, lk_ne, hne])) bc ?_
    refine ln_nil (at_cd ?_)
    refine cd_sq ?_
    refine cd_if lk_eq (fun hlt => ?_) (fun hge => ?_)
    · refine cd_skip ?_
      refine at_cd (cd_sub_ (hs v _ i) ?_)
      refine cd_sq ?_
      refine cd_block ?_
      refine hbody i u v Lz _ _ (by omega) hu hEz (fun u' v' Lc' hu' hE' => ?_)
      refine at_cd ?_
      refine cd_region ?_
      refine ln_pv (pv_add' (k := .i64) (i := (i : Int)) (j := 1) (r := ((i + 1 : Nat) : Int)) (by simp [ev_t, lk_eq, lk_ne, hne]) ev_c (wrap_succ (by omega))) be ?_
      refine ln_pv (pv_move lk_eq) bi ?_
      refine ln_nil ?_
      exact at_rnd' (i + 1, v', Lc') (hu.trans hu') (fun _ _ => ⟨by dsimp only; omega, hE'⟩) (by dsimp only; omega)
        (.put (by simp [lk_eq, lk_ne, hne]) (.put lk_eq (.put (by simp [lk_eq, lk_ne, hne]) (.skip fi' (.skip fe' (.skip f0' (.skip fi' (.skip fl' .rfl')))))))) (List.Sublist.refl _)
    · have him : i = m := by omega
      subst him
      refine cd_exit (K := N) (by simp [lkx]) ?_
      exact at_sub (.put (by simp [lk_eq, lk_ne, hne]) (.skip fc (.skip f0 (.skip fi (.skip fl (.skip f1 .rfl')))))) (kk u v Lz hu hEz)
/-- the tag that is noted is the nought: the switch's case -/
theorem ap_case {g0 cp : Nat} {e ft eT : TypeId} {dd : TypeDesc} {H1 : Hp} (hx : lk L x = some (.slice (some ⟨g0, 0, none⟩) 1 cp)) (hti : lk L ti = some (.int .i64 ((0 : Nat) : Int))) (hu : Tryz.prog.underlying TS = some (.slice e)) (hsz : (Tryz.prog.info? e).map (·.size) = some 1) (hd : Tryz.prog.underlying ft = some dd) (hna : aggD dd = false)
    (hf : frs n L [td, ta, tg, d1, d2, d3, d4] = true) (hH : H0 = .row (.slice (some ⟨g0, 0, none⟩) 1 cp) eT 1 1 [.int .u32 0] :: H1)
    (hSC : Cd Tryz.prog SC ⟨N, R, (bid, N) :: X⟩ n ((td, vd) :: L) (OctRow vd Lc :: H0) C s) :
    Cd Tryz.prog (.seq (.region id [⟨some d1, .indexAddr TS (.tmp x) (.tmp ti), ty1, p1, a1, none⟩, ⟨some d2, .load ft (.tmp d1), ty2, p2, a2, none⟩, ⟨some ta, .assign (.tmp d2), ty3, p3, a3, none⟩].toArray false)
      (.seq (.region id1 [⟨some d3, .move (.tmp ta), ty4, p4, a4, none⟩].toArray false) (.block bid (.seq (.region id2 [⟨some d4, .binOp .eql uy1 (.tmp d3) (.const (.int .u32 0)) uy2, ty5, p5, a5, none⟩, ⟨some tg, .assign (.tmp d4), ty6, p6, a6, none⟩].toArray false) (.cond (.tmp tg) SC .skip))))) ⟨N, R, X⟩ n ((td, vd) :: L) (OctRow vd Lc :: H0) C s := by
  obtain ⟨hb, hfr, hne⟩ := frs_get hf
  simp only [List.pairwise_cons, List.mem_cons, List.not_mem_nil, or_false, forall_eq_or_imp, forall_eq, List.Pairwise.nil, and_true, false_imp_iff, implies_true] at hb hfr hne
  obtain ⟨f0, fa, fg, f1, f2, f3, f4⟩ := hfr
  obtain ⟨b0, ba, bg, b1, b2, b3, b4⟩ := hb
  refine cd_sq ?_
  refine cd_region ?_
  refine ln_pv (pv_ixN (i := 0) hu hsz (by rw [ev_t, lk_ne (lk_fr f0 hx)]; exact hx) (by rw [ev_t, lk_ne (lk_fr f0 hti)]; exact hti) (by omega)) b1 ?_
  refine ln_pv (pv_ldRow (i := 1) (j := 0) (by rw [hH]; rfl) hd hna (by simp [ev_t, lk_eq]) rfl) b2 ?_
  refine ln_pv (pv_assign lk_eq) ba ?_
  refine ln_nil (at_cd ?_)
  refine cd_sq ?_
  refine cd_region ?_
  refine ln_pv (pv_move lk_eq) b3 ?_
  refine ln_nil (at_cd ?_)
  refine cd_block ?_
  refine cd_sq ?_
  refine cd_region ?_
  refine ln_pv (pv_eql (k := .u32) (i := 0) (j := 0) lk_eq ev_c) b4 ?_
  refine ln_pv (pv_assign lk_eq) bg ?_
  refine ln_nil (at_cd ?_)
  refine cd_if lk_eq (fun _ => cd_sub_ ?_ hSC) (fun h => absurd rfl h)
  have hf' : ∀ d, fr d L = true → ¬ td = d → fr d ((td, vd) :: L) = true := fun d h1 h2 => by simp [fr, h1, nbeq h2]
  exact .skip (hf' _ fg (by simp [hne])) (.skip (hf' _ f4 (by simp [hne])) (.skip (hf' _ f3 (by simp [hne])) (.skip (hf' _ fa (by simp [hne])) (.skip (hf' _ f2 (by simp [hne])) (.skip (hf' _ f1 (by simp [hne])) .rfl')))))
end
end K
end Go.Proofs.YtepbicjadambbabGreatDoor
namespace Go.Proofs.YtepbicjadambbabGreatDoor
namespace K
open Go Go.Lib
section
variable {n : Nat} {L : Env} {H0 : Hp} {C : Cx} {s : Vw} {N R : Act → World → Prop} {X : List (Nat × (Act → World → Prop))}
variable {id id' id1 id2 id3 bid : Nat} {td x p sz la d0 d1 d2 d3 d4 d5 d6 e1 e2 e3 e4 lb : Nat} {vd val : Value} {Lc bs rest Full fb : List UInt8} {ts ts' : Array TypeId} {f : FuncId}
variable {ty0 ty1 ty2 ty3 ty4 ty5 ty6 : TypeId} {p0 p1 p2 p3 p4 p5 p6 : String} {a0 a1 a2 a3 a4 a5 a6 : Array Edge} {uy1 uy2 uy3 uy4 uy5 uy6 uy7 : TypeId} {q1 q2 q3 q4 q5 q6 q7 : String} {c1 c2 c3 c4 c5 c6 c7 : Array Edge}
variable {T ft : TypeId} {fs : Array Field} {k off szz b o : Nat} {fl : Field} {dd : TypeDesc} {cells : List Value} {W : Code}
theorem at_H0 {K : Act → World → Prop} {e : Ent} (k : At K n L [e] C s) : At K n L (e :: H0) C s := fun a w hF hS => k a w hF (hS.sub (List.Sublist.cons_cons _ (List.nil_sublist _)))
theorem at_Hs {K : Act → World → Prop} {e e' : Ent} (k : At K n L (e :: H0) C s) : At K n L (e :: e' :: H0) C s := fun a w hF hS => k a w hF (hS.sub (List.Sublist.cons_cons _ (List.Sublist.cons _ (List.Sublist.refl _))))
theorem tg_open {T : List UInt8} (hE : Lc ++ (tagB (0, fb) ++ T) = Full) : Lc ++ (uvar 0 ++ (uvar fb.length ++ (fb ++ T))) = Full := by simpa only [tagB, List.append_assoc] using hE
theorem tg_open2 {T m : List UInt8} (hE : Lc ++ (uvar 0 ++ (m ++ (fb ++ T))) = Full) : ((Lc ++ uvar 0) ++ m) ++ (fb ++ T) = Full := by simpa only [List.append_assoc] using hE
/-- a tagged value, written twice: first to learn its size -/
theorem ap_scopeJ (hx : lk L p = some (.pointer (some ⟨b, o, none⟩))) (hu : Tryz.prog.underlying T = some (.struct fs)) (hk : fs[k]? = some fl) (hsz : (Tryz.prog.info? fl.type).map (·.size) = some (szz + 1)) (ho : fl.offset = off)
    (hd : Tryz.prog.underlying ft = some dd) (hna : aggD dd = false) (hrc : RC s b o cells) (hc : cells[off]? = some val) (hf1 : frs n L [td, x, d1, d2, d3, d4] = true) (hf2 : frs n ((x, val) :: L) [td, e1, e2] = true) (hf3 : frs n ((td, vd) :: (x, val) :: L) [sz] = true) (hf4 : frs n ((sz, .bool false) :: (x, val) :: L) [td, la, e3, e4] = true)
    (hE : Lc ++ (uvar 0 ++ (uvar fb.length ++ (fb ++ rest))) = Full) (hB : Full.length ≤ 4398046511104)
    (first : ∀ u v', Tr s u → CdG Tryz.prog W lb (fun a w => ∃ (z : Value) (u1 : Vw), Tr s u1 ∧ True ∧ Fr n ((td, z) :: (la, .int .i64 ((Lc ++ uvar 0).length : Int)) :: (sz, .bool true) :: (x, val) :: L) a ∧ St C u1 (OctRow z ((Lc ++ uvar 0) ++ uvar fb.length) :: H0) w) ⟨N, R, X⟩ n
      ((td, v') :: (la, .int .i64 ((Lc ++ uvar 0).length : Int)) :: (sz, .bool false) :: (x, val) :: L) (OctRow v' (Lc ++ uvar 0) :: H0) C u)
    (second : ∀ u v', Tr s u → Cd Tryz.prog W ⟨N, R, X⟩ n ((td, v') :: (la, .int .i64 ((Lc ++ uvar 0).length : Int)) :: (sz, .bool true) :: (x, val) :: L) (OctRow v' ((Lc ++ uvar 0) ++ uvar fb.length) :: H0) C u) :
    Cd Tryz.prog (.scope (.seq (.region id [⟨some d1, .move (.tmp p), ty1, p1, a1, none⟩, ⟨some d2, .nilCheck (.tmp d1), ty2, p2, a2, none⟩, ⟨some d3, .fieldAddr T (.tmp d2) k, ty3, p3, a3, none⟩, ⟨some d4, .load ft (.tmp d3), ty4, p4, a4, none⟩, ⟨some x, .assign (.tmp d4), ty5, p5, a5, none⟩].toArray false) (.seq (.region id1 [⟨some e1, .move (.tmp td), uy1, q1, c1, none⟩, ⟨some e2, .call ⟨.value (.func 35), [.tmp e1, .const (.int .u32 0)].toArray, ts⟩, uy2, q2, c2, none⟩, ⟨some td, .assign (.tmp e2), uy3, q3, c3, none⟩].toArray false) (.seq (.region id2 [⟨some sz, .assign (.const (.bool false)), uy4, q4, c4, none⟩].toArray false) (.seq (.region id3 [⟨some e3, .move (.tmp td), uy5, q5, c5, none⟩, ⟨some e4, .call ⟨.builtin .len, #[.tmp e3], #[22]⟩, uy6, q6, c6, none⟩, ⟨some la, .assign (.tmp e4), uy7, q7, c7, none⟩].toArray false) (.seq (.label lb) W)))))) ⟨N, R, X⟩ n ((td, vd) :: L) (OctRow vd Lc :: H0) C s := by
  refine cd_scopeJ (S := Value) lb (fun z => (td, z) :: (la, .int .i64 ((Lc ++ uvar 0).length : Int)) :: (sz, .bool true) :: (x, val) :: L) (fun z => OctRow z ((Lc ++ uvar 0) ++ uvar fb.length) :: H0) (fun _ _ => True) (rest := .seq .skip W) ?_ ?_ ?_
  · simp [findLabel]
  · refine cdG_sq ?_
    refine ap_load hx hu hk hsz ho hd hna hrc hc hf1 ?_
    refine at_cdG ?_
    refine cdG_sq ?_
    refine ap_callK en_35 hf2 (fun u hu => kbin_AppendUvarint u 0 (by omega)) hE hB (fun u v' Lc' ht hL => ?_)
    subst hL
    refine at_cdG ?_
    refine cdG_sq ?_
    have hf3' : frs n ((td, v') :: (x, val) :: L) [sz] = true := by simpa [frs, fr] using hf3
    have hne : ¬ sz = td := by
      intro e
      subst e
      simp [frs, fr] at hf3
    refine ap_const hf3' ?_
    refine at_cdG ?_
    refine cdG_sq ?_
    refine cd_sub_ (L' := (td, v') :: (sz, .bool false) :: (x, val) :: L) (sub.swap (nbeq hne)) ?_
    refine ap_lenD hf4 ?_
    refine at_cdG ?_
    refine cdG_label ?_
    exact first u v' ht
  · rintro z u ht _
    exact cd_sq (cd_skip (at_cd (second u z ht)))
end
/-! ### what is as by default -/
section usual
variable {a b nul tag d o v : Int} {sub : List Fld} {y : Tre}
theorem us_list1 (h : 0 < (els y).length) : usualB (.mk 11 a b nul tag d o sub) y = false := by
  have e : usualB (.mk 11 a b nul tag d o sub) y = decide (y.l.length = 0) := by simp [usualB]
  rw [e]
  refine decide_eq_false fun hl => ?_
  unfold els at h
  cases hz : y.z <;> simp [hz, hl] at h
theorem us_list0 (hz : y.z = true → (nul ≥ 0 ∧ v ≥ nul) ∨ y.l = []) (hn : ¬ nul ≥ 0) (h : ¬ 0 < (els y).length) : usualB (.mk 11 a b nul tag d o sub) y = true := by
  have e : usualB (.mk 11 a b nul tag d o sub) y = decide (y.l.length = 0) := by simp [usualB]
  rw [e]
  refine decide_eq_true ?_
  unfold els at h
  cases hzz : y.z with
  | true =>
    rcases hz hzz with h1 | h1
    · exact absurd h1.1 hn
    · simp [h1]
  | false =>
    simp only [hzz, Bool.false_eq_true, if_false] at h
    omega
theorem b8n (x : Int) : ((b8 x).toNat : Int) = x % 256 := by
  rw [← wrap_u8]
  simp [IntKind.wrap, IntKind.bits, IntKind.signed]
theorem fixed2_zero (n : Int) : fixed n 2 = fixed 0 2 ↔ n % 65536 = 0 := by
  have e : ∀ x : Int, fixed x 2 = [b8 (x / 256), b8 x] := fun x => by simp [fixed]
  rw [e, e]
  simp only [List.cons.injEq, and_true]
  constructor
  · rintro ⟨h1, h2⟩
    have h3 := congrArg (fun u : UInt8 => (u.toNat : Int)) h1
    have h4 := congrArg (fun u : UInt8 => (u.toNat : Int)) h2
    simp only [b8n] at h3 h4
    omega
  · intro h
    exact ⟨b8_congr (by omega), b8_congr (by omega)⟩
theorem wrap16_zero (n : Int) : IntKind.i16.wrap n = 0 ↔ n % 65536 = 0 := by
  have e : IntKind.i16.wrap n = if (true && decide (n % 65536 ≥ 32768)) = true then n % 65536 - 65536 else n % 65536 := rfl
  rw [e]
  by_cases h : n % 65536 ≥ 32768
  · rw [if_pos (by simpa using h)]; omega
  · rw [if_neg (by simpa using h)]
theorem us_i16e : usualB (.mk 2 a b nul tag 0 o sub) y = decide (IntKind.i16.wrap y.n = 0) := by
  have e : usualB (.mk 2 a b nul tag 0 o sub) y = decide (fixed y.n 2 = fixed 0 2) := by simp [usualB, widthN]
  rw [e]
  exact decide_eq_decide.2 ((fixed2_zero _).trans (wrap16_zero _).symm)
theorem us_i16_1 (h : IntKind.i16.wrap y.n ≠ 0) : usualB (.mk 2 a b nul tag 0 o sub) y = false := us_i16e.trans (decide_eq_false h)
theorem us_i16_0 (h : ¬ IntKind.i16.wrap y.n ≠ 0) : usualB (.mk 2 a b nul tag 0 o sub) y = true := us_i16e.trans (decide_eq_true (Decidable.not_not.1 h))
theorem fb_len2 {q : Bool} : (fieldB (.mk 2 a b nul tag d o sub) v q y).length = 2 := by
  rw [fieldB_sc (by decide) (by decide)]
  simp [scalarB, widthN]
theorem us_uuid : usualB (.mk 7 a b nul tag d o sub) y = decide (uuid y.s = List.replicate 16 0) := by
  have e : usualB (.mk 7 a b nul tag d o sub) y = (y.s.take 16).all fun c => decide (c = 0) := by simp [usualB]
  rw [e, Bool.eq_iff_iff, decide_eq_true_eq, List.all_eq_true]
  unfold uuid
  constructor
  · intro h
    refine List.eq_replicate_iff.2 ⟨by simp; omega, fun c hc => ?_⟩
    rcases List.mem_append.1 hc with h1 | h1
    · exact of_decide_eq_true (h c h1)
    · exact (List.mem_replicate.1 h1).2
  · intro h c hc
    exact decide_eq_true ((List.eq_replicate_iff.1 h).2 c (List.mem_append.2 (.inl hc)))
theorem fb_len16 {q : Bool} : (fieldB (.mk 7 a b nul tag d o sub) v q y).length = 16 := by
  rw [fieldB_sc (by decide) (by decide)]
  have e : scalarB 7 (y.z && decide (nul ≥ 0) && decide (v ≥ nul)) q y = uuid y.s := by simp [scalarB, uuid]
  rw [e, uuid_length]
theorem Txt.ptr {s : Vw} {c : Value} {y : Tre} (h : Txt s c y) : ∃ p : Option Addr, c = .pointer p ∧ p.isNone = y.z := by
  rcases h with ⟨hz, rfl⟩ | ⟨hz, g, z, rfl, _⟩
  · exact ⟨none, rfl, by rw [hz]; rfl⟩
  · exact ⟨_, rfl, by rw [hz]; rfl⟩
theorem tx_le {q : Bool} (hl : y.s.length ≤ 32767) : (fieldB (.mk 8 a b nul tag d o sub) v q y).length ≤ 4294967295 := by
  rw [fieldB_sc (by decide) (by decide)]
  have := scalarB_le 8 (y.z && decide (nul ≥ 0) && decide (v ≥ nul)) q y
  omega
theorem us_text (hn : nul ≥ 0) : usualB (.mk 8 a b nul tag d o sub) y = y.z := by simp [usualB, hn]
end usual
end K
end Go.Proofs.YtepbicjadambbabGreatDoor
