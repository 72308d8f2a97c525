import Derived.Test.YtjjfpdofkdolnaaDoorFw
import Derived.Deep.LoopGhost
set_option linter.unusedVariables false
set_option linter.unusedSimpArgs false
namespace Go.Proofs.YtjjfpdofkdolnaaDoor
namespace K
open Go

/-! ### 1. The judgements -/
structure Post where
  nrm : Act → World → Prop
  ret : Act → World → Prop
  ex : List (Nat × (Act → World → Prop))
def lkx : List (Nat × (Act → World → Prop)) → Nat → Option (Act → World → Prop)
  | [], _ => none
  | (k, v) :: r, t => bif Nat.beq k t then some v else lkx r t
def Post.q (p : Post) : Exit → Act → World → Prop
  | .normal, a, w => p.nrm a w
  | .ret, a, w => p.ret a w
  | .exit id, a, w => match lkx p.ex id with | some k => k a w | none => False
  | _, _, _ => False
def NP (K : Act → World → Prop) : Exit → Act → World → Prop
  | .normal, a, w => K a w
  | _, _, _ => False
section
variable {P : Program} {n : Nat} {L : Env} {H : Hp} {C : Cx} {s : Vw} {w : World} {N R : Act → World → Prop} {X : List (Nat × (Act → World → Prop))} {ops : Array Oper} {rest : List Oper} {K : Act → World → Prop}

/-- Operations of a region, one behind the other. -/
def Ln (P : Program) (ops : Array Oper) (l : List Oper) (K : Act → World → Prop) (n : Nat) (L : Env) (H : Hp) (C : Cx) (s : Vw) : Prop :=
  ∀ a w, Fr n L a → St C s H w → wpList P ops (NP K) l a w
/-- A piece of code. -/
def Cd (P : Program) (c : Code) (p : Post) (n : Nat) (L : Env) (H : Hp) (C : Cx) (s : Vw) : Prop :=
  ∀ a w, Fr n L a → St C s H w → c.wp P p.q a w
/-- What holds of whatever frame and world fit. -/
def At (K : Act → World → Prop) (n : Nat) (L : Env) (H : Hp) (C : Cx) (s : Vw) : Prop := ∀ a w, Fr n L a → St C s H w → K a w

theorem wpList_np {Q : Exit → Act → World → Prop} (hQ : ∀ a w, K a w → Q .normal a w) : ∀ (l : List Oper) (a : Act) (w : World), wpList P ops (NP K) l a w → wpList P ops Q l a w
  | [], a, w, h => hQ a w h
  | o :: r, a, w, h => by
    unfold wpList at h ⊢
    split
    · rename_i hw
      rw [if_pos hw] at h
      rcases h with h | ⟨_, _, _, h⟩
      · refine .inl ?_
        unfold Oper.wp at *
        generalize (execOp a.eval o).run P w = rr at *
        cases rr with
        | ok x w' =>
          cases x <;> simp only [Oper.upon] at h ⊢ <;>
            first
              | exact wpList_np hQ r _ _ h
              | exact Calls.mono h (fun e w'' he => by cases e <;> first | exact wpList_np hQ r _ _ he | exact he.elim | (obtain ⟨_, _, he⟩ := he; exact he.elim))
              | exact Rows.mono h (fun _ _ he => wpList_np hQ r _ _ he)
        | halt x w' => cases x <;> simp only [Oper.upon] at h ⊢ <;> exact (h : False).elim
      · exact (h : False).elim
    · rename_i hw
      rw [if_neg hw] at h
      exact wpList_np hQ r _ _ h

/-! ### 2. Code -/
theorem cd_seq {x y : Code} (h : Cd P x ⟨y.wp P (Post.q ⟨N, R, X⟩), R, X⟩ n L H C s) : Cd P (.seq x y) ⟨N, R, X⟩ n L H C s := fun a w hF hS => by
  refine wp_seq ?_
  refine Code.wp_mono (fun e a w hq => ?_) (h a w hF hS)
  cases e <;> first | exact hq | exact (hq : False).elim
theorem cd_region {id : Nat} {l : List Oper} (h : Ln P l.toArray l N n L H C s) : Cd P (.region id l.toArray false) ⟨N, R, X⟩ n L H C s :=
  fun a w hF hS => wp_region_lit (wpList_np (fun _ _ h => h) _ _ _ (h a w hF hS))
theorem cd_sr {id : Nat} {l : List Oper} {y : Code} (h : Ln P l.toArray l (y.wp P (Post.q ⟨N, R, X⟩)) n L H C s) : Cd P (.seq (.region id l.toArray false) y) ⟨N, R, X⟩ n L H C s :=
  cd_seq (cd_region h)
theorem cd_skip (h : At N n L H C s) : Cd P .skip ⟨N, R, X⟩ n L H C s := fun a w hF hS => wp_skip (h a w hF hS)
theorem cd_ret (h : At R n L H C s) : Cd P .ret ⟨N, R, X⟩ n L H C s := fun a w hF hS => wp_ret (h a w hF hS)
theorem cd_exit {id : Nat} {K : Act → World → Prop} (hk : lkx X id = some K) (h : At K n L H C s) : Cd P (.exit id) ⟨N, R, X⟩ n L H C s := fun a w hF hS =>
  wp_exit (by show Post.q ⟨N, R, X⟩ (.exit id) a w; simp only [Post.q, hk]; exact h a w hF hS)
/-- on to the code that stands behind -/
theorem at_cd {y : Code} {p : Post} (h : Cd P y p n L H C s) : At (y.wp P p.q) n L H C s := h
theorem cd_block {id : Nat} {c : Code} (h : Cd P c ⟨N, R, (id, N) :: X⟩ n L H C s) : Cd P (.block id c) ⟨N, R, X⟩ n L H C s := fun a w hF hS => by
  refine wp_block (Code.wp_mono (fun e a w hq => ?_) (h a w hF hS))
  cases e with
  | exit id' =>
    by_cases e : id' = id
    · subst e
      have hb : Nat.beq id' id' = true := by simp
      simp only [Post.q, lkx, hb, cond_true] at hq
      simp only [Exit.inBlock, if_true]
      exact hq
    · have hb : Nat.beq id id' = false := nbeq (fun h => e h.symm)
      simp only [Post.q, lkx, hb, cond_false] at hq
      simp only [Exit.inBlock, e, if_false]
      exact hq
  | goto l => exact (hq : False).elim
  | panic l => exact (hq : False).elim
  | outgrown => exact (hq : False).elim
  | normal => exact hq
  | ret => exact hq
theorem cd_cond {c : Operand} {x y : Code} {b : Bool} {p : Post} (hc : ev L c = some (.bool b)) (ht : b = true → Cd P x p n L H C s) (hf : b = false → Cd P y p n L H C s) :
    Cd P (.cond c x y) p n L H C s := fun a w hF hS => wp_cond_split (hF.ev hc) (fun h => ht h a w hF hS) (fun h => hf h a w hF hS)
theorem cd_if {c : Operand} {x y : Code} {q : Prop} [Decidable q] {p : Post} (hc : ev L c = some (.bool (decide q))) (ht : q → Cd P x p n L H C s) (hf : ¬ q → Cd P y p n L H C s) :
    Cd P (.cond c x y) p n L H C s := cd_cond hc (fun h => ht (of_decide_eq_true h)) (fun h => hf (of_decide_eq_false h))
theorem cd_tt {c : Operand} {x y : Code} {p : Post} (hc : ev L c = some (.bool true)) (h : Cd P x p n L H C s) : Cd P (.cond c x y) p n L H C s := cd_cond hc (fun _ => h) (fun h => by cases h)
theorem cd_ff {c : Operand} {x y : Code} {p : Post} (hc : ev L c = some (.bool false)) (h : Cd P y p n L H C s) : Cd P (.cond c x y) p n L H C s := cd_cond hc (fun h => by cases h) (fun _ => h)

/-- The base is turned. -/
theorem at_base (h : ∀ t, Tr s t → At K n L H C t) : At K n L H C s := fun a w hF hS => h hS.vw hS.tr a w hF hS.rebase
/-- A loop's round: sigma tells where it stands. -/
structure Lp (S : Type) where
  L : S → Env
  H : S → Hp
  I : S → Vw → Prop
  m : S → Nat
def Rnd {S : Type} (l : Lp S) (C : Cx) (n : Nat) (s0 : Vw) (z : S) : Act → World → Prop := fun a w =>
  ∃ z' t, Tr s0 t ∧ l.I z' t ∧ l.m z' < l.m z ∧ Fr n (l.L z') a ∧ St C t (l.H z') w
theorem cd_loop {c : Code} {S : Type} (l : Lp S) (z0 : S) (hI : ∀ t, Tr s t → l.I z0 t) (hL : agree (l.L z0) L) (hH : (l.H z0).Sublist H)
    (round : ∀ z t, Tr s t → l.I z t → Cd P c ⟨Rnd l C n s z, R, X⟩ n (l.L z) (l.H z) C t) : Cd P (.loop c) ⟨N, R, X⟩ n L H C s := fun a w hF hS => by
  have hS0 := hS.sub hH
  refine wp_loop_ghost (fun k a w => ∃ z t, l.m z = k ∧ Tr s t ∧ l.I z t ∧ Fr n (l.L z) a ∧ St C t (l.H z) w) (l.m z0) ⟨z0, hS0.vw, rfl, hS0.tr, hI _ hS0.tr, hF.drop hL.sub, hS0.rebase⟩ ?_
  rintro k a w ⟨z, t, rfl, ht, hi, hF, hS⟩
  refine Code.wp_mono (fun e a w hq => ?_) (round z t ht hi a w hF hS)
  cases e with
  | normal =>
    obtain ⟨z', t', h1, h2, h3, h4, h5⟩ := hq
    exact ⟨_, h3, z', t', rfl, h1, h2, h4, h5⟩
  | exit id => exact hq
  | ret => exact hq
  | goto l => exact (hq : False).elim
  | panic l => exact (hq : False).elim
  | outgrown => exact (hq : False).elim
/-- The round's end. -/
theorem at_rnd {S : Type} {l : Lp S} {z : S} {s0 : Vw} (z' : S) (ht : Tr s0 s) (hI : ∀ t, Tr s t → l.I z' t) (hm : l.m z' < l.m z) (hL : agree (l.L z') L) (hH : (l.H z').Sublist H) :
    At (Rnd l C n s0 z) n L H C s := fun a w hF hS => by
  have hS0 := hS.sub hH
  exact ⟨z', hS0.vw, ht.trans hS0.tr, hI _ hS0.tr, hm, hF.drop hL.sub, hS0.rebase⟩

/-! ### 3. Steps -/
/-- What may be read. -/
def Sk (s : Vw) (H : Hp) (w : World) : Prop := Mod s.av s.w w ∧ HF H w
theorem St.sk (h : St C s H w) : Sk s H w := ⟨h.mod.mono fun _ _ h => h.1, h.hf⟩
theorem cell_of_list {w : World} {b : Nat} {l : List Value} {ty : TypeId} {fz : Nat × Nat} (h : w.heap[b]? = some (.cells l.toArray ty fz)) (o : Nat) {v : Value} (hv : l[o]? = some v) : w.cell? ⟨b, o, none⟩ = some v := by
  simp [World.cell?, h, hv]
theorem Sk.obj {i b : Nat} {l : List Value} {ty : TypeId} {fz : Nat × Nat} (hi : H[i]? = some (.obj b (.cells l.toArray ty fz))) {w : World} (h : Sk s H w) : w.heap[b]? = some (.cells l.toArray ty fz) :=
  h.2 _ (List.mem_of_getElem? hi)
theorem Sk.rc {b o : Nat} {cs : List Value} (h : RC s b o cs) {w : World} (hw : Sk s H w) {j : Nat} {v : Value} (hv : cs[j]? = some v) : w.cell? ⟨b, o + j, none⟩ = some v :=
  hw.1.cell (h.2 j v hv) h.1
/-- In every world that meets S the operation yields v. -/
def PV (P : Program) (S : World → Prop) (o : Oper) (n : Nat) (L : Env) (v : Value) : Prop := ∀ a w, Fr n L a → S w → (execOp a.eval o).run P w = .ok (.value v) w
theorem wpl_val {o : Oper} {Q : Exit → Act → World → Prop} {a : Act} {w w' : World} {v : Value} (hg : o.guard = none) (h : (execOp a.eval o).run P w = .ok (.value v) w') (k : wpList P ops Q rest (a.put o.dst v) w') : wpList P ops Q (o :: rest) a w := by
  unfold wpList
  rw [if_pos (by simp [Region.wanted, hg])]
  refine .inl ?_
  unfold Oper.wp
  rw [h]
  exact k
theorem wpl_skip {o : Oper} {Q : Exit → Act → World → Prop} {a : Act} {w w' : World} (hg : o.guard = none) (h : (execOp a.eval o).run P w = .ok .skip w') (k : wpList P ops Q rest (a.put o.dst undef) w') : wpList P ops Q (o :: rest) a w := by
  unfold wpList
  rw [if_pos (by simp [Region.wanted, hg])]
  refine .inl ?_
  unfold Oper.wp
  rw [h]
  exact k
theorem wpl_enter {o : Oper} {Q : Exit → Act → World → Prop} {a : Act} {w w' : World} {f : FuncId} {args : Array Value} {R : Value → World → Prop} (hg : o.guard = none) (h : (execOp a.eval o).run P w = .ok (.enter f args) w')
    (hc : Calls P f args w' fun e w'' => ∃ v, e = .returned v ∧ R v w'') (k : ∀ v w'', R v w'' → wpList P ops Q rest (a.put o.dst v) w'') : wpList P ops Q (o :: rest) a w := by
  unfold wpList
  rw [if_pos (by simp [Region.wanted, hg])]
  refine .inl ?_
  unfold Oper.wp
  rw [h]
  refine Calls.mono hc ?_
  rintro e w'' ⟨v, rfl, hr⟩
  exact k v w'' hr
theorem ln_nil (h : At K n L H C s) : Ln P ops [] K n L H C s := fun a w hF hS => h a w hF hS
theorem ln_cd {y : Code} {p : Post} (h : Cd P y p n L H C s) : Ln P ops [] (y.wp P p.q) n L H C s := fun a w hF hS => h a w hF hS
theorem ln_pv {d : Nat} {op : Op} {ty : TypeId} {pos : String} {af : Array Edge} {v : Value} (hv : PV P (Sk s H) ⟨some d, op, ty, pos, af, none⟩ n L v) (hd : Nat.blt d n = true)
    (k : Ln P ops rest K n ((d, v) :: L) H C s) : Ln P ops (⟨some d, op, ty, pos, af, none⟩ :: rest) K n L H C s :=
  fun a w hF hS => wpl_val rfl (hv a w hF hS.sk) (k _ _ (hF.put d v hd) hS)
theorem wrap_i64 {x : Int} (h0 : -9223372036854775808 ≤ x) (h1 : x ≤ 9223372036854775807) : IntKind.i64.wrap x = x := by
  simp [IntKind.wrap, IntKind.bits, IntKind.signed]; omega
section pv
variable {S : World → Prop} {d : Option Nat} {ty : TypeId} {pos : String} {af : Array Edge} {g : Option (Nat × Bool)}
theorem pv_move {x : Operand} {v : Value} (hx : ev L x = some v) : PV P S ⟨d, .move x, ty, pos, af, g⟩ n L v := fun a w hF _ => by simp [execOp, hF.ev hx]
theorem pv_assign {x : Operand} {v : Value} (hx : ev L x = some v) : PV P S ⟨d, .assign x, ty, pos, af, g⟩ n L v := fun a w hF _ => by simp [execOp, hF.ev hx]
theorem pv_pick {c x y : Operand} {b : Bool} {u v : Value} (hc : ev L c = some (.bool b)) (hx : b = true → ev L x = some u) (hy : b = false → ev L y = some v) :
    PV P S ⟨d, .pick c x y, ty, pos, af, g⟩ n L (bif b then u else v) := fun a w hF _ => by
  cases b with
  | true => simp [execOp, hF.ev hc, hF.ev (hx rfl), asBool]
  | false => simp [execOp, hF.ev hc, hF.ev (hy rfl), asBool]
theorem pv_nilCheck {x : Operand} {p : Addr} (hx : ev L x = some (.pointer (some p))) : PV P S ⟨d, .nilCheck x, ty, pos, af, g⟩ n L (.pointer (some p)) := fun a w hF _ => by simp [execOp, hF.ev hx]
theorem pv_not {x : Operand} {t : TypeId} {b : Bool} (hx : ev L x = some (.bool b)) : PV P S ⟨d, .unOp .not t x, ty, pos, af, g⟩ n L (.bool !b) := fun a w hF _ => by simp [execOp, hF.ev hx, Op.unary]
theorem pv_makeFunc {fn : Fn} {f c : Array Operand} {vf vc : Array Value} (h1 : f.map (ev L) = vf.map some) (h2 : c.map (ev L) = vc.map some) : PV P S ⟨d, .makeFunc fn f c, ty, pos, af, g⟩ n L (.func fn vf vc) := fun a w hF _ => by
  have e : ∀ (f : Array Operand) (vf : Array Value), f.map (ev L) = vf.map some → f.map a.eval = vf := by
    intro f vf h
    apply Array.ext'
    have h' : f.toList.map (ev L) = vf.toList.map some := by simpa using congrArg Array.toList h
    simp only [Array.toList_map]
    generalize f.toList = l at h'
    generalize vf.toList = m at h'
    induction l generalizing m with
    | nil => cases m <;> simp_all
    | cons x r ih =>
      cases m with
      | nil => simp at h'
      | cons y q =>
        simp only [List.map_cons, List.cons.injEq] at h' ⊢
        exact ⟨hF.ev h'.1, ih q h'.2⟩
  simp [execOp, Instr.makeFunc, e f vf h1, e c vc h2]
section ints
variable {t u : TypeId} {x y : Operand} {k : IntKind} {i j : Int}
theorem pv_add (hx : ev L x = some (.int k i)) (hy : ev L y = some (.int k j)) : PV P S ⟨d, .binOp .add t x y u, ty, pos, af, g⟩ n L (.int k (k.wrap (i + j))) := fun a w hF _ => by
  simp [execOp, hF.ev hx, hF.ev hy, binOp, Op.intArith, eqGuard_add]
theorem pv_sub (hx : ev L x = some (.int k i)) (hy : ev L y = some (.int k j)) : PV P S ⟨d, .binOp .sub t x y u, ty, pos, af, g⟩ n L (.int k (k.wrap (i - j))) := fun a w hF _ => by
  simp [execOp, hF.ev hx, hF.ev hy, binOp, Op.intArith, eqGuard_sub]
theorem pv_add' {r : Int} (hx : ev L x = some (.int k i)) (hy : ev L y = some (.int k j)) (hr : k.wrap (i + j) = r) : PV P S ⟨d, .binOp .add t x y u, ty, pos, af, g⟩ n L (.int k r) := hr ▸ pv_add hx hy
theorem pv_sub' {r : Int} (hx : ev L x = some (.int k i)) (hy : ev L y = some (.int k j)) (hr : k.wrap (i - j) = r) : PV P S ⟨d, .binOp .sub t x y u, ty, pos, af, g⟩ n L (.int k r) := hr ▸ pv_sub hx hy
theorem pv_and (hx : ev L x = some (.int k i)) (hy : ev L y = some (.int k j)) : PV P S ⟨d, .binOp .and t x y u, ty, pos, af, g⟩ n L (.int k (bits .and k i j)) := fun a w hF _ => by
  simp [execOp, hF.ev hx, hF.ev hy, binOp, intBits_and, eqGuard_and]
theorem pv_or (hx : ev L x = some (.int k i)) (hy : ev L y = some (.int k j)) : PV P S ⟨d, .binOp .or t x y u, ty, pos, af, g⟩ n L (.int k (bits .or k i j)) := fun a w hF _ => by
  simp [execOp, hF.ev hx, hF.ev hy, binOp, intBits_or, eqGuard_or]
theorem pv_shr {yk : IntKind} (hx : ev L x = some (.int k i)) (hy : ev L y = some (.int yk j)) (h0 : 0 ≤ j) (h1 : j ≤ k.bits) : PV P S ⟨d, .binOp .shr t x y u, ty, pos, af, g⟩ n L (.int k (i / 2 ^ j.toNat)) := fun a w hF _ => by
  simp [execOp, hF.ev hx, hF.ev hy, binOp_shr, shift_shr k yk i j h0 h1, eqGuard_shr]
theorem pv_shl {yk : IntKind} (hx : ev L x = some (.int k i)) (hy : ev L y = some (.int yk j)) (h0 : 0 ≤ j) (h1 : j ≤ k.bits) : PV P S ⟨d, .binOp .shl t x y u, ty, pos, af, g⟩ n L (.int k (k.wrap (i * 2 ^ j.toNat))) := fun a w hF _ => by
  simp [execOp, hF.ev hx, hF.ev hy, binOp_shl, shift_shl k yk i j h0 h1, eqGuard_shl]
theorem pv_lss (hx : ev L x = some (.int k i)) (hy : ev L y = some (.int k j)) : PV P S ⟨d, .binOp .lss t x y u, ty, pos, af, g⟩ n L (.bool (decide (i < j))) := fun a w hF _ => by
  simp [execOp, hF.ev hx, hF.ev hy, binOp_lss, eqGuard_lss]
theorem pv_leq (hx : ev L x = some (.int k i)) (hy : ev L y = some (.int k j)) : PV P S ⟨d, .binOp .leq t x y u, ty, pos, af, g⟩ n L (.bool (decide (i ≤ j))) := fun a w hF _ => by
  simp [execOp, hF.ev hx, hF.ev hy, binOp_leq, eqGuard_leq]
theorem pv_gtr (hx : ev L x = some (.int k i)) (hy : ev L y = some (.int k j)) : PV P S ⟨d, .binOp .gtr t x y u, ty, pos, af, g⟩ n L (.bool (decide (i > j))) := fun a w hF _ => by
  simp [execOp, hF.ev hx, hF.ev hy, binOp_gtr, eqGuard_gtr]
theorem pv_geq (hx : ev L x = some (.int k i)) (hy : ev L y = some (.int k j)) : PV P S ⟨d, .binOp .geq t x y u, ty, pos, af, g⟩ n L (.bool (decide (i ≥ j))) := fun a w hF _ => by
  simp [execOp, hF.ev hx, hF.ev hy, binOp_geq, eqGuard_geq]
theorem pv_eql (hx : ev L x = some (.int k i)) (hy : ev L y = some (.int k j)) : PV P S ⟨d, .binOp .eql t x y u, ty, pos, af, g⟩ n L (.bool (decide (i = j))) := fun a w hF _ => by
  have e : (i == j) = decide (i = j) := by rw [Bool.eq_iff_iff]; simp
  simp only [execOp, hF.ev hx, hF.ev hy, eqGuard_at_int, binOp_eql, e]; rfl
theorem pv_neq (hx : ev L x = some (.int k i)) (hy : ev L y = some (.int k j)) : PV P S ⟨d, .binOp .neq t x y u, ty, pos, af, g⟩ n L (.bool (decide (i ≠ j))) := fun a w hF _ => by
  have e : (i != j) = decide (i ≠ j) := by rw [Bool.eq_iff_iff]; simp
  simp only [execOp, hF.ev hx, hF.ev hy, eqGuard_at_int, binOp_neq, e]; rfl
theorem pv_conv {st dt : TypeId} {dk : IntKind} {e : TypeDesc} (hs : P.underlying st = some e) (hd : P.underlying dt = some (.int dk)) (hx : ev L x = some (.int k i)) :
    PV P S ⟨d, .convert st dt x, ty, pos, af, g⟩ n L (.int dk (dk.wrap i)) := fun a w hF _ => by
  simp [execOp, hF.ev hx, convert, run_underlying hs, run_underlying hd, Conv.intToInt]
theorem pv_conv' {st dt : TypeId} {dk : IntKind} {e : TypeDesc} {r : Int} (hs : P.underlying st = some e) (hd : P.underlying dt = some (.int dk)) (hx : ev L x = some (.int k i)) (hr : dk.wrap i = r) :
    PV P S ⟨d, .convert st dt x, ty, pos, af, g⟩ n L (.int dk r) := hr ▸ pv_conv hs hd hx
end ints
/-- tests whose outcome is known -/
theorem pv_tt {op : Op} {q : Prop} [Decidable q] (h : PV P S ⟨d, op, ty, pos, af, g⟩ n L (.bool (decide q))) (hq : q) : PV P S ⟨d, op, ty, pos, af, g⟩ n L (.bool true) := by rwa [decide_eq_true hq] at h
theorem pv_ff {op : Op} {q : Prop} [Decidable q] (h : PV P S ⟨d, op, ty, pos, af, g⟩ n L (.bool (decide q))) (hq : ¬ q) : PV P S ⟨d, op, ty, pos, af, g⟩ n L (.bool false) := by rwa [decide_eq_false hq] at h
section mem
variable {t e : TypeId} {x y : Operand}
theorem pv_len_slice {b : Option Addr} {m c : Nat} (hu : P.underlying t = some (.slice e)) (hx : ev L x = some (.slice b m c)) :
    PV P S ⟨d, .call ⟨.builtin .len, #[x], #[t]⟩, ty, pos, af, g⟩ n L (.int .i64 (m : Int)) := fun a w hF _ => by
  simp [execOp, resolve, invoke, builtin, hF.ev hx, Builtin.len_, run_underlying hu, goInt]
theorem pv_min {k : IntKind} {i j : Int} {ts : Array TypeId} (hx : ev L x = some (.int k i)) (hy : ev L y = some (.int k j)) :
    PV P S ⟨d, .call ⟨.builtin .min, #[x, y], ts⟩, ty, pos, af, g⟩ n L (.int k (if j < i then j else i)) := fun a w hF _ => by
  simp [execOp, resolve, invoke, builtin, hF.ev hx, hF.ev hy, Builtin.min_, Builtin.min2]
theorem pv_fieldAddr {fs : Array Field} {k off sz r : Nat} {f : Field} {b o : Nat} (hu : P.underlying t = some (.struct fs)) (hf : fs[k]? = some f) (hsz : (P.info? f.type).map (·.size) = some (sz + 1)) (ho : f.offset = off)
    (hx : ev L x = some (.pointer (some ⟨b, o, none⟩))) (hr : o + off = r) : PV P S ⟨d, .fieldAddr t x k, ty, pos, af, g⟩ n L (.pointer (some ⟨b, r, none⟩)) := fun a w hF _ => by
  subst hr
  obtain ⟨i, hi, hsz⟩ := Option.map_eq_some_iff.1 hsz
  subst ho
  simp [execOp, hF.ev hx, Instr.fieldAt, run_underlying hu, hf, Instr.sureAddr, fieldPlace, sizeOf, typeInfo, hi, hsz, Addr.add_lit]
theorem pv_indexAddr {k : IntKind} {b o m c sz : Nat} {i : Int} (hu : P.underlying t = some (.slice e)) (hsz : (P.info? e).map (·.size) = some sz) (hx : ev L x = some (.slice (some ⟨b, o, none⟩) m c)) (hy : ev L y = some (.int k i))
    (h0 : 0 ≤ i) (h1 : i < m) : PV P S ⟨d, .indexAddr t x y, ty, pos, af, g⟩ n L (.pointer (some ⟨b, o + i.toNat * sz, none⟩)) := fun a w hF _ => by
  obtain ⟨ii, hi, hsz⟩ := Option.map_eq_some_iff.1 hsz
  simp [execOp, hF.ev hx, hF.ev hy, Instr.indexAt, run_underlying hu, asIntOf, h0, h1, sizeOf, typeInfo, hi, hsz, Addr.add_lit]
theorem pv_ixN {k : IntKind} {b o m c sz i : Nat} (hu : P.underlying t = some (.slice e)) (hsz : (P.info? e).map (·.size) = some sz) (hx : ev L x = some (.slice (some ⟨b, o, none⟩) m c)) (hy : ev L y = some (.int k (i : Int)))
    (h1 : i < m) : PV P S ⟨d, .indexAddr t x y, ty, pos, af, g⟩ n L (.pointer (some ⟨b, o + i * sz, none⟩)) := by
  have := pv_indexAddr (S := S) (d := d) (ty := ty) (pos := pos) (af := af) (g := g) (n := n) hu hsz hx hy (by omega) (by omega)
  simpa using this
theorem run_load1 {w : World} {dd : TypeDesc} {ad : Addr} {v : Value} (hd : P.underlying t = some dd) (hna : (match dd with | .struct _ | .array _ _ => true | _ => false) = false) (hc : w.cell? ad = some v) :
    (loadVar t ad).run P w = .ok v w := by
  have hia : (isAgg t).run P w = .ok false w := by
    simp only [isAgg, Sem.run_bind, run_underlying hd, Result.andThen]
    cases dd <;> simp at hna <;> rfl
  simp [loadVar, hia, Result.andThen, run_load, hc]
theorem run_loadA {w : World} {dd : TypeDesc} {b o sz : Nat} {cs : List Value} (hd : P.underlying t = some dd) (hna : (match dd with | .struct _ | .array _ _ => true | _ => false) = true) (hsz : (P.info? t).map (·.size) = some sz)
    (hl : cs.length = sz) (hc : ∀ j v, cs[j]? = some v → w.cell? ⟨b, o + j, none⟩ = some v) : (loadVar t ⟨b, o, none⟩).run P w = .ok (.agg cs.toArray) w := by
  have hia : (isAgg t).run P w = .ok true w := by
    simp only [isAgg, Sem.run_bind, run_underlying hd, Result.andThen]
    cases dd <;> simp at hna <;> rfl
  obtain ⟨i, hi, hsz⟩ := Option.map_eq_some_iff.1 hsz
  subst hl
  have h := run_loadCells_list (P := P) w ⟨b, o, none⟩ cs (fun j v hv => by rw [Addr.add_lit]; exact hc j v hv)
  simp [loadVar, hia, Result.andThen, sizeOf, typeInfo, hi, hsz, h]
/-- A load of one cell. -/
theorem pv_load1 {dd : TypeDesc} {ad : Addr} {v : Value} (hd : P.underlying t = some dd) (hna : (match dd with | .struct _ | .array _ _ => true | _ => false) = false) (hx : ev L x = some (.pointer (some ad)))
    (hc : ∀ w, S w → w.cell? ad = some v) : PV P S ⟨d, .load t x, ty, pos, af, g⟩ n L v := fun a w hF hS => by
  simp [execOp, hF.ev hx, Instr.loadAt, Instr.sureAddr, run_load1 hd hna (hc w hS)]
/-- A load of a struct or an array. -/
theorem pv_loadA {dd : TypeDesc} {b o sz : Nat} {cs : List Value} (hd : P.underlying t = some dd) (hna : (match dd with | .struct _ | .array _ _ => true | _ => false) = true) (hsz : (P.info? t).map (·.size) = some sz) (hl : cs.length = sz)
    (hx : ev L x = some (.pointer (some ⟨b, o, none⟩))) (hc : ∀ w, S w → ∀ j v, cs[j]? = some v → w.cell? ⟨b, o + j, none⟩ = some v) : PV P S ⟨d, .load t x, ty, pos, af, g⟩ n L (.agg cs.toArray) := fun a w hF hS => by
  simp [execOp, hF.ev hx, Instr.loadAt, Instr.sureAddr, run_loadA hd hna hsz hl (hc w hS)]
/-- out of what the call owns -/
theorem pv_ldo {H : Hp} {s : Vw} {i b o : Nat} {l : List Value} {e : TypeId} {fz : Nat × Nat} {dd : TypeDesc} {v : Value} (hi : H[i]? = some (.obj b (.cells l.toArray e fz))) (hd : P.underlying t = some dd) (hna : (match dd with | .struct _ | .array _ _ => true | _ => false) = false)
    (hx : ev L x = some (.pointer (some ⟨b, o, none⟩))) (hv : l[o]? = some v) : PV P (Sk s H) ⟨d, .load t x, ty, pos, af, g⟩ n L v :=
  pv_load1 hd hna hx fun w hw => cell_of_list (hw.obj hi) o hv
theorem pv_ldO {H : Hp} {s : Vw} {i b sz : Nat} {l : List Value} {e : TypeId} {fz : Nat × Nat} {dd : TypeDesc} (hi : H[i]? = some (.obj b (.cells l.toArray e fz))) (hd : P.underlying t = some dd) (hna : (match dd with | .struct _ | .array _ _ => true | _ => false) = true) (hsz : (P.info? t).map (·.size) = some sz)
    (hx : ev L x = some (.pointer (some ⟨b, 0, none⟩))) (hl : l.length = sz) : PV P (Sk s H) ⟨d, .load t x, ty, pos, af, g⟩ n L (.agg l.toArray) :=
  pv_loadA hd hna hsz hl hx fun w hw j v hv => cell_of_list (hw.obj hi) (0 + j) (by simpa using hv)
/-- out of what is known of old memory -/
theorem pv_ldr {H : Hp} {s : Vw} {b o j : Nat} {cs : List Value} {dd : TypeDesc} {v : Value} (hr : RC s b o cs) (hd : P.underlying t = some dd) (hna : (match dd with | .struct _ | .array _ _ => true | _ => false) = false)
    (hx : ev L x = some (.pointer (some ⟨b, o + j, none⟩))) (hv : cs[j]? = some v) : PV P (Sk s H) ⟨d, .load t x, ty, pos, af, g⟩ n L v :=
  pv_load1 hd hna hx fun w hw => hw.rc hr hv
theorem pv_ldR {H : Hp} {s : Vw} {b o sz : Nat} {cs : List Value} {dd : TypeDesc} (hr : RC s b o cs) (hd : P.underlying t = some dd) (hna : (match dd with | .struct _ | .array _ _ => true | _ => false) = true) (hsz : (P.info? t).map (·.size) = some sz)
    (hx : ev L x = some (.pointer (some ⟨b, o, none⟩))) (hl : cs.length = sz) : PV P (Sk s H) ⟨d, .load t x, ty, pos, af, g⟩ n L (.agg cs.toArray) :=
  pv_loadA hd hna hsz hl hx fun w hw j v hv => hw.rc hr hv
theorem sliceBound_run {w : World} {k : IntKind} {i : Int} {y : Nat} {code : BoundsCode} (h0 : 0 ≤ i) (h1 : i ≤ y) : (Instr.sliceBound (.int k i) y code).run P w = .ok i.toNat w := by
  simp [Instr.sliceBound, asIntOf, h0, h1]
/-- x[:h] -/
theorem pv_slice_hi {k : IntKind} {i : Int} {b : Option Addr} {m c : Nat} (hu : P.underlying t = some (.slice e)) (hsz : (P.info? e).isSome = true) (hx : ev L x = some (.slice b m c)) (hy : ev L y = some (.int k i)) (h0 : 0 ≤ i) (h1 : i ≤ c) :
    PV P S ⟨d, .slice t x none (some y) none, ty, pos, af, g⟩ n L (.slice b i.toNat c) := fun a w hF _ => by
  obtain ⟨ii, hi⟩ := Option.isSome_iff_exists.1 hsz
  simp only [execOp, hF.ev hx, hF.ev hy, Instr.sliceAt, Option.map_some, Option.map_none]
  simp [run_underlying hu, Instr.slice, Instr.sliceBounds, sliceBound_run h0 h1, sizeOf, typeInfo, hi, Result.andThen]
  intro _
  cases b with
  | none => rfl
  | some z => exact congrArg some (Addr.add_zero' z)
theorem pv_slice_hi' {k : IntKind} {i : Int} {b : Option Addr} {m c k' : Nat} (hu : P.underlying t = some (.slice e)) (hsz : (P.info? e).isSome = true) (hx : ev L x = some (.slice b m c)) (hy : ev L y = some (.int k i)) (h0 : 0 ≤ i) (h1 : i ≤ c) (hk : i.toNat = k') :
    PV P S ⟨d, .slice t x none (some y) none, ty, pos, af, g⟩ n L (.slice b k' c) := hk ▸ pv_slice_hi hu hsz hx hy h0 h1
end mem
end pv
end
end K
end Go.Proofs.YtjjfpdofkdolnaaDoor
