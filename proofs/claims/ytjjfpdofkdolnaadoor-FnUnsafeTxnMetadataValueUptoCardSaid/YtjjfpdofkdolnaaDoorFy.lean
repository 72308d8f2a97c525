import Derived.Test.YtjjfpdofkdolnaaDoorFx
import Derived.Lib.AppendStr
import Derived.Laws.OwnMore
import Derived.Laws.MakeOwn
set_option linter.unusedVariables false
set_option linter.unusedSimpArgs false
namespace Go.Proofs.YtjjfpdofkdolnaaDoor
namespace K
open Go
section
variable {P : Program} {n : Nat} {L : Env} {H : Hp} {C : Cx} {s : Vw} {p : Post} {ops : Array Oper} {rest : List Oper} {K : Act → World → Prop}
variable {ty : TypeId} {pos : String} {af : Array Edge}

/-! ### 4. Operands in a row -/
def evs (L : Env) : List Operand → Option (List Value)
  | [] => some []
  | x :: r => match ev L x, evs L r with
    | some v, some vs => some (v :: vs)
    | _, _ => none
theorem Fr.evs {a : Act} (h : Fr n L a) : ∀ {l : List Operand} {vs : List Value}, evs L l = some vs → l.map a.eval = vs
  | [], vs, hv => by simp only [K.evs, Option.some.injEq] at hv; subst hv; rfl
  | x :: r, vs, hv => by
    simp only [K.evs] at hv
    cases hx : K.ev L x with
    | none => simp [hx] at hv
    | some v =>
      cases hr : K.evs L r with
      | none => simp [hx, hr] at hv
      | some us =>
        simp only [hx, hr, Option.some.injEq] at hv
        subst hv
        simp [h.ev hx, h.evs hr]
def evPs (L : Env) : List (Nat × Operand) → Option (List (Nat × Value))
  | [] => some []
  | x :: r => match ev L x.2, evPs L r with
    | some v, some vs => some ((x.1, v) :: vs)
    | _, _ => none
theorem Fr.evPs {a : Act} (h : Fr n L a) : ∀ {l : List (Nat × Operand)} {vs : List (Nat × Value)}, evPs L l = some vs → l.map (fun (i, x) => (i, a.eval x)) = vs
  | [], vs, hv => by simp only [K.evPs, Option.some.injEq] at hv; subst hv; rfl
  | x :: r, vs, hv => by
    simp only [K.evPs] at hv
    cases hx : K.ev L x.2 with
    | none => simp [hx] at hv
    | some v =>
      cases hr : K.evPs L r with
      | none => simp [hx, hr] at hv
      | some us =>
        simp only [hx, hr, Option.some.injEq] at hv
        subst hv
        simp [h.ev hx, h.evPs hr]

/-! ### 5. What makes memory -/
/-- A type's row of the table. -/
def TI (P : Program) (t : TypeId) (z : Value) (sz by_ : Nat) : Prop := (P.info? t).map (fun i => (i.zero, i.size, i.bytes)) = some (some z, sz, by_)
theorem TI.size {t : TypeId} {z : Value} {sz by_ : Nat} (h : TI P t z sz by_) : (P.info? t).map (·.size) = some sz := by
  obtain ⟨i, hi, h1, h2, h3⟩ := info_parts h
  simp [hi, h2]
theorem ln_new {d : Nat} {op : Op} {l : List Value} {e : TypeId} (hrun : ∀ a w, Fr n L a → (execOp a.eval ⟨some d, op, ty, pos, af, none⟩).run P w = .ok (.value (.pointer (some ⟨w.heap.size, 0, none⟩))) (w.alloc (.cells l.toArray e)))
    (hd : Nat.blt d n = true) (k : ∀ b, Ln P ops rest K n ((d, .pointer (some ⟨b, 0, none⟩)) :: L) (.obj b (.cells l.toArray e) :: H) C s) : Ln P ops (⟨some d, op, ty, pos, af, none⟩ :: rest) K n L H C s :=
  fun a w hF hS => wpl_val rfl (hrun a w hF) (k w.heap.size _ _ (hF.put d _ hd) (hS.new _))
theorem ln_box {d : Nat} {t : TypeId} {x : Operand} {v : Value} {l : List Value} (hx : ev L x = some v) (hl : v.cells = l.toArray)
    (hd : Nat.blt d n = true) (k : ∀ b, Ln P ops rest K n ((d, .pointer (some ⟨b, 0, none⟩)) :: L) (.obj b (.cells l.toArray t) :: H) C s) : Ln P ops (⟨some d, .box t x, ty, pos, af, none⟩ :: rest) K n L H C s :=
  ln_new (fun a w hF => by simp [execOp, hF.ev hx, Instr.box, newVar, newRow, hl]) hd k
theorem ln_alloc {d : Nat} {t : TypeId} {z : Value} {sz by_ : Nat} {l : List Value} (hz : TI P t z sz by_) (hl : z.cells = l.toArray)
    (hd : Nat.blt d n = true) (k : ∀ b, Ln P ops rest K n ((d, .pointer (some ⟨b, 0, none⟩)) :: L) (.obj b (.cells l.toArray t) :: H) C s) : Ln P ops (⟨some d, .alloc t, ty, pos, af, none⟩ :: rest) K n L H C s :=
  ln_new (fun a w hF => by
    obtain ⟨i, hi, h1, h2, h3⟩ := info_parts hz
    simp [execOp, Instr.alloc, zeroValue, typeInfo, hi, h1, newVar, newRow, hl]) hd k
theorem pv_build {S : World → Prop} {d : Option Nat} {g : Option (Nat × Bool)} {t : TypeId} {ps : List (Nat × Operand)} {vs : List (Nat × Value)} {v : Value} (hp : evPs L ps = some vs) (hb : ∀ w, (Instr.build t vs.toArray).run P w = .ok v w) :
    PV P S ⟨d, .build t ps.toArray, ty, pos, af, g⟩ n L v := fun a w hF _ => by
  have := hF.evPs hp
  simp [execOp, this, hb]
theorem ln_buildSlice {d m : Nat} {t e : TypeId} {ps : List (Nat × Operand)} {vs : List (Nat × Value)} {l : List Value} (hp : evPs L ps = some vs)
    (hb : ∀ w, (Instr.buildSlice t m vs.toArray).run P w = .ok (.slice (some ⟨w.heap.size, 0, none⟩) m m) (w.alloc (.cells l.toArray e)))
    (hd : Nat.blt d n = true) (k : ∀ b, Ln P ops rest K n ((d, .slice (some ⟨b, 0, none⟩) m m) :: L) (.obj b (.cells l.toArray e) :: H) C s) : Ln P ops (⟨some d, .buildSlice t m ps.toArray, ty, pos, af, none⟩ :: rest) K n L H C s :=
  fun a w hF hS => wpl_val (w' := w.alloc (.cells l.toArray e)) rfl (by have := hF.evPs hp; simp [execOp, this, hb]) (k w.heap.size _ _ (hF.put d _ hd) (hS.new _))

/-! ### 6. Stores -/
theorem heap_setCell_list {w : World} {b : Nat} {l : List Value} {t : TypeId} (h : w.heap[b]? = some (.cells l.toArray t)) (o : Nat) (v : Value) : (w.setCell ⟨b, o, none⟩ v).heap[b]? = some (.cells (l.set o v).toArray t) := by
  simp only [World.setCell, Array.getElem?_modify, if_true, h]
  simp
theorem run_storeList : ∀ (vs : List Value) (w : World) (b o i : Nat) (l : List Value) (t : TypeId), w.heap[b]? = some (.cells l.toArray t) → o + i + vs.length ≤ l.length → (∀ v ∈ vs, v.oneCell' = true) →
    ∃ w', (storeCells ⟨b, o, none⟩ vs i).run P w = .ok () w' ∧ w'.heap[b]? = some (.cells (l.take (o + i) ++ vs ++ l.drop (o + i + vs.length)).toArray t) ∧ Mod (fun x => x = b) w w'
  | [], w, b, o, i, l, t, h, hl, _ => ⟨w, by simp [storeCells], by simpa using h, Mod.refl _ _⟩
  | v :: r, w, b, o, i, l, t, h, hl, h1 => by
    simp only [List.length_cons] at hl
    have hc : w.cell? ⟨b, o + i, none⟩ = some (l[o + i]'(by omega)) := cell_of_list h _ (by simp)
    have hf : w.frozen? ⟨b, o + i, none⟩ = false := by simp [World.frozen?, h]
    have h2 := heap_setCell_list h (o + i) v
    obtain ⟨w', hr, hh, hm⟩ := run_storeList r (w.setCell ⟨b, o + i, none⟩ v) b o (i + 1) (l.set (o + i) v) t h2 (by simp; omega) (fun u hu => h1 u (List.mem_cons_of_mem _ hu))
    refine ⟨w', ?_, ?_, ?_⟩
    · have hs := run_store P w ⟨b, o + i, none⟩ v .plain (h1 v List.mem_cons_self)
      simp only [storeCells, Sem.run_bind, Addr.add_lit]
      rw [hs]
      simp only [hc, hf, Bool.false_eq_true, if_false, Result.andThen]
      exact hr
    · rw [hh]
      have e : o + (i + 1) = o + i + 1 := by omega
      rw [e]
      have ht : (l.set (o + i) v).take (o + i + 1) = l.take (o + i) ++ [v] := by
        rw [List.take_succ_eq_append_getElem (by simp; omega)]
        simp [List.take_set_of_le]
      have hdr : (l.set (o + i) v).drop (o + i + 1 + r.length) = l.drop (o + i + (r.length + 1)) := by
        rw [List.drop_set_of_lt (by omega)]
        congr 1
        omega
      rw [ht, hdr]
      simp
    · exact (Mod.setCell w ⟨b, o + i, none⟩ v (by rfl)).trans hm fun _ _ h => h
def wr (l : List Value) (o : Nat) (vs : List Value) : List Value := l.take o ++ vs ++ l.drop (o + vs.length)
theorem ln_store {i b o : Nat} {t e : TypeId} {x y : Operand} {l vs l' : List Value} {v : Value} (hi : H[i]? = some (.obj b (.cells l.toArray e))) (hx : ev L x = some (.pointer (some ⟨b, o, none⟩))) (hy : ev L y = some v)
    (hv : v.cells = vs.toArray) (hsz : (P.info? t).map (·.size) = some vs.length) (hl : Nat.ble (o + vs.length) l.length = true) (h1 : vs.all (·.oneCell') = true) (hl' : wr l o vs = l')
    (k : Ln P ops rest K n L (H.set i (.obj b (.cells l'.toArray e))) C s) : Ln P ops (⟨none, .store t x y, ty, pos, af, none⟩ :: rest) K n L H C s := fun a w hF hS => by
  have hb := hS.sk.obj hi
  obtain ⟨ii, hii, hsz⟩ := Option.map_eq_some_iff.1 hsz
  obtain ⟨w', hr, hh, hm⟩ := run_storeList (P := P) vs w b o 0 l e hb (by simpa [Nat.ble_eq] using hl) (fun u hu => List.all_eq_true.1 h1 u hu)
  refine wpl_skip rfl (w' := w') ?_ (k _ _ hF (hS.turn (e' := .obj b (.cells l'.toArray e)) hi (by simpa [Ent.blk] using hm) (by subst hl'; simpa [Ent.ok, wr] using hh) (by simp [Ent.blk]) (by simp [Ent.blk])))
  simp only [execOp, hF.ev hx, hF.ev hy, Instr.storeAt, Instr.sureAddr, storeVar]
  simp [sizeOf, typeInfo, hii, hsz, hv, hr, Result.andThen]

/-- the whole of it -/
theorem ln_storeW {i b : Nat} {t e : TypeId} {x y : Operand} {l vs : List Value} {v : Value} (hi : H[i]? = some (.obj b (.cells l.toArray e))) (hx : ev L x = some (.pointer (some ⟨b, 0, none⟩))) (hy : ev L y = some v)
    (hv : v.cells = vs.toArray) (hsz : (P.info? t).map (·.size) = some l.length) (hl : vs.length = l.length) (h1 : ∀ u ∈ vs, u.oneCell' = true)
    (k : Ln P ops rest K n L (H.set i (.obj b (.cells vs.toArray e))) C s) : Ln P ops (⟨none, .store t x y, ty, pos, af, none⟩ :: rest) K n L H C s :=
  ln_store (vs := vs) hi hx hy hv (by rw [hl]; exact hsz) (by simp [hl, Nat.ble_eq]) (List.all_eq_true.2 h1) (by simp [wr, hl]) k
/-- one cell of it -/
theorem ln_store1 {i b o : Nat} {t e : TypeId} {x y : Operand} {l : List Value} {v : Value} (hi : H[i]? = some (.obj b (.cells l.toArray e))) (hx : ev L x = some (.pointer (some ⟨b, o, none⟩))) (hy : ev L y = some v)
    (h1 : v.oneCell' = true) (hsz : (P.info? t).map (·.size) = some 1) (hl : Nat.ble (o + 1) l.length = true)
    (k : Ln P ops rest K n L (H.set i (.obj b (.cells (l.set o v).toArray e))) C s) : Ln P ops (⟨none, .store t x y, ty, pos, af, none⟩ :: rest) K n L H C s :=
  ln_store (vs := [v]) hi hx hy (by cases v <;> first | rfl | simp [Value.oneCell'] at h1) hsz hl (by simp [h1]) (by
    have hl' : o + 1 ≤ l.length := by simpa [Nat.ble_eq] using hl
    simp only [wr, List.length_singleton]
    rw [List.set_eq_take_append_cons_drop, if_pos (by omega)]
    simp) k

/-! ### 7. Calls -/
def Enters (P : Program) (f : FuncId) : Prop := ∀ (args : Array Value) (w : World), (callFunc f args).run P w = .ok (.enter f args) w
theorem enters_of {f : FuncId} {fn : Func} {c : Code} (hf : P.funcs[f]? = some fn) (hname : (fn.name == "runtime.NumGoroutine") = false) (hb : fn.body = some c) : Enters P f := by
  intro args w
  have h1 : fn.name ≠ "runtime.NumGoroutine" := by simpa using hname
  simp [callFunc, hf, h1, hb, mark]
theorem run_call {f : FuncId} (hent : Enters P f) {a : Act} {args : List Operand} {ts : Array TypeId} {d : Option Nat} {g : Option (Nat × Bool)} (w : World) :
    (execOp a.eval ⟨d, .call ⟨.value (.func f), args.toArray, ts⟩, ty, pos, af, g⟩).run P w = .ok (.enter f (args.map a.eval).toArray) w := by
  have h := hent (args.map a.eval).toArray w
  simp [execOp, resolve, Act.eval, Deferred.ofValue, invoke]
  simpa using h
/-- What a call gives: a value, and of it something at the view behind the call. -/
def CA (P : Program) (f : FuncId) (vals : List Value) (t : Vw) (R : Vw → Value → Prop) : Prop :=
  Calls P f vals.toArray t.w fun e w' => ∃ v, e = .returned v ∧ ∃ h : (∀ b, t.av b → b < w'.heap.size), Mod No t.w w' ∧ R ⟨w', t.av, h⟩ v
theorem CA.mono {f : FuncId} {vals : List Value} {t : Vw} {R R' : Vw → Value → Prop} (h : CA P f vals t R) (hr : ∀ u v, Tr t u → R u v → R' u v) : CA P f vals t R' :=
  Calls.mono h fun e w' ⟨v, he, hlt, hm, hR⟩ => ⟨v, he, hlt, hm, hr _ _ ⟨hm.no, fun b h => .inl h⟩ hR⟩
theorem ln_callA {f d : Nat} {args : List Operand} {ts : Array TypeId} {vals : List Value} {R : Vw → Value → Prop} (hent : Enters P f) (hargs : evs L args = some vals) (hc : ∀ t, Tr s t → CA P f vals t R)
    (hd : Nat.blt d n = true) (k : ∀ t v, Tr s t → R t v → Ln P ops rest K n ((d, v) :: L) H C t) : Ln P ops (⟨some d, .call ⟨.value (.func f), args.toArray, ts⟩, ty, pos, af, none⟩ :: rest) K n L H C s := fun a w hF hS => by
  have hr := run_call (P := P) (ty := ty) (pos := pos) (af := af) hent (a := a) (args := args) (ts := ts) (d := some d) (g := none) w
  rw [hF.evs hargs] at hr
  refine wpl_enter rfl hr (hc hS.vw hS.tr) ?_
  rintro v w' ⟨hlt, hm, hR⟩
  have htr : Tr hS.vw ⟨w', hS.vw.av, hlt⟩ := ⟨hm.no, fun b h => .inl h⟩
  refine k _ v (hS.tr.trans htr) hR _ _ (hF.put d v hd) ?_
  exact ⟨hS.whole.trans hm fun _ _ h => h.elim, Mod.refl _ _, hS.hf.mod hm fun _ _ h => h, fun b hb => ⟨.inl (.inl hb), (hS.own b hb).2⟩, hS.nd, fun b hb => .inr (hS.up b hb)⟩
/-- .. a value that is known; the base stays. -/
def CS (P : Program) (f : FuncId) (vals : List Value) (t : Vw) (v : Value) : Prop := Calls P f vals.toArray t.w fun e w' => e = .returned v ∧ Mod No t.w w'
theorem ln_callS {f d : Nat} {args : List Operand} {ts : Array TypeId} {vals : List Value} {v : Value} (hent : Enters P f) (hargs : evs L args = some vals) (hc : ∀ t, Tr s t → CS P f vals t v)
    (hd : Nat.blt d n = true) (k : Ln P ops rest K n ((d, v) :: L) H C s) : Ln P ops (⟨some d, .call ⟨.value (.func f), args.toArray, ts⟩, ty, pos, af, none⟩ :: rest) K n L H C s := fun a w hF hS => by
  have hr := run_call (P := P) (ty := ty) (pos := pos) (af := af) hent (a := a) (args := args) (ts := ts) (d := some d) (g := none) w
  rw [hF.evs hargs] at hr
  refine wpl_enter (R := fun u w' => u = v ∧ Mod No w w') rfl hr ((hc hS.vw hS.tr).mono fun e w' ⟨he, hm⟩ => ⟨v, he, rfl, hm⟩) ?_
  rintro u w' ⟨rfl, hm⟩
  exact k _ _ (hF.put d _ hd) (hS.step hm)
/-- .. that turns entry i alone. -/
def CT (P : Program) (f : FuncId) (vals : List Value) (t : Vw) (e : Ent) (R : Vw → Value → Ent → Prop) : Prop :=
  Calls P f vals.toArray t.w fun x w' => ∃ (v : Value) (e' : Ent), x = .returned v ∧ e'.ok w' ∧ (∀ b ∈ e'.blk, b ∈ e.blk ∨ t.w.heap.size ≤ b) ∧ e'.blk.Nodup ∧ Mod (fun b => b ∈ e.blk) t.w w' ∧
    ∃ h : (∀ b, t.av b ∨ b ∈ e'.blk → b < w'.heap.size), R ⟨w', fun b => t.av b ∨ b ∈ e'.blk, h⟩ v e'
theorem ln_callT {f d i : Nat} {args : List Operand} {ts : Array TypeId} {vals : List Value} {e : Ent} {R : Vw → Value → Ent → Prop} (hent : Enters P f) (hargs : evs L args = some vals) (hi : H[i]? = some e)
    (hc : ∀ t, Tr s t → e.ok t.w → (∀ b ∈ e.blk, t.av b) → CT P f vals t e R)
    (hd : Nat.blt d n = true) (k : ∀ t v e', Tr s t → (∃ u, R u v e' ∧ Tr u t) → Ln P ops rest K n ((d, v) :: L) (H.set i e') C t) : Ln P ops (⟨some d, .call ⟨.value (.func f), args.toArray, ts⟩, ty, pos, af, none⟩ :: rest) K n L H C s := fun a w hF hS => by
  have hr := run_call (P := P) (ty := ty) (pos := pos) (af := af) hent (a := a) (args := args) (ts := ts) (d := some d) (g := none) w
  rw [hF.evs hargs] at hr
  have hin : ∀ b ∈ e.blk, b ∈ blks H := fun b hb => List.mem_flatMap.2 ⟨e, List.mem_of_getElem? hi, hb⟩
  refine wpl_enter (R := fun v w' => ∃ e' : Ent, e'.ok w' ∧ (∀ b ∈ e'.blk, b ∈ e.blk ∨ w.heap.size ≤ b) ∧ e'.blk.Nodup ∧ Mod (fun b => b ∈ e.blk) w w' ∧ ∃ h : (∀ b, hS.vw.av b ∨ b ∈ e'.blk → b < w'.heap.size), R ⟨w', fun b => hS.vw.av b ∨ b ∈ e'.blk, h⟩ v e') rfl hr
    ((hc hS.vw hS.tr (hS.hf e (List.mem_of_getElem? hi)) (fun b hb => .inl (hin b hb))).mono fun x w' ⟨v, e', he, h1, h2, h3, h4, h5, h6⟩ => ⟨v, he, e', h1, h2, h3, h4, h5, h6⟩) ?_
  rintro v w' ⟨e', hok, hb, hnd, hm, hlt, hR⟩
  have hS' := hS.turn hi hm hok hb hnd
  refine k hS'.vw v e' hS'.tr ⟨_, hR, ?_⟩ _ _ (hF.put d v hd) hS'.rebase
  refine ⟨Mod.refl _ _, fun b hb' => ?_⟩
  rcases hb' with hb' | hb'
  · rcases blks_set_mem hi hb' with h1 | h1
    · exact .inl (.inr h1)
    · exact .inl (.inl (.inl h1))
  · exact .inl (.inl (.inr hb'))
end
end K
end Go.Proofs.YtjjfpdofkdolnaaDoor
