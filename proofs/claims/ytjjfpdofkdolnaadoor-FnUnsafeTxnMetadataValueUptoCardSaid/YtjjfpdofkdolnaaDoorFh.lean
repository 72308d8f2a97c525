import Derived.Test.YtjjfpdofkdolnaaDoorFn
import Derived.Maps.RangeRun
set_option linter.unusedVariables false
set_option linter.unusedSimpArgs false
namespace Go.Proofs.YtjjfpdofkdolnaaDoor
namespace K
open Go Go.Lib
section
variable {P : Program} {n : Nat} {L : Env} {H H0 E E' : Hp} {C : Cx} {s : Vw} {p : Post} {ops : Array Oper} {rest : List Oper} {K : Act → World → Prop}
variable {ty : TypeId} {pos : String} {af : Array Edge}
/-! ### Calls that turn several owned entries at once -/
theorem blks_append (A B : Hp) : blks (A ++ B) = blks A ++ blks B := by simp [blks, List.flatMap_append]
theorem St.turnH {w w' : World} (h : St C s (E ++ H0) w) (hm : Mod (fun b => b ∈ blks E) w w') (hok : HF E' w') (hb : ∀ b ∈ blks E', b ∈ blks E ∨ w.heap.size ≤ b) (hnd : (blks E').Nodup) : St C s (E' ++ H0) w' := by
  have hnd0 := h.nd
  rw [blks_append] at hnd0
  obtain ⟨n1, n2, n3⟩ := List.nodup_append.1 hnd0
  have hin : ∀ b ∈ blks E, b ∈ blks (E ++ H0) := fun b hb => by rw [blks_append]; exact List.mem_append.2 (.inl hb)
  have hlt2 : ∀ b ∈ blks H0, b < w.heap.size := fun b hb => h.hf.lt (by rw [blks_append]; exact List.mem_append.2 (.inr hb))
  refine ⟨h.base, h.mod.trans hm fun b hbl hb => ?_, ?_, ?_, ?_, h.up⟩
  · have := h.own b (hin b hb)
    exact ⟨this.1.resolve_right (by omega), this.2⟩
  · intro x hx
    rcases List.mem_append.1 hx with hx1 | hx1
    · exact hok x hx1
    · refine (h.hf x (by simp [hx1])).mod hm fun b hb hb' => ?_
      exact n3 b hb' b (List.mem_flatMap.2 ⟨x, hx1, hb⟩) rfl
  · intro b hbm
    rw [blks_append] at hbm
    rcases List.mem_append.1 hbm with hbm | hbm
    · rcases hb b hbm with hb' | hb'
      · exact h.own b (hin b hb')
      · exact ⟨.inr (Nat.le_trans h.mod.size hb'), .inr (Nat.le_trans (Nat.le_trans h.base.size h.mod.size) hb')⟩
    · exact h.own b (by rw [blks_append]; exact List.mem_append.2 (.inr hbm))
  · rw [blks_append]
    refine List.nodup_append.2 ⟨hnd, n2, fun a ha b hb' hab => ?_⟩
    subst hab
    rcases hb a ha with h1 | h1
    · exact n3 a h1 a hb' rfl
    · have := hlt2 a hb'; omega
theorem St.perm {w : World} {H' : Hp} (h : St C s H w) (hp : H.Perm H') : St C s H' w :=
  ⟨h.base, h.mod, fun e he => h.hf e (hp.mem_iff.2 he), fun b hb => h.own b (by
    obtain ⟨e, he, hb⟩ := List.mem_flatMap.1 hb
    exact List.mem_flatMap.2 ⟨e, hp.mem_iff.2 he, hb⟩), (List.Perm.nodup_iff (List.Perm.flatMap_right _ hp)).1 h.nd, h.up⟩
theorem ln_perm {l : List Oper} {H' : Hp} (hp : H.Perm H') (h : Ln P ops l K n L H' C s) : Ln P ops l K n L H C s := fun a w hF hS => h a w hF (hS.perm hp)
theorem cd_perm {c : Code} {H' : Hp} (hp : H.Perm H') (h : Cd P c p n L H' C s) : Cd P c p n L H C s := fun a w hF hS => h a w hF (hS.perm hp)
theorem at_perm {H' : Hp} (hp : H.Perm H') (h : At K n L H' C s) : At K n L H C s := fun a w hF hS => h a w hF (hS.perm hp)
def CH (P : Program) (f : FuncId) (vals : List Value) (t : Vw) (E : Hp) (R : Vw → Value → Hp → Prop) : Prop :=
  Calls P f vals.toArray t.w fun x w' => ∃ (v : Value) (E' : Hp), x = .returned v ∧ HF E' w' ∧ (∀ b ∈ blks E', b ∈ blks E ∨ t.w.heap.size ≤ b) ∧ (blks E').Nodup ∧ Mod (fun b => b ∈ blks E) t.w w' ∧
    ∃ h : (∀ b, t.av b ∨ b ∈ blks E' → b < w'.heap.size), R ⟨w', fun b => t.av b ∨ b ∈ blks E', h⟩ v E'
def putd (d : Option Nat) (v : Value) (L : Env) : Env := match d with | some d => (d, v) :: L | none => L
def okd (d : Option Nat) (n : Nat) : Bool := match d with | some d => Nat.blt d n | none => true
theorem ln_callH {f : FuncId} {d : Option Nat} {args : List Operand} {ts : Array TypeId} {vals : List Value} {R : Vw → Value → Hp → Prop} {E H0 : Hp} (hH : H.Perm (E ++ H0)) (hent : Enters P f) (hargs : evs L args = some vals)
    (hc : ∀ t, Tr s t → HF E t.w → (∀ b ∈ blks E, t.av b) → (blks E).Nodup → CH P f vals t E R)
    (hd : okd d n = true) (k : ∀ t v E', Tr s t → (∃ u, R u v E' ∧ Tr u t) → Ln P ops rest K n (putd d v L) (E' ++ H0) C t) : Ln P ops (⟨d, .call ⟨.value (.func f), args.toArray, ts⟩, ty, pos, af, none⟩ :: rest) K n L H C s := fun a w hF hS0 => by
  have hS := hS0.perm hH
  have hr := run_call (P := P) (ty := ty) (pos := pos) (af := af) hent (a := a) (args := args) (ts := ts) (d := d) (g := none) w
  rw [hF.evs hargs] at hr
  have hin : ∀ b ∈ blks E, b ∈ blks (E ++ H0) := fun b hb => by rw [blks_append]; exact List.mem_append.2 (.inl hb)
  have hndE : (blks E).Nodup := by have := hS.nd; rw [blks_append] at this; exact (List.nodup_append.1 this).1
  refine wpl_enter (R := fun v w' => ∃ E' : Hp, HF E' w' ∧ (∀ b ∈ blks E', b ∈ blks E ∨ w.heap.size ≤ b) ∧ (blks E').Nodup ∧ Mod (fun b => b ∈ blks E) w w' ∧ ∃ h : (∀ b, hS.vw.av b ∨ b ∈ blks E' → b < w'.heap.size), R ⟨w', fun b => hS.vw.av b ∨ b ∈ blks E', h⟩ v E') rfl hr
    ((hc hS.vw hS.tr (fun e he => hS.hf e (List.mem_append.2 (.inl he))) (fun b hb => .inl (hin b hb)) hndE).mono fun x w' ⟨v, E', he, h1, h2, h3, h4, h5, h6⟩ => ⟨v, he, E', h1, h2, h3, h4, h5, h6⟩) ?_
  rintro v w' ⟨E', hok, hb, hnd, hm, hlt, hR⟩
  have hS' := hS.turnH hm hok hb hnd
  have hFr : Fr n (putd d v L) (a.put d v) := by
    cases d with
    | some d => exact hF.put d v hd
    | none => exact hF
  refine k hS'.vw v E' hS'.tr ⟨_, hR, ?_⟩ _ _ hFr hS'.rebase
  refine ⟨Mod.refl _ _, fun b hb' => ?_⟩
  rcases hb' with hb' | hb'
  · rw [blks_append] at hb'
    rcases List.mem_append.1 hb' with h1 | h1
    · exact .inl (.inr h1)
    · exact .inl (.inl (.inl (by rw [blks_append]; exact List.mem_append.2 (.inr h1))))
  · exact .inl (.inl (.inr hb'))
def rpH (P : Program) (fn : Func) (t : Vw) (E : Hp) (R : Vw → Value → Hp → Prop) : Act → World → Prop := fun a w =>
  a.defers = [] ∧ ∃ v, (results fn a.tmps).run P w = .ok v w ∧ ∃ E' : Hp, HF E' w ∧ (∀ b ∈ blks E', b ∈ blks E ∨ t.w.heap.size ≤ b) ∧ (blks E').Nodup ∧ Mod (fun b => b ∈ blks E) t.w w ∧
    ∃ h : (∀ b, t.av b ∨ b ∈ blks E' → b < w.heap.size), R ⟨w, fun b => t.av b ∨ b ∈ blks E', h⟩ v E'
theorem ch_enter {f : FuncId} {fn : Func} {c : Code} {vals : List Value} {t : Vw} {R : Vw → Value → Hp → Prop} (hf : P.funcs[f]? = some fn) (hb : fn.body = some c) (hn : fn.ntmps = n) (hl : Nat.ble vals.length n = true)
    (hok : HF E t.w) (hav : ∀ b ∈ blks E, t.av b) (hnd : (blks E).Nodup)
    (h : Cd P c ⟨rpH P fn t E R, rpH P fn t E R, []⟩ n (argEnv 0 vals) E ⟨t, fun b => b ∈ blks E⟩ t) : CH P f vals t E R := by
  refine calls_of_wp hf hb ?_
  subst hn
  refine Code.wp_mono ?_ (h _ t.w (Fr.start vals _ hl) (St.start t _ E hok (fun b hb => ⟨hav b hb, hb⟩) hnd))
  intro e a w hq
  cases e with
  | normal => obtain ⟨h1, v, h2, e', h3⟩ := hq; exact ⟨h1, v, h2, v, e', rfl, h3⟩
  | ret => obtain ⟨h1, v, h2, e', h3⟩ := hq; exact ⟨h1, v, h2, v, e', rfl, h3⟩
  | exit id => exact (hq : False).elim
  | goto l => exact (hq : False).elim
  | panic l => exact (hq : False).elim
  | outgrown => exact (hq : False).elim
def St.finH {w : World} (h : St C s H w) (E' : Hp) (hs : E'.Sublist H) : Vw := ⟨w, fun b => C.t.av b ∨ b ∈ blks E', fun b hb => hb.elim (fun hb => Nat.lt_of_lt_of_le (C.t.lt b hb) h.whole.size) fun hb => h.hf.lt ((blks_sub hs).subset hb)⟩
theorem St.trFinH {w : World} (h : St C s H w) (E' : Hp) (hs : E'.Sublist H) : Tr s (h.finH E' hs) :=
  ⟨h.mod.mono fun _ _ h => h.1, fun b hb => hb.elim (fun hb => .inl (h.up b hb)) fun hb => (h.own b ((blks_sub hs).subset hb)).1⟩
theorem at_retH0 {fn : Func} {t : Vw} {R : Vw → Value → Hp → Prop} (E' : Hp) (hs : E'.Sublist H) (hr : fn.results = #[])
    (h : ∀ w, ∀ hS : St ⟨t, fun b => b ∈ blks E⟩ s H w, R (hS.finH E' hs) (.tuple #[]) E') : At (rpH P fn t E R) n L H ⟨t, fun b => b ∈ blks E⟩ s := fun a w hF hS =>
  ⟨hF.df, .tuple #[], results_none hr _ _ _, E', fun e he => hS.hf e (hs.subset he), fun b hb => (hS.own b ((blks_sub hs).subset hb)).2, hS.nd.sublist (blks_sub hs), hS.whole, (hS.finH E' hs).lt, h w hS⟩
/-! ### Whole blocks of old memory -/
def OB (s : Vw) (b : Nat) (o : Obj) : Prop := ¬ s.av b ∧ s.w.heap[b]? = some o
theorem OB.mv {t : Vw} {b : Nat} {o : Obj} (h : OB s b o) (ht : Tr s t) : OB t b o := by
  have h0 : b < s.w.heap.size := (Array.getElem?_eq_some_iff.1 h.2).1
  exact ⟨fun hb => (ht.av b hb).elim h.1 (by omega), (ht.mod.block b h0 h.1).trans h.2⟩
theorem OB.rc {b : Nat} {l : List Value} {e : TypeId} {fz : Nat × Nat} (h : OB s b (.cells l.toArray e fz)) : RC s b 0 l := ⟨h.1, fun j v hv => cell_of_list h.2 _ (by simpa using hv)⟩
theorem Sk.ob {b : Nat} {o : Obj} (h : OB s b o) {w : World} (hw : Sk s H w) : w.heap[b]? = some o := (hw.1.block b (Array.getElem?_eq_some_iff.1 h.2).1 h.1).trans h.2
def Known (t : Vw) : Ent → Prop
  | .obj b o => OB t b o
  | .row v e sz m xs => t.w.ownsRow 0 e sz v m xs ∧ ∀ b, v.ownBlock = some b → ¬ t.av b
theorem Known.rs {t : Vw} {v : Value} {e : TypeId} {sz m : Nat} {xs : List Value} (h : Known t (.row v e sz m xs)) (h1 : ∀ u ∈ xs, u.oneCell' = true) : RS t sz v m xs := Row.rs h.1 h.2 h1
/-- What a call that turns e has made besides. -/
theorem obT {t : Vw} {e e' : Ent} {w : World} {i j b : Nat} {o : Obj} (hS : St ⟨t, fun b => b ∈ e.blk⟩ s H w) (he : ∀ b ∈ e.blk, b ∈ e'.blk) (hi : H[i]? = some e') (hj : H[j]? = some (.obj b o)) (hij : i ≠ j) : OB (hS.finT e' (List.mem_of_getElem? hi)) b o := by
  have hnd := hS.nd
  have hbj : b ∉ e'.blk := by
    intro hb
    obtain ⟨H1, H2, hH, hl, _⟩ := set_split hi
    subst hH
    simp only [blks, List.flatMap_append, List.flatMap_cons] at hnd
    obtain ⟨n1, n2, n3⟩ := List.nodup_append.1 hnd
    obtain ⟨n4, n5, n6⟩ := List.nodup_append.1 n2
    rcases Nat.lt_or_ge j i with h | h
    · have hm : Ent.obj b o ∈ H1 := by rw [List.getElem?_append_left (by omega)] at hj; exact List.mem_of_getElem? hj
      exact n3 b (List.mem_flatMap.2 ⟨_, hm, by simp [Ent.blk]⟩) b (List.mem_append.2 (.inl hb)) rfl
    · have hm : Ent.obj b o ∈ H2 := by
        rw [List.getElem?_append_right (by omega), List.getElem?_cons] at hj
        rw [if_neg (by omega)] at hj
        exact List.mem_of_getElem? hj
      exact n6 b hb b (List.mem_flatMap.2 ⟨_, hm, by simp [Ent.blk]⟩) rfl
  refine ⟨fun h => ?_, hS.hf _ (List.mem_of_getElem? hj)⟩
  rcases h with h | h
  · have h1 := hS.own b (List.mem_flatMap.2 ⟨_, List.mem_of_getElem? hj, by simp [Ent.blk]⟩)
    have h2 := t.lt b h
    rcases h1.2 with h3 | h3
    · exact hbj (he b h3)
    · exact absurd h3 (by show ¬ t.w.heap.size ≤ b; omega)
  · exact hbj h
/-! ### Maps -/
theorem mod_set {w : World} {r : Nat} {o o' : Obj} (h : w.heap[r]? = some o) : Mod (fun b => b = r) w { w with heap := w.heap.setIfInBounds r o' } :=
  ⟨rfl, rfl, rfl, by simp, fun k hk hn => (MapKept.heap_set h).2 k hn⟩
theorem ln_makeMap {d : Nat} {t : TypeId} (hd : Nat.blt d n = true) (k : ∀ m, Ln P ops rest K n ((d, .map (some m)) :: L) (.obj m (.map #[] 0) :: H) C s) : Ln P ops (⟨some d, .makeMap t none, ty, pos, af, none⟩ :: rest) K n L H C s := fun a w hF hS =>
  wpl_val (w' := w.alloc (.map #[] 0)) rfl (by simp [execOp, Instr.makeMap]) (k w.heap.size _ _ (hF.put d _ hd) (hS.new _))
theorem ln_mapSet {i m ck : Nat} {t kt et : TypeId} {x y z : Operand} {es : Array MapEntry} {q : Int} {v : Value} (hi : H[i]? = some (.obj m (.map es ck))) (hu : P.underlying t = some (.map kt et)) (hk : P.underlying kt = some (.int .u32)) (hx : ev L x = some (.map (some m))) (hy : ev L y = some (.int .u32 q)) (hz : ev L z = some v)
    (hks : ∀ e ∈ es.toList, ∃ q', e.key = .int .u32 q') (hnew : ∀ e ∈ es.toList, e.key ≠ .int .u32 q)
    (k : Ln P ops rest K n L (H.set i (.obj m (.map (es.push ⟨.int .u32 q, v, ck⟩) (ck + 1)))) C s) : Ln P ops (⟨none, .mapUpdate t x y z, ty, pos, af, none⟩ :: rest) K n L H C s := fun a w hF hS => by
  have hb : w.heap[m]? = some (.map es ck) := hS.hf _ (List.mem_of_getElem? hi)
  have hkk : MapKept.IsKey (.int .u32) (.int .u32 q) := rfl
  have hf : Instr.findNow (.int .u32) (.int .u32 q) es.toList 0 = some none := by
    rcases MapKept.findNow_spec hkk es.toList 0 (fun e he => by obtain ⟨q', h⟩ := hks e he; rw [h]; rfl) with ⟨h1, _⟩ | ⟨j, e, _, h2, h3⟩
    · exact h1
    · exact absurd h3 (hnew e (List.mem_of_getElem? h2))
  refine wpl_skip (w' := { w with heap := w.heap.setIfInBounds m (.map (es.push ⟨.int .u32 q, v, ck⟩) (ck + 1)) }) rfl ?_ (k _ _ hF (hS.turn (e' := .obj m (.map (es.push ⟨.int .u32 q, v, ck⟩) (ck + 1))) hi (by simpa [Ent.blk] using mod_set hb) (MapKept.heap_set hb).1 (by simp [Ent.blk]) (by simp [Ent.blk])))
  simp [execOp, hF.ev hx, hF.ev hy, hF.ev hz, Instr.mapUpdate, run_underlying hu, MapKept.run_getObj_map hb, MapKept.run_checkKey hk hkk, MapKept.run_findKey hk hf, MapKept.run_setObj_map _ hb, Result.andThen]
section pvs
variable {d : Option Nat} {g : Option (Nat × Bool)} {t : TypeId} {x y : Operand}
theorem pv_mapLen {kt et : TypeId} {m ck : Nat} {es : Array MapEntry} (ho : OB s m (.map es ck)) (hu : P.underlying t = some (.map kt et)) (hx : ev L x = some (.map (some m))) :
    PV P (Sk s H) ⟨d, .call ⟨.builtin .len, #[x], #[t]⟩, ty, pos, af, g⟩ n L (.int .i64 (es.size : Int)) := fun a w hF hw => by
  have hb := hw.ob ho
  simp [execOp, resolve, invoke, builtin, hF.ev hx, Builtin.len_, run_underlying hu, MapKept.run_getObj_map hb, goInt, Result.andThen]
theorem pv_mapLen0 {S : World → Prop} {kt et : TypeId} (hu : P.underlying t = some (.map kt et)) (hx : ev L x = some (.map none)) :
    PV P S ⟨d, .call ⟨.builtin .len, #[x], #[t]⟩, ty, pos, af, g⟩ n L (.int .i64 0) := fun a w hF hw => by
  simp [execOp, resolve, invoke, builtin, hF.ev hx, Builtin.len_, run_underlying hu, goInt, Result.andThen]
theorem pv_mapGet {kt et : TypeId} {m ck : Nat} {es : Array MapEntry} {q : Int} {e : MapEntry} (ho : OB s m (.map es ck)) (hu : P.underlying t = some (.map kt et)) (hk : P.underlying kt = some (.int .u32)) (hx : ev L x = some (.map (some m))) (hy : ev L y = some (.int .u32 q))
    (hks : ∀ e ∈ es.toList, ∃ q', e.key = .int .u32 q') (he : e ∈ es.toList) (hek : e.key = .int .u32 q) (huq : ∀ e' ∈ es.toList, e'.key = e.key → e' = e) :
    PV P (Sk s H) ⟨d, .lookup t x y false, ty, pos, af, g⟩ n L e.val := fun a w hF hw => by
  have hb := hw.ob ho
  have hkk : MapKept.IsKey (.int .u32) (.int .u32 q) := rfl
  have hf : ∃ j, Instr.findNow (.int .u32) (.int .u32 q) es.toList 0 = some (some (j, e.val)) := by
    rcases MapKept.findNow_spec hkk es.toList 0 (fun e he => by obtain ⟨q', h⟩ := hks e he; rw [h]; rfl) with ⟨_, h1⟩ | ⟨j, e', h1, h2, h3⟩
    · exact absurd hek (h1 e he)
    · have := huq e' (List.mem_of_getElem? h2) (h3.trans hek.symm)
      exact ⟨_, this ▸ h1⟩
  obtain ⟨j, hf⟩ := hf
  simp [execOp, hF.ev hx, hF.ev hy, Instr.lookup, run_underlying hu, MapKept.run_getObj_map hb, MapKept.run_checkKey hk hkk, MapKept.run_findKey hk hf, Result.andThen]
theorem pv_extract {S : World → Prop} {i : Nat} {vs : Array Value} {v : Value} (hx : ev L x = some (.tuple vs)) (hv : vs[i]? = some v) : PV P S ⟨d, .extract x i, ty, pos, af, g⟩ n L v := fun a w hF _ => by
  simp [execOp, hF.ev hx, Instr.extract, hv]
theorem pv_entry {i b m ck since : Nat} {es : Array MapEntry} {seen : Array Nat} {e : MapEntry} (hi : H[i]? = some (.obj b (.mapIter (some m) since (seen.push e.born) ck))) (ho : OB s m (.map es ck)) (hx : ev L x = some (.pointer (some ⟨b, 0, none⟩))) (he : e ∈ es.toList) (hn : (es.toList.map (·.born)).Nodup) :
    PV P (Sk s H) ⟨d, .entry x, ty, pos, af, g⟩ n L (.tuple #[e.key, e.val]) := fun a w hF hw => by
  have hb := hw.ob ho
  have hr : w.heap[b]? = some (.mapIter (some m) since (seen.push e.born) ck) := hw.2 _ (List.mem_of_getElem? hi)
  simp [execOp, hF.ev hx, run_entry_at w b m since seen es ck e hr hb he hn]
end pvs
theorem ln_range {d m ck : Nat} {t kt et : TypeId} {x : Operand} {es : Array MapEntry} (ho : OB s m (.map es ck)) (hu : P.underlying t = some (.map kt et)) (hx : ev L x = some (.map (some m))) (hd : Nat.blt d n = true)
    (k : ∀ b, Ln P ops rest K n ((d, .pointer (some ⟨b, 0, none⟩)) :: L) (.obj b (.mapIter (some m) ck #[] ck) :: H) C s) : Ln P ops (⟨some d, .range t x, ty, pos, af, none⟩ :: rest) K n L H C s := fun a w hF hS =>
  wpl_val (w' := w.alloc (.mapIter (some m) ck #[] ck)) rfl (by simp [execOp, hF.ev hx, run_range_map w t kt et m es ck hu (hS.sk.ob ho)]) (k w.heap.size _ _ (hF.put d _ hd) (hS.new _))
theorem ln_next {i d b m ck since last : Nat} {x : Operand} {es : Array MapEntry} {seen : Array Nat} (hi : H[i]? = some (.obj b (.mapIter (some m) since seen last))) (ho : OB s m (.map es ck)) (hx : ev L x = some (.pointer (some ⟨b, 0, none⟩))) (hold : ∀ e ∈ es.toList, e.born < since) (hsc : since ≤ last) (hd : Nat.blt d n = true)
    (kf : (leftOf es seen).size = 0 → Ln P ops rest K n ((d, .tuple #[.bool false]) :: L) H C s)
    (kt : ∀ e ∈ (leftOf es seen).toList, Ln P ops rest K n ((d, .tuple #[.bool true, e.key, e.val]) :: L) (H.set i (.obj b (.mapIter (some m) since (seen.push e.born) ck))) C s) :
    Ln P ops (⟨some d, .next x false, ty, pos, af, none⟩ :: rest) K n L H C s := fun a w hF hS => by
  have hb := hS.sk.ob ho
  have hr : w.heap[b]? = some (.mapIter (some m) since seen last) := hS.hf _ (List.mem_of_getElem? hi)
  rcases run_next_at (P := P) w ty b m since last seen es ck hr hb hold hsc with ⟨h0, h1⟩ | ⟨e, he, w1, hw1, h1⟩
  · exact wpl_val (w' := w) rfl (by simp [execOp, hF.ev hx, h1]) (kf h0 _ _ (hF.put d _ hd) hS)
  · have hr1 : w1.heap[b]? = some (.mapIter (some m) since seen last) := by rcases hw1 with rfl | rfl <;> exact hr
    have hm1 : Mod No w w1 := by
      rcases hw1 with rfl | rfl
      · exact Mod.refl _ _
      · exact Mod.drew _ _
    refine wpl_val (w' := ChangeMaps.setBlock w1 b (.mapIter (some m) since (seen.push e.born) ck)) rfl (by simp [execOp, hF.ev hx, h1]) (kt e he _ _ (hF.put d _ hd) ((hS.step hm1).turn (e' := .obj b (.mapIter (some m) since (seen.push e.born) ck)) hi (by simpa [Ent.blk, ChangeMaps.setBlock] using mod_set hr1) (MapKept.heap_set hr1).1 (by simp [Ent.blk]) (by simp [Ent.blk])))
end
end K
end Go.Proofs.YtjjfpdofkdolnaaDoor
