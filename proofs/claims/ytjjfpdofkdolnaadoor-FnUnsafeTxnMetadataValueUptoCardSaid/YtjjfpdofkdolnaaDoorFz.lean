import Derived.Test.YtjjfpdofkdolnaaDoorFy
import Derived.Laws.MakeOwn
import Derived.Maps.AppendAt
set_option linter.unusedVariables false
set_option linter.unusedSimpArgs false
namespace Go.Proofs.YtjjfpdofkdolnaaDoor
namespace K
open Go Go.Lib
section
variable {P : Program} {n : Nat} {L : Env} {H : Hp} {C : Cx} {s : Vw} {p : Post} {ops : Array Oper} {rest : List Oper} {K : Act → World → Prop}
variable {ty : TypeId} {pos : String} {af : Array Edge}

/-! ### 8. A slice that is read -/
def RS (s : Vw) (sz : Nat) (v : Value) (m : Nat) (cs : List Value) : Prop :=
  cs.length = m * sz ∧ (∀ u ∈ cs, u.oneCell' = true) ∧ ((v = .slice none 0 0 ∧ m = 0) ∨ ∃ (a : Addr) (c : Nat), v = .slice (some a) m c ∧ m ≤ c ∧ (cs ≠ [] → a.spot = none ∧ RC s a.block a.off cs))
theorem RS.mv {s t : Vw} {sz : Nat} {v : Value} {m : Nat} {cs : List Value} (h : RS s sz v m cs) (ht : Tr s t) : RS t sz v m cs :=
  ⟨h.1, h.2.1, h.2.2.imp id fun ⟨a, c, h1, h2, h3⟩ => ⟨a, c, h1, h2, fun hne => ⟨(h3 hne).1, (h3 hne).2.mv ht hne⟩⟩⟩
def SrcOk (w : World) (sz : Nat) (u : Value) (m : Nat) (news : List Value) : Prop :=
  news.length = m * sz ∧ (∀ q ∈ news, q.oneCell' = true) ∧ ((u = .slice none 0 0 ∧ m = 0) ∨ ∃ ad c, u = .slice (some ad) m c ∧ ∀ j q, news[j]? = some q → w.cell? (ad.add j) = some q)
theorem RS.src {sz : Nat} {v : Value} {m : Nat} {cs : List Value} (h : RS s sz v m cs) : ∀ w, Sk s H w → SrcOk w sz v m cs := fun w hw => by
  refine ⟨h.1, h.2.1, h.2.2.imp id ?_⟩
  rintro ⟨a, c, rfl, _, hr⟩
  refine ⟨a, c, rfl, fun j q hq => ?_⟩
  obtain ⟨h0, hrc⟩ := hr (by rintro rfl; simp at hq)
  obtain ⟨b, o, sp⟩ := a
  simp only at h0 hrc
  subst h0
  rw [Addr.add_lit]
  exact Sk.rc hrc hw hq
theorem src_obj {j b m c sz : Nat} {l : List Value} {e : TypeId} (hj : H[j]? = some (.obj b (.cells l.toArray e))) (hl : l.length = m * sz) (h1 : l.all (·.oneCell') = true) :
    ∀ w, Sk s H w → SrcOk w sz (.slice (some ⟨b, 0, none⟩) m c) m l := fun w hw =>
  ⟨hl, fun q hq => List.all_eq_true.1 h1 q hq, .inr ⟨_, c, rfl, fun j q hq => by rw [Addr.add_lit]; exact cell_of_list (hw.obj hj) _ (by simpa using hq)⟩⟩
theorem Row.rs {t : Vw} {e : TypeId} {sz n : Nat} {v : Value} {xs : List Value} (h : t.w.ownsRow 0 e sz v n xs) (hav : ∀ b, v.ownBlock = some b → ¬ t.av b) (h1 : ∀ u ∈ xs, u.oneCell' = true) : RS t sz v n xs := by
  refine ⟨h.1, h1, ?_⟩
  rcases h.2 with hn | ⟨g, cap, cur, rfl, hb, hg, hc, hm, hs, ht⟩
  · exact .inl hn
  · refine .inr ⟨⟨g, 0, none⟩, cap, rfl, hc, fun _ => ⟨rfl, hav g rfl, fun j v hv => ?_⟩⟩
    have := World.ownsRow.cells h (g := g) rfl j v hv
    rwa [Addr.add_lit] at this

theorem owns_one {w : World} {b : Nat} {e : TypeId} {sz n : Nat} {v : Value} {xs : List Value} (h : w.ownsRow b e sz v n xs) : v.oneCell' = true := by
  rcases h.2 with ⟨rfl, _⟩ | ⟨g, cap, cur, rfl, _⟩ <;> rfl
theorem RS.take {sz : Nat} {ad : Option Addr} {m c : Nat} {cs : List Value} (h : RS s sz (.slice ad m c) m cs) {k : Nat} (hk : k ≤ m) : RS s sz (.slice ad k c) k (cs.take (k * sz)) := by
  refine ⟨by rw [List.length_take, h.1, Nat.min_eq_left (Nat.mul_le_mul_right _ hk)], fun u hu => h.2.1 u (List.mem_of_mem_take hu), ?_⟩
  rcases h.2.2 with ⟨he, hm⟩ | ⟨a, c', he, hc, hr⟩
  · simp only [Value.slice.injEq] at he
    obtain ⟨rfl, _, rfl⟩ := he
    exact .inl ⟨by simp; omega, by omega⟩
  · simp only [Value.slice.injEq] at he
    obtain ⟨rfl, _, rfl⟩ := he
    refine .inr ⟨a, c, rfl, by omega, fun hne => ?_⟩
    obtain ⟨h0, hr'⟩ := hr (by rintro rfl; simp at hne)
    refine ⟨h0, hr'.1, fun j v hv => hr'.2 j v ?_⟩
    rw [List.getElem?_take] at hv
    split at hv
    · exact hv
    · cases hv

/-! ### 9. append -/
theorem ln_append {i d k m sz by_ k' : Nat} {t e : TypeId} {z v u : Value} {xs news xs' : List Value} {x y : Operand} (hi : H[i]? = some (.row v e sz k xs)) (hu : P.underlying t = some (.slice e)) (hti : TI P e z sz by_) (hzs : z.cells.size = sz) (hsz : 0 < sz)
    (hx : ev L x = some v) (hy : ev L y = some u) (hsrc : ∀ w, Sk s H w → SrcOk w sz u m news) (h63 : k + m ≤ maxLen) (hby : (k + m) * by_ ≤ 140737488355328) (hd : Nat.blt d n = true) (hk' : k + m = k') (hxs' : xs ++ news = xs')
    (kk : ∀ v', ((v' = .slice none 0 0 ↔ v = .slice none 0 0 ∧ m = 0) ∧ v'.oneCell' = true) → Ln P ops rest K n ((d, v') :: L) (H.set i (.row v' e sz k' xs')) C s) :
    Ln P ops (⟨some d, .call ⟨.builtin .append, #[x, y], #[t, t]⟩, ty, pos, af, none⟩ :: rest) K n L H C s := fun a w hF hS => by
  subst hk' hxs'
  have hown : w.ownsRow 0 e sz v k xs := hS.hf _ (List.mem_of_getElem? hi)
  obtain ⟨ii, hii, hz0, hz1, hz2⟩ := info_parts hti
  obtain ⟨hl, h1, hs⟩ := hsrc w hS.sk
  rcases hs with ⟨rfl, rfl⟩ | ⟨ad, c, rfl, hc⟩
  · have hnil : news = [] := List.eq_nil_of_length_eq_zero (by simpa using hl)
    subst hnil
    have hr := run_append_owned_none (P := P) w 0 t ty e ii sz hu hii v k xs hown
    have hk := kk v ⟨by simp, owns_one hown⟩
    simp only [Nat.add_zero, List.append_nil] at hk
    rw [show H.set i (.row v e sz k xs) = H from by
      apply List.ext_getElem?
      intro j
      by_cases hj : i = j
      · subst hj; rw [List.getElem?_set_self (List.getElem?_eq_some_iff.1 hi).1, hi]
      · rw [List.getElem?_set_ne hj]] at hk
    refine wpl_val rfl ?_ (hk _ _ (hF.put d _ hd) hS)
    simp [execOp, resolve, invoke, builtin, hF.ev hx, hF.ev hy, hr, Result.andThen]
  · obtain ⟨v', w', hr, r1, r2, r3, r4⟩ := run_append_own_at (P := P) w 0 t ty e ii z sz by_ hu hii hz0 hz1 hz2 hzs hsz v k xs hown ad m c news hl hc h1 h63 hby (Nat.zero_le _)
    refine wpl_val (w' := w') (v := v') rfl ?_ (kk v' ⟨r3, owns_one r1⟩ _ _ (hF.put d _ hd) ?_)
    · simp [execOp, resolve, invoke, builtin, hF.ev hx, hF.ev hy, hr, Result.andThen]
    · refine hS.turn hi (e' := .row v' e sz (k + m) (xs ++ news)) (Mod.grown r2 fun b hb _ => by simp [Ent.blk, hb]) r1 ?_ ?_
      · intro b hb
        simp only [Ent.blk, Option.mem_toList] at hb ⊢
        rcases r4 with r4 | r4
        · exact .inl (r4 ▸ hb)
        · rw [r4] at hb
          simp only [Option.some.injEq] at hb
          exact .inr (by omega)
      · simp only [Ent.blk]
        cases v'.ownBlock <;> simp
theorem set_row {i : Nat} {v : Value} {e : TypeId} {sz m m' : Nat} {xs xs' : List Value} (hi : H[i]? = some (.row v e sz m xs)) (hm : m = m') (hx : xs = xs') : H.set i (.row v e sz m' xs') = H := by
  subst hm hx
  apply List.ext_getElem?
  intro j
  by_cases hj : i = j
  · subst hj; rw [List.getElem?_set_self (List.getElem?_eq_some_iff.1 hi).1, hi]
  · rw [List.getElem?_set_ne hj]
theorem at_row {i : Nat} {v : Value} {e : TypeId} {sz m m' : Nat} {xs xs' : List Value} (hi : H[i]? = some (.row v e sz m xs)) (hm : m = m') (hx : xs = xs') (h : At K n L (H.set i (.row v e sz m' xs')) C s) : At K n L H C s := by rwa [set_row hi hm hx] at h
theorem cd_row {c : Code} {p : Post} {i : Nat} {v : Value} {e : TypeId} {sz m m' : Nat} {xs xs' : List Value} (hi : H[i]? = some (.row v e sz m xs)) (hm : m = m') (hx : xs = xs') (h : Cd P c p n L (H.set i (.row v e sz m' xs')) C s) : Cd P c p n L H C s := by rwa [set_row hi hm hx] at h
/-- A row that is owned: what its value looks like. -/
theorem ownsRow_shape {w : World} {e : TypeId} {sz m : Nat} {v : Value} {xs : List Value} (h : w.ownsRow 0 e sz v m xs) : ∃ ad c, v = .slice ad m c ∧ m ≤ c ∧ (0 < m → ∃ g, ad = some ⟨g, 0, none⟩) := by
  rcases h.2 with ⟨rfl, rfl⟩ | ⟨g, cap, cur, rfl, hb, hg, hnc, hcm, hcs, htake⟩
  · exact ⟨none, 0, rfl, Nat.le_refl _, fun h => absurd h (by omega)⟩
  · exact ⟨_, cap, rfl, hnc, fun _ => ⟨g, rfl⟩⟩
theorem cd_rowshape {c : Code} {p : Post} {i : Nat} {v : Value} {e : TypeId} {sz m : Nat} {xs : List Value} (hi : H[i]? = some (.row v e sz m xs)) (h : ∀ ad cp, v = .slice ad m cp → m ≤ cp → (0 < m → ∃ g, ad = some ⟨g, 0, none⟩) → Cd P c p n L H C s) : Cd P c p n L H C s := fun a w hF hS => by
  obtain ⟨ad, cp, h1, h2, h3⟩ := ownsRow_shape (hS.hf _ (List.mem_of_getElem? hi))
  exact h ad cp h1 h2 h3 a w hF hS
theorem Sk.row {i g c m o : Nat} {e : TypeId} {sz : Nat} {xs : List Value} {v : Value} (hi : H[i]? = some (.row (.slice (some ⟨g, 0, none⟩) m c) e sz m xs)) {w : World} (hw : Sk s H w) (hv : xs[o]? = some v) : w.cell? ⟨g, o, none⟩ = some v := by
  have h := hw.2 _ (List.mem_of_getElem? hi)
  have := World.ownsRow.cells h (g := g) rfl o v hv
  rwa [Addr.add_lit, Nat.zero_add] at this
section
variable {d : Option Nat} {g : Option (Nat × Bool)} {t e : TypeId} {x y : Operand}
theorem pv_ldw1 {i gb c m o : Nat} {e : TypeId} {sz : Nat} {xs : List Value} {v : Value} {dd : TypeDesc} (hi : H[i]? = some (.row (.slice (some ⟨gb, 0, none⟩) m c) e sz m xs)) (hd : P.underlying t = some dd) (hna : (match dd with | .struct _ | .array _ _ => true | _ => false) = false)
    (hx : ev L x = some (.pointer (some ⟨gb, o, none⟩))) (hv : xs[o]? = some v) : PV P (Sk s H) ⟨d, .load t x, ty, pos, af, g⟩ n L v := pv_load1 hd hna hx fun w hw => hw.row hi hv
theorem pv_ldwA {i gb c m o : Nat} {e : TypeId} {sz ts : Nat} {xs cs : List Value} {dd : TypeDesc} (hi : H[i]? = some (.row (.slice (some ⟨gb, 0, none⟩) m c) e sz m xs)) (hd : P.underlying t = some dd) (hna : (match dd with | .struct _ | .array _ _ => true | _ => false) = true) (hsz : (P.info? t).map (·.size) = some ts) (hl : cs.length = ts)
    (hx : ev L x = some (.pointer (some ⟨gb, o, none⟩))) (hv : ∀ j v, cs[j]? = some v → xs[o + j]? = some v) : PV P (Sk s H) ⟨d, .load t x, ty, pos, af, g⟩ n L (.agg cs.toArray) := pv_loadA hd hna hsz hl hx fun w hw j v h => hw.row hi (hv j v h)
end
/-- a store into an owned row -/
theorem ln_storeR {i gb o c m sz : Nat} {t e : TypeId} {x y : Operand} {xs vs xs' : List Value} {v : Value} (hi : H[i]? = some (.row (.slice (some ⟨gb, 0, none⟩) m c) e sz m xs)) (hx : ev L x = some (.pointer (some ⟨gb, o, none⟩))) (hy : ev L y = some v)
    (hv : v.cells = vs.toArray) (hsz : (P.info? t).map (·.size) = some vs.length) (hl : o + vs.length ≤ m * sz) (h1 : ∀ u ∈ vs, u.oneCell' = true) (hxs' : wr xs o vs = xs')
    (k : Ln P ops rest K n L (H.set i (.row (.slice (some ⟨gb, 0, none⟩) m c) e sz m xs')) C s) : Ln P ops (⟨none, .store t x y, ty, pos, af, none⟩ :: rest) K n L H C s := fun a w hF hS => by
  have hown : w.ownsRow 0 e sz (.slice (some ⟨gb, 0, none⟩) m c) m xs := hS.hf _ (List.mem_of_getElem? hi)
  rcases hown.2 with ⟨h, _⟩ | ⟨g, cap, cur, he, hb, hg, hnc, hcm, hcs, htake⟩
  · cases h
  · simp only [Value.slice.injEq, Option.some.injEq, Addr.mk.injEq] at he
    obtain ⟨⟨rfl, _⟩, _, rfl⟩ := he
    have hcur : m * sz ≤ cur.toList.length := by
      rw [Array.length_toList, hcs]
      exact Nat.mul_le_mul_right _ hnc
    obtain ⟨ii, hii, hsz⟩ := Option.map_eq_some_iff.1 hsz
    obtain ⟨w', hr, hh, hm⟩ := run_storeList (P := P) vs w gb o 0 cur.toList e (by simpa using hg) (by omega) h1
    refine wpl_skip rfl (w' := w') ?_ (k _ _ hF (hS.turn (e' := .row (.slice (some ⟨gb, 0, none⟩) m c) e sz m xs') hi (by simpa [Ent.blk, Value.ownBlock] using hm) ?_ (by simp [Ent.blk, Value.ownBlock]) (by simp [Ent.blk, Value.ownBlock])))
    · simp only [execOp, hF.ev hx, hF.ev hy, Instr.storeAt, Instr.sureAddr, storeVar]
      simp [sizeOf, typeInfo, hii, hsz, hv, hr, Result.andThen]
    · subst hxs'
      have hxl : xs.length = m * sz := hown.1
      refine ⟨by simp [wr, hxl]; omega, .inr ⟨gb, c, _, rfl, Nat.zero_le _, hh, hnc, hcm, ?_, ?_⟩⟩
      · simp only [Nat.add_zero, List.size_toArray, List.length_append, List.length_take, List.length_drop]
        rw [Array.length_toList] at hcur ⊢
        try omega
      · simp only [Nat.add_zero, wr]
        rw [List.take_append, List.take_append, List.length_append, List.length_take, ← htake]
        have e1 : min o cur.toList.length = o := by omega
        rw [e1, List.take_take, List.take_take, List.drop_take, List.take_of_length_le (l := vs) (by omega)]
        congr 2
        all_goals first | omega | (congr 1; omega) | skip
theorem ln_nilrow {l : List Oper} (e : TypeId) (sz : Nat) (h : Ln P ops l K n L (.row (.slice none 0 0) e sz 0 [] :: H) C s) : Ln P ops l K n L H C s := fun a w hF hS => h a w hF (hS.nilrow e sz)
theorem cd_nilrow {c : Code} (e : TypeId) (sz : Nat) (h : Cd P c p n L (.row (.slice none 0 0) e sz 0 [] :: H) C s) : Cd P c p n L H C s := fun a w hF hS => h a w hF (hS.nilrow e sz)

/-! ### 10. In and out -/
/-- What a return of v leaves to show. -/
def rpA (P : Program) (fn : Func) (t : Vw) (R : Vw → Value → Prop) : Act → World → Prop := fun a w =>
  a.defers = [] ∧ ∃ v, (results fn a.tmps).run P w = .ok v w ∧ ∃ h : (∀ b, t.av b → b < w.heap.size), Mod No t.w w ∧ R ⟨w, t.av, h⟩ v
theorem ca_enter {f : FuncId} {fn : Func} {c : Code} {vals : List Value} {t : Vw} {R : Vw → Value → Prop} (hf : P.funcs[f]? = some fn) (hb : fn.body = some c) (hn : fn.ntmps = n) (hl : Nat.ble vals.length n = true)
    (h : Cd P c ⟨rpA P fn t R, rpA P fn t R, []⟩ n (argEnv 0 vals) [] ⟨t, No⟩ t) : CA P f vals t R := by
  refine calls_of_wp hf hb ?_
  subst hn
  refine Code.wp_mono ?_ (h _ t.w (Fr.start vals _ hl) (St.start t No [] (by intro e he; cases he) (by simp [blks]) (by simp [blks])))
  intro e a w hq
  cases e with
  | normal => obtain ⟨h1, v, h2, h3⟩ := hq; exact ⟨h1, v, h2, v, rfl, h3⟩
  | ret => obtain ⟨h1, v, h2, h3⟩ := hq; exact ⟨h1, v, h2, v, rfl, h3⟩
  | exit id => exact (hq : False).elim
  | goto l => exact (hq : False).elim
  | panic l => exact (hq : False).elim
  | outgrown => exact (hq : False).elim
theorem CA.cs {f : FuncId} {vals : List Value} {t : Vw} {v : Value} (h : CA P f vals t fun _ u => u = v) : CS P f vals t v := Calls.mono h fun e w' ⟨u, he, _, hm, hu⟩ => ⟨by rw [he, hu], hm⟩
theorem at_retA {fn : Func} {t : Vw} {R : Vw → Value → Prop} {q : Nat} {v : Value} (hr : fn.results = #[.tmp q]) (hv : lk L q = some v) (h : ∀ w, ∀ hS : St ⟨t, No⟩ s H w, R hS.fin v) : At (rpA P fn t R) n L H ⟨t, No⟩ s := fun a w hF hS => by
  refine ⟨hF.df, v, ?_, hS.fin.lt, hS.whole, h w hS⟩
  rw [results_tmp hr]
  simp [hF.get q v hv]
/-- the result lies in a variable of the call's own -/
theorem at_retC {fn : Func} {t : Vw} {R : Vw → Value → Prop} {q i b sz : Nat} {rt e : TypeId} {l : List Value} {dd : TypeDesc} (hr : fn.results = #[.cell q rt]) (hv : lk L q = some (.pointer (some ⟨b, 0, none⟩))) (hi : H[i]? = some (.obj b (.cells l.toArray e)))
    (hd : P.underlying rt = some dd) (hna : (match dd with | .struct _ | .array _ _ => true | _ => false) = true) (hsz : (P.info? rt).map (·.size) = some sz) (hl : l.length = sz)
    (h : ∀ w, ∀ hS : St ⟨t, No⟩ s H w, R hS.fin (.agg l.toArray)) : At (rpA P fn t R) n L H ⟨t, No⟩ s := fun a w hF hS => by
  refine ⟨hF.df, .agg l.toArray, ?_, hS.fin.lt, hS.whole, h w hS⟩
  have hb := hS.sk.obj hi
  have hg := hF.get q _ hv
  have hrun := run_loadA (P := P) (w := w) (b := b) (o := 0) hd hna hsz hl (fun j v hj => cell_of_list hb _ (by simpa using hj))
  simp [results, hr, hg, asAddr, hrun, Result.andThen]
/-- What the call has made is none of what its caller knows of. -/
theorem fresh {t : Vw} {w : World} (hS : St ⟨t, No⟩ s H w) {i : Nat} {v : Value} {e : TypeId} {sz m : Nat} {xs : List Value} (hi : H[i]? = some (.row v e sz m xs)) {b : Nat} (hb : v.ownBlock = some b) : ¬ t.av b := fun h => by
  have h1 := hS.own b (List.mem_flatMap.2 ⟨_, List.mem_of_getElem? hi, by simp [Ent.blk, hb]⟩)
  have h2 := t.lt b h
  rcases h1.2 with h3 | h3
  · exact h3
  · exact absurd h3 (by show ¬ t.w.heap.size ≤ b; omega)
theorem freshO {t : Vw} {w : World} (hS : St ⟨t, No⟩ s H w) {i : Nat} {b : Nat} {o : Obj} (hi : H[i]? = some (.obj b o)) : ¬ t.av b := fun h => by
  have h1 := hS.own b (List.mem_flatMap.2 ⟨_, List.mem_of_getElem? hi, by simp [Ent.blk]⟩)
  have h2 := t.lt b h
  rcases h1.2 with h3 | h3
  · exact h3
  · exact absurd h3 (by show ¬ t.w.heap.size ≤ b; omega)
theorem obj_rs {t : Vw} {w : World} (hS : St ⟨t, No⟩ s H w) {i b m sz : Nat} {l : List Value} {e : TypeId} (hi : H[i]? = some (.obj b (.cells l.toArray e))) (hl : l.length = m * sz) (h1 : ∀ u ∈ l, u.oneCell' = true) :
    RS hS.fin sz (.slice (some ⟨b, 0, none⟩) m m) m l :=
  ⟨hl, h1, .inr ⟨⟨b, 0, none⟩, m, rfl, Nat.le_refl _, fun _ => ⟨rfl, freshO hS hi, fun j v hv => cell_of_list (hS.sk.obj hi) _ (by simpa using hv)⟩⟩⟩
/-- A call that turns entry e of the caller's alone. -/
def rpT (P : Program) (fn : Func) (t : Vw) (e : Ent) (R : Vw → Value → Ent → Prop) : Act → World → Prop := fun a w =>
  a.defers = [] ∧ ∃ v, (results fn a.tmps).run P w = .ok v w ∧ ∃ e' : Ent, e'.ok w ∧ (∀ b ∈ e'.blk, b ∈ e.blk ∨ t.w.heap.size ≤ b) ∧ e'.blk.Nodup ∧ Mod (fun b => b ∈ e.blk) t.w w ∧
    ∃ h : (∀ b, t.av b ∨ b ∈ e'.blk → b < w.heap.size), R ⟨w, fun b => t.av b ∨ b ∈ e'.blk, h⟩ v e'
theorem ct_enter {f : FuncId} {fn : Func} {c : Code} {vals : List Value} {t : Vw} {e : Ent} {R : Vw → Value → Ent → Prop} (hf : P.funcs[f]? = some fn) (hb : fn.body = some c) (hn : fn.ntmps = n) (hl : Nat.ble vals.length n = true)
    (hok : e.ok t.w) (hav : ∀ b ∈ e.blk, t.av b) (hnd : e.blk.Nodup)
    (h : Cd P c ⟨rpT P fn t e R, rpT P fn t e R, []⟩ n (argEnv 0 vals) [e] ⟨t, fun b => b ∈ e.blk⟩ t) : CT P f vals t e R := by
  refine calls_of_wp hf hb ?_
  subst hn
  refine Code.wp_mono ?_ (h _ t.w (Fr.start vals _ hl) (St.start t _ [e] (by intro x hx; rw [List.mem_singleton] at hx; exact hx ▸ hok) (fun b hb => by simp only [blks, List.flatMap_cons, List.flatMap_nil, List.append_nil] at hb; exact ⟨hav b hb, hb⟩) (by simpa [blks] using hnd)))
  intro e a w hq
  cases e with
  | normal => obtain ⟨h1, v, h2, e', h3⟩ := hq; exact ⟨h1, v, h2, v, e', rfl, h3⟩
  | ret => obtain ⟨h1, v, h2, e', h3⟩ := hq; exact ⟨h1, v, h2, v, e', rfl, h3⟩
  | exit id => exact (hq : False).elim
  | goto l => exact (hq : False).elim
  | panic l => exact (hq : False).elim
  | outgrown => exact (hq : False).elim
/-- The view at the end, where entry e' is handed back. -/
def St.finT {C : Cx} {s : Vw} {H : Hp} {w : World} (h : St C s H w) (e' : Ent) (he : e' ∈ H) : Vw := ⟨w, fun b => C.t.av b ∨ b ∈ e'.blk, fun b hb => hb.elim (fun hb => Nat.lt_of_lt_of_le (C.t.lt b hb) h.whole.size) fun hb => h.hf.lt (List.mem_flatMap.2 ⟨e', he, hb⟩)⟩
theorem St.trFinT {C : Cx} {s : Vw} {H : Hp} {w : World} (h : St C s H w) (e' : Ent) (he : e' ∈ H) : Tr s (h.finT e' he) :=
  ⟨h.mod.mono fun _ _ h => h.1, fun b hb => hb.elim (fun hb => .inl (h.up b hb)) fun hb => (h.own b (List.mem_flatMap.2 ⟨e', he, hb⟩)).1⟩
theorem nodup_mem {e : Ent} {H : Hp} (h : (blks H).Nodup) (he : e ∈ H) : e.blk.Nodup := by
  obtain ⟨H1, H2, rfl⟩ := List.append_of_mem he
  simp only [blks, List.flatMap_append, List.flatMap_cons] at h
  exact (List.nodup_append.1 (List.nodup_append.1 h).2.1).1
theorem rpT_of {fn : Func} {t : Vw} {e e' : Ent} {R : Vw → Value → Ent → Prop} {v : Value} {a : Act} {w : World} {i : Nat} (hi : H[i]? = some e') (hF : Fr n L a) (hS : St ⟨t, fun b => b ∈ e.blk⟩ s H w) (hr : (results fn a.tmps).run P w = .ok v w)
    (hR : R (hS.finT e' (List.mem_of_getElem? hi)) v e') : rpT P fn t e R a w := by
  have he := List.mem_of_getElem? hi
  refine ⟨hF.df, v, hr, e', hS.hf e' he, fun b hb => (hS.own b (List.mem_flatMap.2 ⟨e', he, hb⟩)).2, nodup_mem hS.nd he, hS.whole, (hS.finT e' he).lt, hR⟩
theorem at_retT {fn : Func} {t : Vw} {e e' : Ent} {R : Vw → Value → Ent → Prop} {q i : Nat} {v : Value} (hr : fn.results = #[.tmp q]) (hv : lk L q = some v) (hi : H[i]? = some e')
    (h : ∀ w, ∀ hS : St ⟨t, fun b => b ∈ e.blk⟩ s H w, R (hS.finT e' (List.mem_of_getElem? hi)) v e') : At (rpT P fn t e R) n L H ⟨t, fun b => b ∈ e.blk⟩ s := fun a w hF hS =>
  rpT_of hi hF hS (by rw [results_tmp hr]; simp [hF.get q v hv]) (h w hS)
theorem at_retT0 {fn : Func} {t : Vw} {e e' : Ent} {R : Vw → Value → Ent → Prop} {i : Nat} (hr : fn.results = #[]) (hi : H[i]? = some e')
    (h : ∀ w, ∀ hS : St ⟨t, fun b => b ∈ e.blk⟩ s H w, R (hS.finT e' (List.mem_of_getElem? hi)) (.tuple #[]) e') : At (rpT P fn t e R) n L H ⟨t, fun b => b ∈ e.blk⟩ s := fun a w hF hS =>
  rpT_of hi hF hS (results_none hr _ _ _) (h w hS)

/-! ### 11. Literals of slices and structs -/
theorem one_cells {v : Value} (h : v.oneCell' = true) : v.cells = #[v] := by cases v <;> first | rfl | simp [Value.oneCell'] at h
theorem fold_set : ∀ (c : List Value) (A : Array Value) (off k : Nat), off + k + c.length ≤ A.size →
    ((c.zipIdx k).foldl (fun cs (x : Value × Nat) => cs.setIfInBounds (off + x.2) x.1) A) = (A.toList.take (off + k) ++ c ++ A.toList.drop (off + k + c.length)).toArray
  | [], A, off, k, _ => by simp
  | v :: r, A, off, k, h => by
    simp only [List.length_cons] at h
    simp only [List.zipIdx_cons, List.foldl_cons]
    rw [fold_set r _ off (k + 1) (by simp <;> omega)]
    apply Array.ext'
    simp only [Array.toList_setIfInBounds, List.length_cons]
    have h1 : off + (k + 1) = off + k + 1 := by omega
    rw [h1, List.take_succ_eq_append_getElem (by simpa using (by omega : off + k < A.size)), List.drop_set_of_lt (by omega)]
    simp [List.take_set_of_le]
    try omega
/-- Parts one behind the other, each of sz cells. -/
def flat : List Value → List Value
  | [] => []
  | v :: r => v.cells.toList ++ flat r
def numbered : Nat → List Value → List (Nat × Value)
  | _, [] => []
  | k, v :: r => (k, v) :: numbered (k + 1) r
theorem fill_flat (sz : Nat) : ∀ (vs : List Value) (k : Nat) (A : Array Value), (∀ v ∈ vs, v.cells.size = sz) → A.size = (k + vs.length) * sz →
    Instr.fill (fun i => some (i * sz, sz)) A (numbered k vs) = some (A.toList.take (k * sz) ++ flat vs).toArray
  | [], k, A, _, hA => by
    simp only [numbered, Instr.fill, flat, List.append_nil, Option.some.injEq]
    rw [List.take_of_length_le (by simp [hA])]
  | v :: r, k, A, h, hA => by
    have hv := h v List.mem_cons_self
    simp only [List.length_cons] at hA
    have e1 : (k + (r.length + 1)) * sz = k * sz + sz + r.length * sz := by rw [Nat.add_mul, Nat.succ_mul]; omega
    have hle : k * sz + v.cells.toList.length ≤ A.size := by simp [hv, hA, e1] <;> omega
    simp only [numbered, Instr.fill]
    have hz : v.cells.zipIdx.foldl (fun cs (x : Value × Nat) => cs.setIfInBounds (k * sz + x.2) x.1) A = (A.toList.take (k * sz) ++ v.cells.toList ++ A.toList.drop (k * sz + v.cells.toList.length)).toArray := by
      have := fold_set v.cells.toList A (k * sz) 0 (by simpa using hle)
      simp only [Nat.add_zero] at this
      rw [← this, ← Array.foldl_toList]
      simp
    have hbad : (decide (v.cells.size ≠ sz) || decide (k * sz + v.cells.size > A.size)) = false := by
      simp only [Array.length_toList] at hle
      simp [hv]
      omega
    rw [hbad]
    simp only [Bool.false_eq_true, if_false]
    rw [hz, fill_flat sz r (k + 1) _ (fun u hu => h u (List.mem_cons_of_mem _ hu)) (by simp [hv, hA, e1]; rw [Nat.min_eq_left (by omega), show (k + 1 + r.length) * sz = k * sz + sz + r.length * sz by rw [Nat.add_mul, Nat.add_mul]; omega]; omega)]
    simp only [flat]
    have hl : (A.toList.take (k * sz) ++ v.cells.toList).length = (k + 1) * sz := by
      simp only [List.length_append, List.length_take, Array.length_toList, hv, hA, e1, Nat.add_mul]
      omega
    have ht : (A.toList.take (k * sz) ++ v.cells.toList ++ A.toList.drop (k * sz + v.cells.toList.length)).take ((k + 1) * sz) = A.toList.take (k * sz) ++ v.cells.toList := by
      rw [← hl]; exact List.take_left
    rw [ht, List.append_assoc]
theorem run_buildFlat {t e : TypeId} {z : Value} {sz by_ m : Nat} {vs : List Value} (w : World) (hu : P.underlying t = some (.slice e)) (hti : TI P e z sz by_) (hzs : z.cells.size = sz) (hpos : 0 < sz) (hm : vs.length = m) (hsm : m * sz ≤ 16777216) (hv : ∀ v ∈ vs, v.cells.size = sz) :
    (Instr.buildSlice t m (numbered 0 vs).toArray).run P w = .ok (.slice (some ⟨w.heap.size, 0, none⟩) m m) (w.alloc (.cells (flat vs).toArray e)) := by
  obtain ⟨ii, hii, hz0, hz1, hz2⟩ := info_parts hti
  subst hm
  have hf := fill_flat sz vs 0 ((Array.range (vs.length * sz)).map (z.cells[· % z.cells.size]!)) hv (by simp)
  simp only [Nat.zero_mul, List.take_zero, List.nil_append] at hf
  have h24 : ¬ (vs.length * ii.size > 2 ^ 24) := by rw [hz1]; omega
  by_cases h0 : vs.length * sz = 0
  · have hnil : vs = [] := by
      rcases Nat.mul_eq_zero.1 h0 with h | h
      · exact List.eq_nil_of_length_eq_zero h
      · omega
    subst hnil
    simp [Instr.buildSlice, run_underlying hu, sizeOf, typeInfo, hii, numbered, flat, Instr.fill, newRow, Array.range_zero']
  · refine Eq.trans ?_ (rfl)
    have h1 : ¬ (vs.length * ii.size = 0) := by rw [hz1]; exact h0
    simp only [← hz1] at hf
    simp [Instr.buildSlice, run_underlying hu, sizeOf, typeInfo, zeroValue, hii, hz0, h24, h1, hf, newRow, Result.andThen]
def partsOk (sz : Nat) : List Value → Bool
  | [] => true
  | v :: r => (bif Nat.beq sz 1 then v.oneCell' else Nat.beq v.cells.size sz) && partsOk sz r
theorem partsOk.size {sz : Nat} : ∀ {vs : List Value}, partsOk sz vs = true → ∀ v ∈ vs, v.cells.size = sz
  | [], _, v, hv => by cases hv
  | x :: r, h, v, hv => by
    simp only [partsOk, Bool.and_eq_true] at h
    rcases List.mem_cons.1 hv with rfl | hv
    · by_cases e : sz = 1
      · subst e
        have e1 : (Nat.beq 1 1) = true := by simp
        rw [e1] at h
        rw [one_cells h.1]
        rfl
      · rw [nbeq e] at h
        exact Nat.eq_of_beq_eq_true h.1
    · exact partsOk.size h.2 v hv
/-- A slice literal, its parts one behind the other. -/
theorem ln_lit {d m : Nat} {t e : TypeId} {z : Value} {sz by_ : Nat} {ps : List (Nat × Operand)} {vs l : List Value} (hu : P.underlying t = some (.slice e)) (hti : TI P e z sz by_) (hzs : z.cells.size = sz) (hpos : 0 < sz)
    (hp : evPs L ps = some (numbered 0 vs)) (hm : vs.length = m) (hsm : Nat.ble (m * sz) 16777216 = true) (hv : partsOk sz vs = true) (hl : flat vs = l)
    (hd : Nat.blt d n = true) (k : ∀ b, Ln P ops rest K n ((d, .slice (some ⟨b, 0, none⟩) m m) :: L) (.obj b (.cells l.toArray e) :: H) C s) : Ln P ops (⟨some d, .buildSlice t m ps.toArray, ty, pos, af, none⟩ :: rest) K n L H C s :=
  ln_buildSlice hp (fun w => by rw [run_buildFlat w hu hti hzs hpos hm (Nat.le_of_ble_eq_true hsm) (partsOk.size hv), hl]) hd k
/-! ### 12. A struct's literal -/
def plc (P : Program) : List Field → Option (List (Nat × Nat))
  | [] => some []
  | f :: r => match P.info? f.type, plc P r with
    | some i, some l => some ((f.offset, i.size) :: l)
    | _, _ => none
theorem run_places : ∀ (fs : List Field) (pl : List (Nat × Nat)) (w : World), plc P fs = some pl → (fs.mapM fun f => (Prod.mk f.offset <$> sizeOf f.type : Sem (Nat × Nat))).run P w = .ok pl w
  | [], pl, w, h => by simp only [plc, Option.some.injEq] at h; subst h; simp
  | f :: r, pl, w, h => by
    simp only [plc] at h
    cases hi : P.info? f.type with
    | none => simp [hi] at h
    | some i =>
      cases hr : plc P r with
      | none => simp [hi, hr] at h
      | some l =>
        simp only [hi, hr, Option.some.injEq] at h
        subst h
        have ih := run_places r l w hr
        simp only [List.mapM_cons, Sem.run_bind]
        simp [sizeOf, typeInfo, hi, Result.andThen] at ih ⊢
        rw [ih]
def fillL (pl : List (Nat × Nat)) : List Value → List (Nat × Value) → Option (List Value)
  | cs, [] => some cs
  | cs, (i, v) :: r => match pl[i]? with
    | none => none
    | some (off, sz) => bif Nat.beq sz 1 then fillL pl (cs.set off v) r else fillL pl (wr cs off v.cells.toList) r
def okL (pl : List (Nat × Nat)) (n : Nat) : List (Nat × Value) → Bool
  | [] => true
  | (i, v) :: r => (match pl[i]? with
    | none => false
    | some (off, sz) => (bif Nat.beq sz 1 then v.oneCell' else Nat.beq v.cells.size sz) && Nat.ble (off + sz) n) && okL pl n r
theorem wr_one {cs : List Value} {off : Nat} {v : Value} (h : off + 1 ≤ cs.length) : wr cs off [v] = cs.set off v := by
  simp only [wr, List.length_singleton]
  rw [List.set_eq_take_append_cons_drop, if_pos (by omega)]
  simp
theorem fill_list (pl : List (Nat × Nat)) : ∀ (vs : List (Nat × Value)) (cs l : List Value), fillL pl cs vs = some l → okL pl cs.length vs = true → Instr.fill (fun i => pl[i]?) cs.toArray vs = some l.toArray
  | [], cs, l, h, _ => by simp only [fillL, Option.some.injEq] at h; subst h; rfl
  | (i, v) :: r, cs, l, h, hv => by
    simp only [fillL] at h
    simp only [okL, Bool.and_eq_true] at hv
    cases hp : pl[i]? with
    | none => simp [hp] at h
    | some q =>
      obtain ⟨off, sz⟩ := q
      rw [hp] at h hv
      simp only [Bool.and_eq_true, Nat.ble_eq] at hv
      obtain ⟨⟨h0, h2⟩, h3⟩ := hv
      have hgo : v.cells.size = sz ∧ fillL pl (wr cs off v.cells.toList) r = some l := by
        simp only at h
        by_cases e : sz = 1
        · subst e
          have e1 : (Nat.beq 1 1) = true := by simp
          rw [e1] at h h0
          simp only [cond_true] at h h0
          have hc := one_cells h0
          rw [hc]
          exact ⟨rfl, by rw [wr_one h2]; exact h⟩
        · rw [nbeq e] at h h0
          simp only [cond_false] at h h0
          exact ⟨Nat.eq_of_beq_eq_true h0, h⟩
      obtain ⟨h1, hgo⟩ := hgo
      have hf : v.cells.zipIdx.foldl (fun cs (x : Value × Nat) => cs.setIfInBounds (off + x.2) x.1) cs.toArray = (wr cs off v.cells.toList).toArray := by
        have := fold_set v.cells.toList cs.toArray off 0 (by simpa [h1] using h2)
        simp only [Nat.add_zero] at this
        rw [wr, ← this, ← Array.foldl_toList]
        simp
      have hl : (wr cs off v.cells.toList).length = cs.length := by simp [wr, h1]; omega
      have hbad : (decide (v.cells.size ≠ sz) || decide (off + v.cells.size > cs.toArray.size)) = false := by simp [h1]; omega
      have ih := fill_list pl r (wr cs off v.cells.toList) l hgo (by rw [hl]; exact h3)
      simp only [Instr.fill, hp, hbad, Bool.false_eq_true, if_false]
      rw [hf]
      exact ih
theorem run_build {t : TypeId} {fs : List Field} {z : Value} {sz by_ : Nat} {pl : List (Nat × Nat)} {vs : List (Nat × Value)} {l : List Value} (hu : P.underlying t = some (.struct fs.toArray)) (hti : TI P t z sz by_) (hpl : plc P fs = some pl)
    (h : fillL pl z.cells.toList vs = some l) (hok : okL pl z.cells.toList.length vs = true) (w : World) : (Instr.build t vs.toArray).run P w = .ok (.agg l.toArray) w := by
  obtain ⟨ii, hii, hz0, hz1, hz2⟩ := info_parts hti
  have h1 := fill_list pl vs _ l h hok
  have h2 := run_places (P := P) fs pl w hpl
  have h1' : Instr.fill (fun i => pl[i]?) z.cells vs = some l.toArray := by simpa using h1
  simp [Instr.build, zeroValue, typeInfo, hii, hz0, run_underlying hu, h2, h1', Result.andThen]
theorem pv_struct {S : World → Prop} {d : Option Nat} {g : Option (Nat × Bool)} {t : TypeId} {ps : List (Nat × Operand)} {fs : List Field} {z : Value} {sz by_ : Nat} (pl : List (Nat × Nat)) {vs : List (Nat × Value)} {l : List Value} (hp : evPs L ps = some vs) (hu : P.underlying t = some (.struct fs.toArray)) (hti : TI P t z sz by_) (hpl : plc P fs = some pl)
    (h : fillL pl z.cells.toList vs = some l) (hok : okL pl z.cells.toList.length vs = true) : PV P S ⟨d, .build t ps.toArray, ty, pos, af, g⟩ n L (.agg l.toArray) := pv_build hp fun w => run_build hu hti hpl h hok w
end
end K
end Go.Proofs.YtjjfpdofkdolnaaDoor
