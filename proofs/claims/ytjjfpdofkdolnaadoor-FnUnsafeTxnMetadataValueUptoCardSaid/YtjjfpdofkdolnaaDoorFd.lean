import Derived.Test.YtjjfpdofkdolnaaDoorFz
set_option linter.unusedVariables false
set_option linter.unusedSimpArgs false
namespace Go.Proofs.YtjjfpdofkdolnaaDoor
namespace K
open Go
/-! ### 12. A region that draws its order: what reads is taken first, in the order that is told -/
section
variable {P : Program} {ops : Array Oper} {Q : Exit → Act → World → Prop} {S : World → Prop} {T : List Nat}
def waits (ops : Array Oper) (j i : Nat) : Bool :=
  match ops[j]? with
  | some oj => oj.after.any fun e => Region.binds .any e && e.on == i
  | none => false
def lateB (ops : Array Oper) (T : List Nat) (j : Nat) : Bool := T.any fun t => !(waits ops j t)
def wpAnyS (P : Program) (ops : Array Oper) (Q : Exit → Act → World → Prop) (S : World → Prop) (T : List Nat) : Nat → Array Bool → Act → World → Prop
  | 0, listed, a, w => Region.ready .any ops listed = [] ∧ Q .normal a w
  | fuel + 1, listed, a, w =>
    (Region.ready .any ops listed = [] → Q .normal a w) ∧
    ∀ i ∈ Region.ready .any ops listed, wpOp P ops Q i (fun a' w' => (lateB ops T i = true → S w') ∧ wpAnyS P ops Q S T fuel (listed.setIfInBounds i true) a' w') a w
theorem wpAny_of_S : ∀ (fuel : Nat) (listed : Array Bool) (a : Act) (w : World), wpAnyS P ops Q S T fuel listed a w → wpAny P .any ops Q fuel listed a w
  | 0, _, _, _, h => h
  | fuel + 1, _, _, _, h => ⟨h.1, fun i hi => wpOp_mono (fun a' w' h' => wpAny_of_S fuel _ a' w' h'.2) (h.2 i hi)⟩
theorem late_of {i j : Nat} {oj : Oper} (hj : ops[j]? = some oj) (hT : T.contains i = true) (hnot : ∀ e ∈ oj.after, Region.binds .any e = true → e.on ≠ i) : lateB ops T j = true := by
  refine List.any_eq_true.2 ⟨i, by simpa using hT, ?_⟩
  simp only [waits, hj, Bool.not_eq_true', Bool.eq_false_iff]
  intro h
  obtain ⟨e, he, hb⟩ := Array.any_eq_true'.1 h
  simp only [Bool.and_eq_true, beq_iff_eq] at hb
  exact hnot e he hb.1 hb.2
theorem wpAnyS_first {i : Nat} {oi : Oper} {v : Value} (hi : ops[i]? = some oi) (hsel : ∀ (j : Nat) (o : Oper) cs b, ops[j]? = some o → o.op ≠ .select cs b)
    (hQ : ∀ c a w, Q (.panic c) (a.put oi.dst v) w → Q (.panic c) a w) (hT : T.contains i = true) :
    ∀ (fuel : Nat) (listed : Array Bool) (a : Act) (w : World),
      (∀ j oj, ops[j]? = some oj → j ≠ i → listed.getD j true = false → (∀ e ∈ oj.after, Region.binds .any e = true → e.on ≠ i) → oi.apart ops oj = true) →
      i ∈ Region.ready .any ops listed → YieldsIf P ops S oi v a → S w →
      wpAnyS P ops Q S T fuel (listed.setIfInBounds i true) (a.put oi.dst v) w → wpAnyS P ops Q S T (fuel + 1) listed a w := by
  intro fuel
  induction fuel with
  | zero =>
    intro listed a w _ hr hy hS H
    refine ⟨fun h => (by rw [h] at hr; cases hr), fun j hj => ?_⟩
    by_cases hji : j = i
    · subst hji; exact hy.wpOp hi hS ⟨fun _ => hS, H⟩
    · have := ready_mono hj hji
      rw [H.1] at this
      cases this
  | succ fuel ih =>
    intro listed a w hfree hr hy hS H
    refine ⟨fun h => (by rw [h] at hr; cases hr), fun j hj => ?_⟩
    by_cases hji : j = i
    · subst hji; exact hy.wpOp hi hS ⟨fun _ => hS, H⟩
    · have h1 := H.2 j (ready_mono hj hji)
      obtain ⟨hjun, oj, hoj, hall⟩ := mem_ready.1 hj
      have hnot : ∀ e ∈ oj.after, Region.binds .any e = true → e.on ≠ i := fun e he hb heq => by
        have h1 := hall e he hb
        have h0 := (mem_ready.1 hr).1
        rw [heq] at h1
        rcases Nat.lt_or_ge i listed.size with h' | h'
        · simp [h'] at h0 h1; rw [h0] at h1; cases h1
        · simp [Array.getElem?_eq_none h'] at h1
      have hlate := late_of hoj hT hnot
      have h2 := wpOp_putIf hoj (hfree j oj hoj hji hjun hnot) (fun cs b => hsel i oi cs b hi) (fun cs b => hsel j oj cs b hoj) hQ hy h1
      have hfree' : ∀ k ok, ops[k]? = some ok → k ≠ i → (listed.setIfInBounds j true).getD k true = false →
          (∀ e ∈ ok.after, Region.binds .any e = true → e.on ≠ i) → oi.apart ops ok = true := fun k ok hk hki hun hno => by
        refine hfree k ok hk hki ?_ hno
        by_cases hjk : j = k
        · subst hjk; exact hjun
        · rw [getD_set_ne true hjk] at hun; exact hun
      refine wpOp_mono (fun a' w' h3 => ⟨fun _ => h3.2.1 hlate, ih (listed.setIfInBounds j true) a' w' hfree' (ready_mono hr (Ne.symm hji)) h3.1 (h3.2.1 hlate) ?_⟩) h2
      rw [Array.setIfInBounds_comm _ _ hji]
      exact h3.2.2
/-- The walk along the order. -/
def Lw (P : Program) (ops : Array Oper) (Q : Exit → Act → World → Prop) (S : World → Prop) (T : List Nat) : List Nat → Act → World → Prop
  | [], a, w => Q .normal a w
  | i :: r, a, w => ∃ o, ops[i]? = some o ∧ ((T.contains i = true ∧ S w ∧ ∃ v, YieldsIf P ops S o v a ∧ Lw P ops Q S T r (a.put o.dst v) w) ∨
      (T.contains i = false ∧ wpOp P ops Q i (fun a' w' => (lateB ops T i = true → S w') ∧ Lw P ops Q S T r a' w') a w))
def seqOk (ops : Array Oper) (T : List Nat) : List Nat → Array Bool → Bool
  | [], listed => (Region.ready .any ops listed).isEmpty
  | i :: r, listed => (if T.contains i then Region.free .any ops listed i && (Region.ready .any ops listed).contains i else Region.ready .any ops listed == [i]) && seqOk ops T r (listed.setIfInBounds i true)
theorem wpAnyS_of_Lw (hs : Region.noSelect ops = true) (hQ : ∀ c a d v w, Q (.panic c) (Act.put a d v) w → Q (.panic c) a w) : ∀ (ord : List Nat) (listed : Array Bool) (a : Act) (w : World),
    seqOk ops T ord listed = true → Lw P ops Q S T ord a w → wpAnyS P ops Q S T ord.length listed a w
  | [], listed, a, w, hok, h => ⟨by simpa [seqOk] using hok, h⟩
  | i :: r, listed, a, w, hok, h => by
    obtain ⟨o, ho, h⟩ := h
    simp only [seqOk, Bool.and_eq_true] at hok
    rcases h with ⟨hT, hS, v, hy, h⟩ | ⟨hT, h⟩
    · rw [if_pos hT] at hok
      obtain ⟨hok1, hok2⟩ := hok
      simp only [Bool.and_eq_true] at hok1
      exact wpAnyS_first ho (Region.noSelect_spec hs) (fun c a w => hQ c a _ _ w) hT r.length listed a w (Region.free_spec ho hok1.1) (by simpa using hok1.2) hy hS
        (wpAnyS_of_Lw hs hQ r _ _ _ hok2 h)
    · rw [if_neg (by rw [hT]; simp)] at hok
      obtain ⟨hok1, hok2⟩ := hok
      have hr : Region.ready .any ops listed = [i] := by simpa using hok1
      refine ⟨fun h0 => (by rw [hr] at h0; cases h0), fun j hj => ?_⟩
      rw [hr, List.mem_singleton] at hj
      subst hj
      exact wpOp_mono (fun a' w' h' => ⟨h'.1, wpAnyS_of_Lw hs hQ r _ _ _ hok2 h'.2⟩) h
end
section
variable {P : Program} {n : Nat} {L : Env} {H : Hp} {C : Cx} {s : Vw} {N R : Act → World → Prop} {X : List (Nat × (Act → World → Prop))} {ops : Array Oper} {K : Act → World → Prop} {S : World → Prop} {T : List Nat}
def Lo (P : Program) (ops : Array Oper) (S : World → Prop) (T ord : List Nat) (K : Act → World → Prop) (n : Nat) (L : Env) (H : Hp) (C : Cx) (s : Vw) : Prop :=
  ∀ a w, Fr n L a → St C s H w → Lw P ops (NP K) S T ord a w
theorem cd_draw {id : Nat} (S : World → Prop) (T ord : List Nat) (hm : P.follows .mixedOrders = true) (hok : (seqOk ops T ord (Array.replicate ops.size false) && Region.noSelect ops && Nat.beq ord.length ops.size) = true)
    (h : Lo P ops S T ord N n L H C s) : Cd P (.region id ops true) ⟨N, R, X⟩ n L H C s := fun a w hF hS => by
  simp only [Bool.and_eq_true] at hok
  have hl : ord.length = ops.size := by simpa using hok.2
  refine Code.wp_mono (Q := NP N) (fun e a w hq => (by cases e <;> first | exact hq | exact (hq : False).elim)) (wp_region_any hm (wpAny_of_S (S := S) (T := T) _ _ _ _ ?_))
  rw [← hl]
  refine wpAnyS_of_Lw hok.1.2 (fun _ _ _ _ _ h => h) ord _ _ _ ?_ (h a w.drew hF (hS.step (Mod.drew No w)))
  rw [hl]
  exact hok.1.1
theorem cd_dr {id : Nat} {y : Code} (S : World → Prop) (T ord : List Nat) (hm : P.follows .mixedOrders = true) (hok : (seqOk ops T ord (Array.replicate ops.size false) && Region.noSelect ops && Nat.beq ord.length ops.size) = true)
    (h : Lo P ops S T ord (y.wp P (Post.q ⟨N, R, X⟩)) n L H C s) : Cd P (.seq (.region id ops true) y) ⟨N, R, X⟩ n L H C s := cd_seq (cd_draw S T ord hm hok h)
theorem lo_cd {y : Code} {p : Post} (h : Cd P y p n L H C s) : Lo P ops S T [] (y.wp P p.q) n L H C s := fun a w hF hS => h a w hF hS
theorem lo_nil (h : At K n L H C s) : Lo P ops S T [] K n L H C s := fun a w hF hS => h a w hF hS
/-- A reading is taken. -/
theorem lo_pv {i d : Nat} {r : List Nat} {op : Op} {ty : TypeId} {pos : String} {af : Array Edge} {v : Value} (ho : ops[i]? = some ⟨some d, op, ty, pos, af, none⟩) (hT : T.contains i = true) (hS : ∀ w, St C s H w → S w)
    (hv : PV P S ⟨some d, op, ty, pos, af, none⟩ n L v) (hd : Nat.blt d n = true) (k : Lo P ops S T r K n ((d, v) :: L) H C s) : Lo P ops S T (i :: r) K n L H C s := fun a w hF hSt =>
  ⟨_, ho, .inl ⟨hT, hS w hSt, v, .inl ⟨rfl, fun w hw => hv a w hF hw⟩, k _ _ (hF.put d v hd) hSt⟩⟩
/-- An operation that acts: on by the laws of an undrawn region. -/
def Bk (P : Program) (ops : Array Oper) (K : Act → World → Prop) (S : World → Prop) (T : List Nat) (i : Nat) (r : List Nat) : Act → World → Prop := fun a w => (lateB ops T i = true → S w) ∧ Lw P ops (NP K) S T r a w
theorem wpOp_of_list {i : Nat} {o : Oper} {Q : Exit → Act → World → Prop} {K' : Act → World → Prop} (ho : ops[i]? = some o) {a : Act} {w : World} (h : wpList P ops (NP K') [o] a w) : wpOp P ops (NP K) i K' a w := by
  unfold wpOp
  simp only [ho]
  unfold wpList at h
  split
  · rename_i hw
    rw [if_pos hw] at h
    rcases h with h | ⟨_, _, _, h⟩
    · refine .inl ?_
      unfold Oper.wp at *
      generalize (execOp a.eval o).run P w = rr at *
      cases rr with
      | ok x w' =>
        cases x <;> simp only [Oper.upon] at h ⊢ <;>
          first
            | exact h
            | exact Calls.mono h (fun e w'' he => by cases e <;> first | exact he | exact he.elim | (obtain ⟨_, _, he⟩ := he; exact he.elim))
      | halt x w' => cases x <;> simp only [Oper.upon] at h ⊢ <;> exact (h : False).elim
    · exact (h : False).elim
  · rename_i hw
    rw [if_neg hw] at h
    exact h
theorem lo_eff {i : Nat} {r : List Nat} {o : Oper} (ho : ops[i]? = some o) (hT : T.contains i = false) (h : Ln P ops [o] (Bk P ops K S T i r) n L H C s) : Lo P ops S T (i :: r) K n L H C s := fun a w hF hS =>
  ⟨o, ho, .inr ⟨hT, wpOp_of_list (Q := NP K) ho (h a w hF hS)⟩⟩
theorem lo_back {i : Nat} {r : List Nat} (hS : ∀ w, St C s H w → S w) (h : Lo P ops S T r K n L H C s) : Ln P ops [] (Bk P ops K S T i r) n L H C s := fun a w hF hSt => ⟨fun _ => hS w hSt, h a w hF hSt⟩
theorem lo_last {i : Nat} {r : List Nat} (hl : lateB ops T i = false) (h : Lo P ops S T r K n L H C s) : Ln P ops [] (Bk P ops K S T i r) n L H C s := fun a w hF hSt => ⟨fun e => (by rw [hl] at e; cases e), h a w hF hSt⟩
def pick (is : List Nat) (H : Hp) : Hp := is.filterMap (H[·]?)
theorem pick_mem {is : List Nat} {H : Hp} {e : Ent} (h : e ∈ pick is H) : e ∈ H := by
  obtain ⟨i, _, hi⟩ := List.mem_filterMap.1 h
  exact List.mem_of_getElem? hi
theorem sk_js {s0 : Vw} {H0 : Hp} {is : List Nat} (ht : Tr s0 s) (js : List Nat) (h : pick is H0 = pick js H) : ∀ w, St C s H w → Sk s0 (pick is H0) w := fun w hS =>
  ⟨(ht.trans hS.tr).mod, fun e he => hS.hf e (by rw [h] at he; exact pick_mem he)⟩
theorem cd_dr' {id : Nat} {l : List Oper} {y : Code} (is T ord : List Nat) (hm : P.follows .mixedOrders = true) (hok : (seqOk l.toArray T ord (Array.replicate l.toArray.size false) && Region.noSelect l.toArray && Nat.beq ord.length l.toArray.size) = true)
    (h : Lo P l.toArray (Sk s (pick is H)) T ord (y.wp P (Post.q ⟨N, R, X⟩)) n L H C s) : Cd P (.seq (.region id l.toArray true) y) ⟨N, R, X⟩ n L H C s := cd_dr _ T ord hm hok h
theorem cd_draw' {id : Nat} {l : List Oper} (is T ord : List Nat) (hm : P.follows .mixedOrders = true) (hok : (seqOk l.toArray T ord (Array.replicate l.toArray.size false) && Region.noSelect l.toArray && Nat.beq ord.length l.toArray.size) = true)
    (h : Lo P l.toArray (Sk s (pick is H)) T ord N n L H C s) : Cd P (.region id l.toArray true) ⟨N, R, X⟩ n L H C s := cd_draw _ T ord hm hok h

/-! ### 13. Guarded operations -/
theorem Fr.yield {a : Act} {j t : Nat} {o : Oper} {b : Bool} (h : Fr n L a) (ho : ops[j]? = some o) (hd : o.dst = some t) (hb : lk L t = some (.bool b)) : yielded ops a.tmps j = some b := by
  simp [yielded, ho, hd, h.get t _ hb]
theorem ln_gt {rest : List Oper} {d j t : Nat} {op : Op} {ty : TypeId} {pos : String} {af : Array Edge} {b : Bool} {o : Oper} {v : Value} (ho : ops[j]? = some o) (hj : o.dst = some t) (hb : lk L t = some (.bool b)) (hv : PV P (Sk s H) ⟨some d, op, ty, pos, af, some (j, b)⟩ n L v) (hd : Nat.blt d n = true)
    (k : Ln P ops rest K n ((d, v) :: L) H C s) : Ln P ops (⟨some d, op, ty, pos, af, some (j, b)⟩ :: rest) K n L H C s := fun a w hF hS => by
  unfold wpList
  rw [if_pos (by simp [Region.wanted, hF.yield ho hj hb])]
  refine .inl ?_
  unfold Oper.wp
  rw [hv a w hF hS.sk]
  exact k _ _ (hF.put d v hd) hS
theorem ln_gf {rest : List Oper} {d j t : Nat} {op : Op} {ty : TypeId} {pos : String} {af : Array Edge} {b b' : Bool} {o : Oper} (ho : ops[j]? = some o) (hj : o.dst = some t) (hb : lk L t = some (.bool b)) (hne : (b == b') = false) (hd : Nat.blt d n = true)
    (k : Ln P ops rest K n ((d, undef) :: L) H C s) : Ln P ops (⟨some d, op, ty, pos, af, some (j, b')⟩ :: rest) K n L H C s := fun a w hF hS => by
  unfold wpList
  rw [if_neg (by simp only [Region.wanted, hF.yield ho hj hb]; cases b <;> cases b' <;> simp_all)]
  exact k _ _ (hF.put d undef hd) hS
theorem Fr.yield0 {a : Act} {j t : Nat} {o : Oper} (h : Fr n L a) (ho : ops[j]? = some o) (hd : o.dst = some t) (hb : lk L t = some undef) : yielded ops a.tmps j = none := by
  simp [yielded, ho, hd, h.get t _ hb, undef]
theorem ln_gu {rest : List Oper} {d j t : Nat} {op : Op} {ty : TypeId} {pos : String} {af : Array Edge} {b' : Bool} {o : Oper} (ho : ops[j]? = some o) (hj : o.dst = some t) (hb : lk L t = some undef) (hd : Nat.blt d n = true)
    (k : Ln P ops rest K n ((d, undef) :: L) H C s) : Ln P ops (⟨some d, op, ty, pos, af, some (j, b')⟩ :: rest) K n L H C s := fun a w hF hS => by
  unfold wpList
  rw [if_neg (by simp only [Region.wanted, hF.yield0 ho hj hb]; simp)]
  exact k _ _ (hF.put d undef hd) hS
theorem lo_gu {i d j t : Nat} {r : List Nat} {op : Op} {ty : TypeId} {pos : String} {af : Array Edge} {b' : Bool} {o : Oper} (hi : ops[i]? = some ⟨some d, op, ty, pos, af, some (j, b')⟩) (hT : T.contains i = true) (hS : ∀ w, St C s H w → S w)
    (ho : ops[j]? = some o) (hj : o.dst = some t) (hb : lk L t = some undef) (hd : Nat.blt d n = true) (k : Lo P ops S T r K n ((d, undef) :: L) H C s) : Lo P ops S T (i :: r) K n L H C s := fun a w hF hSt =>
  ⟨_, hi, .inl ⟨hT, hS w hSt, undef, .inr ⟨(by simp only [Region.wanted, hF.yield0 ho hj hb]; simp), rfl⟩, k _ _ (hF.put d undef hd) hSt⟩⟩
theorem lo_gt {i d j t : Nat} {r : List Nat} {op : Op} {ty : TypeId} {pos : String} {af : Array Edge} {b : Bool} {o : Oper} {v : Value} (hi : ops[i]? = some ⟨some d, op, ty, pos, af, some (j, b)⟩) (hT : T.contains i = true) (hS : ∀ w, St C s H w → S w)
    (ho : ops[j]? = some o) (hj : o.dst = some t) (hb : lk L t = some (.bool b)) (hv : PV P S ⟨some d, op, ty, pos, af, some (j, b)⟩ n L v) (hd : Nat.blt d n = true) (k : Lo P ops S T r K n ((d, v) :: L) H C s) : Lo P ops S T (i :: r) K n L H C s := fun a w hF hSt =>
  ⟨_, hi, .inl ⟨hT, hS w hSt, v, .inl ⟨by simp [Region.wanted, hF.yield ho hj hb], fun w hw => hv a w hF hw⟩, k _ _ (hF.put d v hd) hSt⟩⟩
theorem lo_gf {i d j t : Nat} {r : List Nat} {op : Op} {ty : TypeId} {pos : String} {af : Array Edge} {b b' : Bool} {o : Oper} (hi : ops[i]? = some ⟨some d, op, ty, pos, af, some (j, b')⟩) (hT : T.contains i = true) (hS : ∀ w, St C s H w → S w)
    (ho : ops[j]? = some o) (hj : o.dst = some t) (hb : lk L t = some (.bool b)) (hne : (b == b') = false) (hd : Nat.blt d n = true) (k : Lo P ops S T r K n ((d, undef) :: L) H C s) : Lo P ops S T (i :: r) K n L H C s := fun a w hF hSt =>
  ⟨_, hi, .inl ⟨hT, hS w hSt, undef, .inr ⟨(by simp only [Region.wanted, hF.yield ho hj hb]; cases b <;> cases b' <;> simp_all), rfl⟩, k _ _ (hF.put d undef hd) hSt⟩⟩
/-- an acting operation whose guard says no -/
theorem lo_ef {i d j t : Nat} {r : List Nat} {op : Op} {ty : TypeId} {pos : String} {af : Array Edge} {b b' : Bool} {o : Oper} (hi : ops[i]? = some ⟨some d, op, ty, pos, af, some (j, b')⟩) (hT : T.contains i = false) (hS : lateB ops T i = true → ∀ w, St C s H w → S w)
    (ho : ops[j]? = some o) (hj : o.dst = some t) (hb : lk L t = some (.bool b)) (hne : (b == b') = false) (hd : Nat.blt d n = true) (k : Lo P ops S T r K n ((d, undef) :: L) H C s) : Lo P ops S T (i :: r) K n L H C s := fun a w hF hSt =>
  ⟨_, hi, .inr ⟨hT, by
    unfold wpOp
    simp only [hi]
    rw [if_neg (by simp only [Region.wanted, hF.yield ho hj hb]; cases b <;> cases b' <;> simp_all)]
    exact ⟨fun h => hS h w hSt, k _ _ (hF.put d undef hd) hSt⟩⟩⟩
end
end K
end Go.Proofs.YtjjfpdofkdolnaaDoor
