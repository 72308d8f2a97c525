import Derived.Test.YtjjfpdofkdolnaaDoorFd
import Derived.Laws.IdiomCopy
set_option linter.unusedVariables false
set_option linter.unusedSimpArgs false
namespace Go.Proofs.YtjjfpdofkdolnaaDoor
namespace K
open Go Go.Lib
section
variable {P : Program} {n : Nat} {L : Env} {H : Hp} {C : Cx} {s : Vw} {p : Post} {ops : Array Oper} {rest : List Oper} {K : Act → World → Prop}
variable {ty : TypeId} {pos : String} {af : Array Edge}
/-! ### Calls that hand back a row of their own -/
def Own (u : Vw) (k : Nat) (e : TypeId) (sz : Nat) (v : Value) (m : Nat) (xs : List Value) : Prop := u.w.ownsRow 0 e sz v m xs ∧ ∀ b, v.ownBlock = some b → k ≤ b
def CN (P : Program) (f : FuncId) (vals : List Value) (t : Vw) (e : TypeId) (sz m : Nat) (xs : List Value) : Prop := CA P f vals t fun u r => Own u t.w.heap.size e sz r m xs
theorem ownsRow_one {w : World} {e : TypeId} {sz m : Nat} {v : Value} {xs : List Value} (h : w.ownsRow 0 e sz v m xs) : v.oneCell' = true := by
  obtain ⟨ad, c, rfl, _⟩ := ownsRow_shape h
  rfl
theorem CN.ca {f : FuncId} {vals : List Value} {t : Vw} {e : TypeId} {sz m : Nat} {xs : List Value} (h : CN P f vals t e sz m xs) (h1 : ∀ u ∈ xs, u.oneCell' = true) : CA P f vals t fun u r => RS u sz r m xs :=
  Calls.mono h fun x w' ⟨v, he, hlt, hm, hR⟩ => ⟨v, he, hlt, hm, Row.rs hR.1 (fun b hb ha => by
    have h2 := hR.2 b hb
    have h3 := t.lt b ha
    omega) h1⟩
theorem CN.ct {f : FuncId} {vals : List Value} {t : Vw} {e : TypeId} {sz m : Nat} {xs : List Value} (h : CN P f vals t e sz m xs) : CT P f vals t (.row (.slice none 0 0) e sz 0 []) fun u v e' => e' = .row v e sz m xs ∧ v.oneCell' = true :=
  Calls.mono h fun x w' ⟨v, he, hlt, hm, hR⟩ => by
    have hb : ∀ b ∈ (Ent.row v e sz m xs).blk, v.ownBlock = some b := fun b hb => by simpa [Ent.blk] using hb
    refine ⟨v, .row v e sz m xs, he, hR.1, fun b h => .inr (hR.2 b (hb b h)), by simp only [Ent.blk]; cases v.ownBlock <;> simp, hm.no, ⟨fun b h => h.elim (hlt b) fun h => Ent.ok.lt (e := .row v e sz m xs) hR.1 b h, rfl, ownsRow_one hR.1⟩⟩
theorem own_fresh {t : Vw} {w : World} (hS : St ⟨t, No⟩ s H w) {i : Nat} {v : Value} {e : TypeId} {sz m : Nat} {xs : List Value} (hi : H[i]? = some (.row v e sz m xs)) : Own hS.fin t.w.heap.size e sz v m xs :=
  ⟨hS.hf _ (List.mem_of_getElem? hi), fun b hb => (hS.own b (List.mem_flatMap.2 ⟨_, List.mem_of_getElem? hi, by simp [Ent.blk, hb]⟩)).2.elim (fun h => h.elim) id⟩
theorem obj_own {t : Vw} {w : World} (hS : St ⟨t, No⟩ s H w) {i b m sz : Nat} {l : List Value} {e : TypeId} (hi : H[i]? = some (.obj b (.cells l.toArray e))) (hl : l.length = m * sz) (hm : m ≤ maxLen) : Own hS.fin t.w.heap.size e sz (.slice (some ⟨b, 0, none⟩) m m) m l :=
  ⟨⟨hl, .inr ⟨b, m, l.toArray, rfl, Nat.zero_le _, hS.sk.obj hi, Nat.le_refl _, hm, by simp [hl], by simp [← hl]⟩⟩,
    fun b' hb => by
      simp only [Value.ownBlock, Option.some.injEq] at hb
      subst hb
      exact (hS.own b (List.mem_flatMap.2 ⟨_, List.mem_of_getElem? hi, by simp [Ent.blk]⟩)).2.elim (fun h => h.elim) id⟩
/-- a row of one's own is read -/
theorem row_src {j m sz : Nat} {v : Value} {e : TypeId} {xs : List Value} (hj : H[j]? = some (.row v e sz m xs)) (h1 : ∀ u ∈ xs, u.oneCell' = true) : ∀ w, Sk s H w → SrcOk w sz v m xs := fun w hw => by
  have h : w.ownsRow 0 e sz v m xs := hw.2 _ (List.mem_of_getElem? hj)
  refine ⟨h.1, h1, ?_⟩
  rcases h.2 with hn | ⟨g, cap, cur, rfl, hb, hg, hc, hm, hs, ht⟩
  · exact .inl hn
  · refine .inr ⟨_, cap, rfl, fun j v hv => ?_⟩
    exact World.ownsRow.cells h (g := g) rfl j v hv
theorem row_rs {j m sz : Nat} {v : Value} {e : TypeId} {xs : List Value} {t : Vw} {w : World} (hS : St ⟨t, No⟩ s H w) (hj : H[j]? = some (.row v e sz m xs)) (h1 : ∀ u ∈ xs, u.oneCell' = true) : RS hS.fin sz v m xs :=
  Row.rs (t := hS.fin) (hS.hf _ (List.mem_of_getElem? hj)) (fun b hb => fresh hS hj hb) h1
theorem src_nil (sz : Nat) : ∀ w, Sk s H w → SrcOk w sz (.slice none 0 0) 0 [] := fun w _ => ⟨by simp, by simp, .inl ⟨rfl, rfl⟩⟩
/-- an acting operation whose guard says yes -/
theorem ln_gE {d : Option Nat} {j t : Nat} {op : Op} {b : Bool} {o : Oper} (ho : ops[j]? = some o) (hj : o.dst = some t) (hb : lk L t = some (.bool b)) (k : Ln P ops (⟨d, op, ty, pos, af, none⟩ :: rest) K n L H C s) : Ln P ops (⟨d, op, ty, pos, af, some (j, b)⟩ :: rest) K n L H C s := fun a w hF hS => by
  have h := k a w hF hS
  unfold wpList at h ⊢
  rw [if_pos (by simp [Region.wanted])] at h
  rw [if_pos (by simp [Region.wanted, hF.yield ho hj hb])]
  exact h
/-! ### make of a slice; copy -/
theorem ln_makeSlice {d m : Nat} {t e : TypeId} {z : Value} {by_ : Nat} {x y : Operand} (hu : P.underlying t = some (.slice e)) (hti : TI P e z 1 by_) (hz : z.cells = #[z]) (hx : ev L x = some (.int .i64 (m : Int))) (hy : ev L y = some (.int .i64 (m : Int)))
    (hb : by_ * m ≤ 281474976710656) (hm : m ≤ 9223372036854775807) (hd : Nat.blt d n = true) (k : ∀ b, Ln P ops rest K n ((d, .slice (some ⟨b, 0, none⟩) m m) :: L) (.obj b (.cells (List.replicate m z).toArray e) :: H) C s) :
    Ln P ops (⟨some d, .makeSlice t x y, ty, pos, af, none⟩ :: rest) K n L H C s := fun a w hF hS => by
  obtain ⟨ii, hii, hz0, hz1, hz2⟩ := info_parts hti
  have hbi : (ii.bytes : Int) * (m : Int) ≤ 281474976710656 := by
    rw [hz2]
    have h : ((by_ * m : Nat) : Int) ≤ 281474976710656 := by omega
    rwa [Int.natCast_mul] at h
  have hr := run_make (P := P) w t e ii z hu hii hz0 .i64 .i64 m m (by omega) (Int.le_refl _) hbi (by omega)
  have e1 : madeCells z.cells (((m : Int)).toNat * ii.size) = (List.replicate m z).toArray := by
    rw [hz1, hz, Int.toNat_natCast, Nat.mul_one]
    apply Array.ext
    · simp [madeCells]
    · intro i h1 h2
      simp [madeCells, Nat.mod_one]
  rw [e1, Int.toNat_natCast] at hr
  exact wpl_val (w' := w.alloc (.cells (List.replicate m z).toArray e)) rfl (by simp [execOp, hF.ev hx, hF.ev hy, hr]) (k w.heap.size _ _ (hF.put d _ hd) (hS.new _))
theorem ln_copyO {d i b m c m2 : Nat} {t t2 e e' : TypeId} {x y : Operand} {l news l' : List Value} {u : Value} (hi : H[i]? = some (.obj b (.cells l.toArray e'))) (hu : P.underlying t = some (.slice e)) (hsz : (P.info? e).map (·.size) = some 1)
    (hx : ev L x = some (.slice (some ⟨b, 0, none⟩) m c)) (hy : ev L y = some u) (hsrc : ∀ w, Sk s H w → SrcOk w 1 u m2 news) (hl : l.length = m) (hd : Nat.blt d n = true) (hl' : news.take m ++ l.drop m2 = l')
    (k : Ln P ops rest K n ((d, .int .i64 ((min m2 m : Nat) : Int)) :: L) (H.set i (.obj b (.cells l'.toArray e'))) C s) : Ln P ops (⟨some d, .call ⟨.builtin .copy, #[x, y], #[t, t2]⟩, ty, pos, af, none⟩ :: rest) K n L H C s := fun a w hF hS => by
  have hb := hS.sk.obj hi
  obtain ⟨s1, s2, s3⟩ := hsrc w hS.sk
  simp only [Nat.mul_one] at s1
  have hgi : ∀ k : Nat, goInt k = .int .i64 (k : Int) := fun k => rfl
  rcases s3 with ⟨rfl, h0⟩ | ⟨ad, c', rfl, hc⟩
  · subst h0
    have hn : news = [] := List.eq_nil_of_length_eq_zero s1
    subst hn
    simp only [List.take_nil, List.drop_zero, List.nil_append] at hl'
    subst hl'
    have hr := run_copy_none (P := P) w t t2 ty e (some ⟨b, 0, none⟩) none m c 0 0 hu hsz (by simp)
    have e : H.set i (.obj b (.cells l.toArray e')) = H := by
      obtain ⟨h1, h2⟩ := List.getElem?_eq_some_iff.1 hi
      rw [← h2, List.set_getElem_self]
    rw [e] at k
    refine wpl_val (w' := w) (v := .int .i64 ((min 0 m : Nat) : Int)) rfl ?_ (k _ _ (hF.put d _ hd) hS)
    simp [execOp, resolve, invoke, builtin, hF.ev hx, hF.ev hy, hr, hgi]
    rfl
  · have hlen : (news.take m).length = Nat.min m2 m := by
      rw [List.length_take, s1, Nat.min_comm]
      try rfl
    have hlo := run_loadCells_list (P := P) w ad (news.take m) (fun j v hv => hc j v (by
      have hj := (List.getElem?_eq_some_iff.1 hv).1
      rw [List.getElem?_take_of_lt (by simp at hj; omega)] at hv
      exact hv))
    obtain ⟨w', hr, hh, hm⟩ := run_storeList (P := P) (news.take m) w b 0 0 l e' hb (by
      rw [List.length_take]
      omega) (fun u hu => s2 u (List.mem_of_mem_take hu))
    have e2 : l.drop (Nat.min m2 m) = l.drop m2 := by
      by_cases h : m2 ≤ m
      · rw [show Nat.min m2 m = m2 from Nat.min_eq_left h]
      · rw [show Nat.min m2 m = m from Nat.min_eq_right (by omega), List.drop_of_length_le (by omega), List.drop_of_length_le (by omega)]
    refine wpl_val (w' := w') (v := .int .i64 ((min m2 m : Nat) : Int)) rfl ?_ (k _ _ (hF.put d _ hd) (hS.turn (e' := .obj b (.cells l'.toArray e')) hi (by simpa [Ent.blk] using hm) ?_ (by simp [Ent.blk]) (by simp [Ent.blk])))
    · have hcp : (Builtin.copy_ #[t, t2] ty #[.slice (some ⟨b, 0, none⟩) m c, .slice (some ad) m2 c']).run P w = .ok (goInt (news.take m).length) w' := by
        generalize news.take m = cs at *
        cases hq : P.info? e with
        | none => simp [hq] at hsz
        | some ii =>
          have hi1 : ii.size = 1 := by simpa [hq] using hsz
          simp [Builtin.copy_, run_underlying hu, Builtin.lenOf, Builtin.firstCells, sizeOf, typeInfo, hq, hi1, ← hlen, hlo, hr]
      rw [hlen] at hcp
      simp only [execOp, resolve, invoke, builtin, List.map_toArray, List.map_cons, List.map_nil, hF.ev hx, hF.ev hy]
      simp [hcp, hF.ev hx, hF.ev hy, builtin]
      rfl
    · subst hl'
      have := hh
      rw [hlen] at this
      simpa [Ent.ok, e2] using this
end
end K
end Go.Proofs.YtjjfpdofkdolnaaDoor
