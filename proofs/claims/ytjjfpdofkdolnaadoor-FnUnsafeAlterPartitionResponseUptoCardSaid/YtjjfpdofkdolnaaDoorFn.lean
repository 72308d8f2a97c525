import Derived.Test.YtjjfpdofkdolnaaDoorFd
import Derived.Laws.IdiomCopy
set_option linter.unusedVariables false
set_option linter.unusedSimpArgs false
namespace Go.Proofs.YtjjfpdofkdolnaaDoor
namespace K
open Go Go.Lib
section
variable {P : Program} {n : Nat} {L : Env} {H : Hp} {C : Cx} {s : Vw} {p : Post} {ops : Array Oper} {rest : List Oper} {K : Act → World → Prop}
variable {ty : TypeId} {pos : String} {af : Array Edge}
/-! ### Calls that hand back a row of their own -/
theorem ownsRow_one {w : World} {e : TypeId} {sz m : Nat} {v : Value} {xs : List Value} (h : w.ownsRow 0 e sz v m xs) : v.oneCell' = true := by
  obtain ⟨ad, c, rfl, _⟩ := ownsRow_shape h
  rfl
theorem row_rs {j m sz : Nat} {v : Value} {e : TypeId} {xs : List Value} {t : Vw} {w : World} (hS : St ⟨t, No⟩ s H w) (hj : H[j]? = some (.row v e sz m xs)) (h1 : ∀ u ∈ xs, u.oneCell' = true) : RS hS.fin sz v m xs :=
  Row.rs (t := hS.fin) (hS.hf _ (List.mem_of_getElem? hj)) (fun b hb => fresh hS hj hb) h1
/-- an acting operation whose guard says yes -/
theorem ln_gE {d : Option Nat} {j t : Nat} {op : Op} {b : Bool} {o : Oper} (ho : ops[j]? = some o) (hj : o.dst = some t) (hb : lk L t = some (.bool b)) (k : Ln P ops (⟨d, op, ty, pos, af, none⟩ :: rest) K n L H C s) : Ln P ops (⟨d, op, ty, pos, af, some (j, b)⟩ :: rest) K n L H C s := fun a w hF hS => by
  have h := k a w hF hS
  unfold wpList at h ⊢
  rw [if_pos (by simp [Region.wanted])] at h
  rw [if_pos (by simp [Region.wanted, hF.yield ho hj hb])]
  exact h
/-! ### make of a slice; copy -/
theorem ln_copyO {d i b m c m2 : Nat} {t t2 e e' : TypeId} {x y : Operand} {l news l' : List Value} {u : Value} (hi : H[i]? = some (.obj b (.cells l.toArray e'))) (hu : P.underlying t = some (.slice e)) (hsz : (P.info? e).map (·.size) = some 1)
    (hx : ev L x = some (.slice (some ⟨b, 0, none⟩) m c)) (hy : ev L y = some u) (hsrc : ∀ w, Sk s H w → SrcOk w 1 u m2 news) (hl : l.length = m) (hd : Nat.blt d n = true) (hl' : news.take m ++ l.drop m2 = l')
    (k : Ln P ops rest K n ((d, .int .i64 ((min m2 m : Nat) : Int)) :: L) (H.set i (.obj b (.cells l'.toArray e'))) C s) : Ln P ops (⟨some d, .call ⟨.builtin .copy, #[x, y], #[t, t2]⟩, ty, pos, af, none⟩ :: rest) K n L H C s := fun a w hF hS => by
  have hb := hS.sk.obj hi
  obtain ⟨s1, s2, s3⟩ := hsrc w hS.sk
  simp only [Nat.mul_one] at s1
  have hgi : ∀ k : Nat, goInt k = .int .i64 (k : Int) := fun k => rfl
  rcases s3 with ⟨rfl, h0⟩ | ⟨ad, c', rfl, hc⟩
  · subst h0
    have hn : news = [] := List.eq_nil_of_length_eq_zero s1
    subst hn
    simp only [List.take_nil, List.drop_zero, List.nil_append] at hl'
    subst hl'
    have hr := run_copy_none (P := P) w t t2 ty e (some ⟨b, 0, none⟩) none m c 0 0 hu hsz (by simp)
    have e : H.set i (.obj b (.cells l.toArray e')) = H := by
      obtain ⟨h1, h2⟩ := List.getElem?_eq_some_iff.1 hi
      rw [← h2, List.set_getElem_self]
    rw [e] at k
    refine wpl_val (w' := w) (v := .int .i64 ((min 0 m : Nat) : Int)) rfl ?_ (k _ _ (hF.put d _ hd) hS)
    simp [execOp, resolve, invoke, builtin, hF.ev hx, hF.ev hy, hr, hgi]
    rfl
  · have hlen : (news.take m).length = Nat.min m2 m := by
      rw [List.length_take, s1, Nat.min_comm]
      try rfl
    have hlo := run_loadCells_list (P := P) w ad (news.take m) (fun j v hv => hc j v (by
      have hj := (List.getElem?_eq_some_iff.1 hv).1
      rw [List.getElem?_take_of_lt (by simp at hj; omega)] at hv
      exact hv))
    obtain ⟨w', hr, hh, hm⟩ := run_storeList (P := P) (news.take m) w b 0 0 l e' hb (by
      rw [List.length_take]
      omega) (fun u hu => s2 u (List.mem_of_mem_take hu))
    have e2 : l.drop (Nat.min m2 m) = l.drop m2 := by
      by_cases h : m2 ≤ m
      · rw [show Nat.min m2 m = m2 from Nat.min_eq_left h]
      · rw [show Nat.min m2 m = m from Nat.min_eq_right (by omega), List.drop_of_length_le (by omega), List.drop_of_length_le (by omega)]
    refine wpl_val (w' := w') (v := .int .i64 ((min m2 m : Nat) : Int)) rfl ?_ (k _ _ (hF.put d _ hd) (hS.turn (e' := .obj b (.cells l'.toArray e')) hi (by simpa [Ent.blk] using hm) ?_ (by simp [Ent.blk]) (by simp [Ent.blk])))
    · have hcp : (Builtin.copy_ #[t, t2] ty #[.slice (some ⟨b, 0, none⟩) m c, .slice (some ad) m2 c']).run P w = .ok (goInt (news.take m).length) w' := by
        generalize news.take m = cs at *
        cases hq : P.info? e with
        | none => simp [hq] at hsz
        | some ii =>
          have hi1 : ii.size = 1 := by simpa [hq] using hsz
          simp [Builtin.copy_, run_underlying hu, Builtin.lenOf, Builtin.firstCells, sizeOf, typeInfo, hq, hi1, ← hlen, hlo, hr]
      rw [hlen] at hcp
      simp only [execOp, resolve, invoke, builtin, List.map_toArray, List.map_cons, List.map_nil, hF.ev hx, hF.ev hy]
      simp [hcp, hF.ev hx, hF.ev hy, builtin]
      rfl
    · subst hl'
      have := hh
      rw [hlen] at this
      simpa [Ent.ok, e2] using this
end
end K
end Go.Proofs.YtjjfpdofkdolnaaDoor
