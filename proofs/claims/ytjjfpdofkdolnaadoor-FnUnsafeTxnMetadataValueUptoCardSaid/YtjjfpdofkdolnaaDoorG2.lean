import Derived.Test.YtjjfpdofkdolnaaDoorQ2
import Derived.Test.YtjjfpdofkdolnaaDoorSo
import Derived.Laws.MakeOwn
set_option linter.unusedVariables false
set_option linter.unusedSimpArgs false
namespace Go.Proofs.YtjjfpdofkdolnaaDoor
namespace K
open Go Go.Lib
section helpers
variable {P : Program} {n : Nat} {L : Env} {H E H0 : Hp} {C : Cx} {s : Vw} {p : Post} {ops : Array Oper} {rest : List Oper} {K : Act → World → Prop}
variable {ty : TypeId} {pos : String} {af : Array Edge}
theorem pv_iface {S : World → Prop} {d : Option Nat} {g : Option (Nat × Bool)} {t e : TypeId} {x : Operand} {v : Value} (hu : P.underlying t = some (.slice e)) (hx : ev L x = some v) : PV P S ⟨d, .makeInterface t x, ty, pos, af, g⟩ n L (.iface t v) := fun a w hF _ => by
  simp [execOp, hF.ev hx, Instr.makeInterface, run_underlying hu]
theorem run_callV {x : Operand} {f : FuncId} {cap : Array Value} (hent : Enters P f) {a : Act} {args : List Operand} {ts : Array TypeId} {d : Option Nat} {g : Option (Nat × Bool)} (w : World) (hx : a.eval x = .func (.func f) #[] cap) :
    (execOp a.eval ⟨d, .call ⟨.value x, args.toArray, ts⟩, ty, pos, af, g⟩).run P w = .ok (.enter f ((args.map a.eval).toArray ++ cap)) w := by
  have h := hent ((args.map a.eval).toArray ++ cap) w
  simp [execOp, resolve, hx, Deferred.ofValue, invoke]
  simpa using h
/-- the same over a closure that is at hand -/
theorem ln_callHv {f : FuncId} {d : Option Nat} {x : Operand} {args : List Operand} {ts : Array TypeId} {vals cap all : List Value} {R : Vw → Value → Hp → Prop} {E H0 : Hp} (hall : vals ++ cap = all) (hH : H.Perm (E ++ H0)) (hent : Enters P f) (hx : ev L x = some (.func (.func f) #[] cap.toArray)) (hargs : evs L args = some vals)
    (hc : ∀ t, Tr s t → HF E t.w → (∀ b ∈ blks E, t.av b) → (blks E).Nodup → CH P f all t E R)
    (hd : okd d n = true) (k : ∀ t v E', Tr s t → (∃ u, R u v E' ∧ Tr u t) → Ln P ops rest K n (putd d v L) (E' ++ H0) C t) : Ln P ops (⟨d, .call ⟨.value x, args.toArray, ts⟩, ty, pos, af, none⟩ :: rest) K n L H C s := fun a w hF hS0 => by
  have hS := hS0.perm hH
  have hr := run_callV (P := P) (ty := ty) (pos := pos) (af := af) hent (a := a) (args := args) (ts := ts) (d := d) (g := none) w (hF.ev hx)
  rw [hF.evs hargs, List.append_toArray, hall] at hr
  have hin : ∀ b ∈ blks E, b ∈ blks (E ++ H0) := fun b hb => by rw [blks_append]; exact List.mem_append.2 (.inl hb)
  have hndE : (blks E).Nodup := by have := hS.nd; rw [blks_append] at this; exact (List.nodup_append.1 this).1
  refine wpl_enter (R := fun v w' => ∃ E' : Hp, HF E' w' ∧ (∀ b ∈ blks E', b ∈ blks E ∨ w.heap.size ≤ b) ∧ (blks E').Nodup ∧ Mod (fun b => b ∈ blks E) w w' ∧ ∃ h : (∀ b, hS.vw.av b ∨ b ∈ blks E' → b < w'.heap.size), R ⟨w', fun b => hS.vw.av b ∨ b ∈ blks E', h⟩ v E') rfl hr
    ((hc hS.vw hS.tr (fun e he => hS.hf e (List.mem_append.2 (.inl he))) (fun b hb => .inl (hin b hb)) hndE).mono fun x w' ⟨v, E', he, h1, h2, h3, h4, h5, h6⟩ => ⟨v, he, E', h1, h2, h3, h4, h5, h6⟩) ?_
  rintro v w' ⟨E', hok, hb, hnd, hm, hlt, hR⟩
  have hS' := hS.turnH hm hok hb hnd
  have hFr : Fr n (putd d v L) (a.put d v) := by
    cases d with
    | some d => exact hF.put d v hd
    | none => exact hF
  refine k hS'.vw v E' hS'.tr ⟨_, hR, ?_⟩ _ _ hFr hS'.rebase
  refine ⟨Mod.refl _ _, fun b hb' => ?_⟩
  rcases hb' with hb' | hb'
  · rw [blks_append] at hb'
    rcases List.mem_append.1 hb' with h1 | h1
    · exact .inl (.inr h1)
    · exact .inl (.inl (.inl (by rw [blks_append]; exact List.mem_append.2 (.inr h1))))
  · exact .inl (.inl (.inr hb'))
theorem ln_make0 {d c : Nat} {t e : TypeId} {z : Value} {by_ : Nat} {x y : Operand} (hu : P.underlying t = some (.slice e)) (hti : TI P e z 1 by_) (hx : ev L x = some (.int .i64 0)) (hy : ev L y = some (.int .i64 (c : Int))) (hb : by_ * c ≤ 281474976710656) (hm : c ≤ maxLen) (hd : Nat.blt d n = true)
    (k : ∀ g, Ln P ops rest K n ((d, .slice (some ⟨g, 0, none⟩) 0 c) :: L) (.row (.slice (some ⟨g, 0, none⟩) 0 c) e 1 0 [] :: H) C s) : Ln P ops (⟨some d, .makeSlice t x y, ty, pos, af, none⟩ :: rest) K n L H C s := fun a w hF hS => by
  obtain ⟨ii, hii, hz0, hz1, hz2⟩ := info_parts hti
  obtain ⟨w', hr, hown, hg⟩ := run_make_own (P := P) w 0 t e ii z 1 hu hii hz0 hz1 .i64 .i64 c (by rw [hz2]; exact hb) hm (Nat.zero_le _)
  have hS' : St C s (.row (.slice none 0 0) e 1 0 [] :: H) w := hS.nilrow e 1
  have hsz := hown.2
  refine wpl_val (w' := w') rfl (by simp [execOp, hF.ev hx, hF.ev hy, hr]) (k w.heap.size _ _ (hF.put d _ hd) (hS'.turn (i := 0) (e' := .row (.slice (some ⟨w.heap.size, 0, none⟩) 0 c) e 1 0 []) rfl (Mod.grown hg (by simp)) hown (fun b hb => .inr (by simp only [Ent.blk, Value.ownBlock, Option.toList_some, List.mem_singleton] at hb; omega)) (by simp [Ent.blk, Value.ownBlock])))
end helpers
end K
end Go.Proofs.YtjjfpdofkdolnaaDoor
