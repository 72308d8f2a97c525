import Derived.Test.YtjjfpdofkdolnaaDoorR1
import Derived.Laws.MakeOwn
import Derived.Test.YtjjfpdofkdolnaaDoorP4
set_option linter.unusedVariables false
set_option linter.unusedSimpArgs false
namespace Go.Proofs.YtjjfpdofkdolnaaDoor
namespace K
open Go Go.Lib
/-! ### Code that fills a struct out of a tree -/
section
variable {P : Program} {n : Nat} {L : Env} {H H' : Hp} {C : Cx} {s : Vw} {N R : Act → World → Prop} {X : List (Nat × (Act → World → Prop))} {K : Act → World → Prop} {p : Post} {ops : Array Oper} {rest : List Oper}
variable {ty : TypeId} {pos : String} {af : Array Edge}
theorem blks_cons (e : Ent) (H : Hp) : blks (e :: H) = e.blk ++ blks H := by simp [blks, List.flatMap_cons]
/-- one thing that the call has made is let go: from here on it is old memory -/
theorem st_free1 {e : Ent} {w : World} (hO : ∀ q, C.O q → q ∈ blks H) (hS : St C s (e :: H) w) : ∃ t : Vw, Tr s t ∧ Known t e ∧ St C t H w := by
  have hnd := hS.nd
  rw [blks_cons] at hnd
  obtain ⟨n1, n2, n3⟩ := List.nodup_append.1 hnd
  have hin : ∀ b ∈ e.blk, b ∈ blks (e :: H) := fun b hb => by rw [blks_cons]; exact List.mem_append.2 (.inl hb)
  have hfresh : ∀ b ∈ e.blk, ¬ C.t.av b := fun b hb h => by
    have h1 := (hS.own b (hin b hb)).2
    have h2 := C.t.lt b h
    rcases h1 with h3 | h3
    · exact n3 b hb b (hO b h3) rfl
    · exact absurd h3 (by show ¬ C.t.w.heap.size ≤ b; omega)
  refine ⟨⟨w, fun b => (b ∈ blks H ∨ s.av b) ∧ b ∉ e.blk, fun b hb => hb.1.elim (fun h => hS.hf.lt (by rw [blks_cons]; exact List.mem_append.2 (.inr h))) (fun h => Nat.lt_of_lt_of_le (s.lt b h) hS.mod.size)⟩,
    ⟨hS.mod.mono fun _ _ h => h.1, fun b hb => hb.1.elim (fun h => (hS.own b (by rw [blks_cons]; exact List.mem_append.2 (.inr h))).1) .inl⟩, ?_, ?_⟩
  · cases e with
    | obj b o => exact ⟨fun h => h.2 (by simp [Ent.blk]), hS.hf (.obj b o) (by simp)⟩
    | row v e sz m xs => exact ⟨hS.hf (.row v e sz m xs) (by simp), fun b hb h => h.2 (by simp [Ent.blk, hb])⟩
  · exact ⟨hS.whole, Mod.refl _ _, fun x hx => hS.hf x (List.mem_cons_of_mem _ hx), fun b hb => ⟨.inl ⟨.inl hb, fun h => n3 b h b hb rfl⟩, (hS.own b (by rw [blks_cons]; exact List.mem_append.2 (.inr hb))).2⟩, n2,
      fun b hb => ⟨.inr (hS.up b hb), fun h => hfresh b h hb⟩⟩
theorem at_free1 {e : Ent} (hO : ∀ q, C.O q → q ∈ blks H) (k : ∀ t, Tr s t → Known t e → At K n L H C t) : At K n L (e :: H) C s := fun a w hF hS => by
  obtain ⟨t, h1, h2, h3⟩ := st_free1 hO hS
  exact k t h1 h2 a w hF h3
theorem cd_free1 {e : Ent} {c : Code} (hO : ∀ q, C.O q → q ∈ blks H) (k : ∀ t, Tr s t → Known t e → Cd P c p n L H C t) : Cd P c p n L (e :: H) C s := fun a w hF hS => by
  obtain ⟨t, h1, h2, h3⟩ := st_free1 hO hS
  exact k t h1 h2 a w hF h3
theorem ln_free1 {e : Ent} {l : List Oper} (hO : ∀ q, C.O q → q ∈ blks H) (k : ∀ t, Tr s t → Known t e → Ln P ops l K n L H C t) : Ln P ops l K n L (e :: H) C s := fun a w hF hS => by
  obtain ⟨t, h1, h2, h3⟩ := st_free1 hO hS
  exact k t h1 h2 a w hF h3
theorem cd_dropH {c : Code} (hs : H'.Sublist H) (k : Cd P c p n L H' C s) : Cd P c p n L H C s := fun a w hF hS => k a w hF (hS.sub hs)
end
section
variable {n : Nat} {L : Env} {H H0 : Hp} {C : Cx} {s : Vw} {N R : Act → World → Prop} {X : List (Nat × (Act → World → Prop))} {K : Act → World → Prop} {ops : Array Oper} {rest : List Oper}
variable {id id' id1 id2 id3 id4 : Nat} {tt ti tl ts tc te tx d0 d1 d2 d3 d4 d5 d6 d7 d8 : Nat} {x : Tre} {tcs : List Value} {bt bm off j i0 : Nat} {MT : TypeId} {M : List Value}
variable {ty0 ty1 ty2 ty3 ty4 ty5 ty6 ty7 ty8 ty9 : TypeId} {p0 p1 p2 p3 p4 p5 p6 p7 p8 p9 : String} {a0 a1 a2 a3 a4 a5 a6 a7 a8 a9 : Array Edge} {tys : Array TypeId}
variable {uy1 uy2 uy3 uy4 uy5 uy6 : TypeId} {q1 q2 q3 q4 q5 q6 : String} {c1 c2 c3 c4 c5 c6 : Array Edge}
abbrev MsgBox (bm : Nat) (MT : TypeId) (M : List Value) : Ent := .obj bm (.cells M.toArray MT)
theorem seg_app {xs c : List Value} {i j ez : Nat} (hl : xs.length = i * ez) (hc : c.length = ez) : (j < i → seg (xs ++ c) j ez = seg xs j ez) ∧ seg (xs ++ c) i ez = c := by
  refine ⟨fun hj => ?_, ?_⟩
  · have h1 : (j + 1) * ez ≤ i * ez := Nat.mul_le_mul_right _ hj
    rw [Nat.succ_mul] at h1
    unfold seg
    rw [List.drop_append_of_le_length (by omega), List.take_append_of_le_length (by rw [List.length_drop]; omega)]
  · unfold seg
    rw [← hl, List.drop_left, List.take_of_length_le (by omega)]
end
end K
end Go.Proofs.YtjjfpdofkdolnaaDoor
namespace Go.Proofs.YtjjfpdofkdolnaaDoor
namespace K
open Go Go.Lib
def mapV : Option Nat → Value
  | none => .map none
  | some m => .map (some m)
def mapE : Option Nat → List (Nat × Value) → Hp
  | none, _ => []
  | some m, l => [.obj m (.map (ME l) l.length)]
theorem set_set {M : List Value} {off : Nat} {a b : Value} : (M.set off a).set off b = M.set off b := by simp
theorem set_get {M : List Value} {off : Nat} {a : Value} (h : off < M.length) : (M.set off a)[off]? = some a := by simp [h]
theorem tags_SetU (t : Vw) (b off k : Nat) (M : List Value) (ty : TypeId) (v : Value) (mo : Option Nat) (l : List (Nat × Value)) (hlt : off < M.length) (h0 : mo = none → l = []) (hnew : ∀ x ∈ l, x.1 ≠ k) (hok : HF (mapE mo l ++ [.obj b (.cells (M.set off (mapV mo)).toArray ty)]) t.w)
    (hav : ∀ q ∈ blks (mapE mo l ++ [.obj b (.cells (M.set off (mapV mo)).toArray ty)]), t.av q) (hnd : (blks (mapE mo l ++ [.obj b (.cells (M.set off (mapV mo)).toArray ty)])).Nodup) :
    CH Tryd.prog 146 [.pointer (some ⟨b, off, none⟩), .int .u32 (k : Int), v] t (mapE mo l ++ [.obj b (.cells (M.set off (mapV mo)).toArray ty)]) fun u r E' => ∃ m, E' = mapE (some m) (l ++ [(k, v)]) ++ [.obj b (.cells (M.set off (mapV (some m))).toArray ty)] := by
  cases mo with
  | none =>
    obtain rfl := h0 rfl
    have := tags_Set0 t b off k (M.set off (.map none)) ty v (set_get hlt) hok hav hnd
    refine Calls.mono this fun e w' ⟨r, E', he, h1, h2, h3, h4, h5, m, h6⟩ => ⟨r, E', he, h1, h2, h3, h4, h5, m, ?_⟩
    rw [h6, set_set]
    rfl
  | some m =>
    have := tags_Set1 t b off k m (M.set off (.map (some m))) ty v l (set_get hlt) hnew hok hav hnd
    refine Calls.mono this fun e w' ⟨r, E', he, h1, h2, h3, h4, h5, h6⟩ => ⟨r, E', he, h1, h2, h3, h4, h5, m, ?_⟩
    rw [h6]
    rfl
section
variable {n : Nat} {L : Env} {H H0 : Hp} {C : Cx} {s : Vw} {N R : Act → World → Prop} {X : List (Nat × (Act → World → Prop))} {K : Act → World → Prop} {ops : Array Oper} {rest : List Oper}
variable {id id' id1 id2 id3 id4 : Nat} {tt ti tl ts tc te tx pm d0 d1 d2 d3 d4 d5 d6 d7 d8 : Nat} {x : Tre} {tcs : List Value} {bt bm off j i0 kf : Nat} {MT : TypeId} {M : List Value}
variable {ty0 ty1 ty2 ty3 ty4 ty5 ty6 ty7 ty8 ty9 : TypeId} {p0 p1 p2 p3 p4 p5 p6 p7 p8 p9 : String} {a0 a1 a2 a3 a4 a5 a6 a7 a8 a9 : Array Edge} {tys : Array TypeId}
variable {uy1 uy2 uy3 uy4 uy5 uy6 : TypeId} {q1 q2 q3 q4 q5 q6 : String} {c1 c2 c3 c4 c5 c6 : Array Edge}
variable {fs : Array Field} {sz : Nat} {fl : Field}
theorem set_perm {mo : Option Nat} {l : List (Nat × Value)} {e1 e2 : Ent} {H0 : Hp} : (e1 :: (mapE mo l ++ e2 :: H0)).Perm ((mapE mo l ++ [e2]) ++ (e1 :: H0)) := by
  have h : (mapE mo l ++ [e2]) ++ (e1 :: H0) = (mapE mo l ++ [e2]) ++ e1 :: H0 := rfl
  rw [h]
  refine List.Perm.trans ?_ List.perm_middle.symm
  simp
end
end K
end Go.Proofs.YtjjfpdofkdolnaaDoor
