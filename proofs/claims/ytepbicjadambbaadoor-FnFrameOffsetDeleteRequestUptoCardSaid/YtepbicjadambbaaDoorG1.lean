import Derived.Test.YtepbicjadambbaaDoorK2
set_option linter.unusedVariables false
set_option linter.unusedSimpArgs false
namespace Go.Proofs.YtepbicjadambbaaDoor
namespace K
open Go Go.Lib
def ME (l : List (Nat × Value)) : Array MapEntry := (l.zipIdx.map fun x => (⟨.int .u32 (x.1.1 : Int), x.1.2, x.2⟩ : MapEntry)).toArray
theorem ME_nil : ME [] = #[] := rfl
theorem ME_snoc (l : List (Nat × Value)) (k : Nat) (v : Value) : ME (l ++ [(k, v)]) = (ME l).push ⟨.int .u32 (k : Int), v, l.length⟩ := by simp [ME, List.zipIdx_append]
theorem ME_size (l : List (Nat × Value)) : (ME l).size = l.length := by simp [ME]
theorem ME_mem {l : List (Nat × Value)} {e : MapEntry} (h : e ∈ (ME l).toList) : ∃ i, ∃ hi : i < l.length, e = ⟨.int .u32 (l[i].1 : Int), l[i].2, i⟩ := by
  simp only [ME, List.mem_map] at h
  obtain ⟨x, hx, rfl⟩ := h
  obtain ⟨h1, h2, h3⟩ := List.mem_zipIdx hx
  simp only [Nat.zero_add, Nat.sub_zero] at h1 h2 h3
  exact ⟨x.2, h2, by rw [← h3]⟩
theorem ME_keys (l : List (Nat × Value)) : ∀ e ∈ (ME l).toList, ∃ q', e.key = .int .u32 q' := fun e he => by
  obtain ⟨i, hi, rfl⟩ := ME_mem he
  exact ⟨_, rfl⟩
theorem ME_new {l : List (Nat × Value)} {k : Nat} (h : ∀ x ∈ l, x.1 ≠ k) : ∀ e ∈ (ME l).toList, e.key ≠ .int .u32 (k : Int) := fun e he => by
  obtain ⟨i, hi, rfl⟩ := ME_mem he
  intro hq
  simp only [Value.int.injEq, true_and] at hq
  exact h _ (List.getElem_mem hi) (by omega)
/-- The tags as they lie in memory. -/
def MK (s : Vw) (mv : Value) (l : List (Nat × Value)) : Prop := (mv = .map none ∧ l = []) ∨ ∃ m, mv = .map (some m) ∧ OB s m (.map (ME l) l.length)
theorem MK.mv {s t : Vw} {mv : Value} {l : List (Nat × Value)} (h : MK s mv l) (ht : Tr s t) : MK t mv l := h.imp id fun ⟨m, h1, h2⟩ => ⟨m, h1, h2.mv ht⟩
end K
end Go.Proofs.YtepbicjadambbaaDoor
