import Derived.Test.YtjjfpdofkdolnaaDoorG4
set_option linter.unusedVariables false
set_option linter.unusedSimpArgs false
namespace Go.Proofs.YtjjfpdofkdolnaaDoor
namespace K
open Go Go.Lib
/-! ### unknown tags: sorted, each once -/
/-! ### flat schemas -/
def flatF (f : Fld) : Bool := decide (f.tag < 0) && decide (f.kind ≠ 10) && decide (f.kind ≠ 11) && decide (f.of_ ≠ 11)
theorem flatF.all {f : Fld} (h : flatF f = true) : f.tag < 0 ∧ f.kind ≠ 10 ∧ f.kind ≠ 11 ∧ f.of_ ≠ 11 := by
  simp only [flatF, Bool.and_eq_true, decide_eq_true_eq] at h
  exact ⟨h.1.1.1, h.1.1.2, h.1.2, h.2⟩
theorem known_neg : ∀ (n : Nat) (l : List Fld), l.length = n → (∀ g ∈ l, g.tag < 0) → known l = 0
  | 0, l, hn, _ => by
    have := List.eq_nil_of_length_eq_zero hn
    subst this
    rfl
  | n + 1, l, hn, h => by
    have hne : l ≠ [] := by intro e; subst e; simp at hn
    have e := List.dropLast_concat_getLast hne
    rw [← e, known_snoc, if_neg (by have := h _ (List.getLast_mem hne); omega)]
    exact known_neg n _ (by simp [hn]) fun g hg => h g (List.dropLast_subset _ hg)
/-! ### how long it is -/
end K
end Go.Proofs.YtjjfpdofkdolnaaDoor
namespace Go.Proofs.YtjjfpdofkdolnaaDoor
namespace K
open Go Go.Lib
theorem tn {n : Int} {s : List UInt8} {z : Bool} {l : List Tre} {u : List (Nat × List UInt8)} : (Tre.mk n s z l u).n = n := rfl
theorem ts {n : Int} {s : List UInt8} {z : Bool} {l : List Tre} {u : List (Nat × List UInt8)} : (Tre.mk n s z l u).s = s := rfl
theorem tz {n : Int} {s : List UInt8} {z : Bool} {l : List Tre} {u : List (Nat × List UInt8)} : (Tre.mk n s z l u).z = z := rfl
theorem tl {n : Int} {s : List UInt8} {z : Bool} {l : List Tre} {u : List (Nat × List UInt8)} : (Tre.mk n s z l u).l = l := rfl
/-! ### what can be set: it is written as it stands -/
mutual
def keysT : Tre → Prop
  | .mk _ _ _ l u => (∀ y ∈ u, y.1 < 4294967296) ∧ keysTs l
def keysTs : List Tre → Prop
  | [] => True
  | x :: r => keysT x ∧ keysTs r
end
theorem keysTs.mem : ∀ {l : List Tre}, keysTs l → ∀ x ∈ l, keysT x
  | [], _, f, h => by simp at h
  | g :: r, h, f, hf => by
    simp only [keysTs] at h
    rcases List.mem_cons.1 hf with rfl | hf
    · exact h.1
    · exact keysTs.mem h.2 f hf
theorem keysT.open {x : Tre} (h : keysT x) : (∀ y ∈ x.u, y.1 < 4294967296) ∧ keysTs x.l := by
  cases x
  simpa only [keysT, Tre.l, Tre.u] using h
theorem keysT.nul : keysT .nul := by simp [Tre.nul, keysT, keysTs]
theorem keysT.at_ {x : Tre} (h : keysT x) (i : Nat) : keysT (x.at_ i) := by
  unfold Tre.at_
  by_cases hi : i < x.l.length
  · rw [List.getElem?_eq_getElem hi]
    exact keysTs.mem h.open.2 _ (List.getElem_mem hi)
  · rw [List.getElem?_eq_none (by omega)]
    exact keysT.nul
theorem RUs.keys {s : Vw} : ∀ {u : Tags} {cs : List Value}, RUs s u cs → ∀ y ∈ u, y.1 < 4294967296
  | [], _, _, y, hy => by simp at hy
  | (k, b) :: r, cs, ⟨v, c', h1, h2, h3, h4⟩, y, hy => by
    rcases List.mem_cons.1 hy with rfl | hy
    · exact h2
    · exact RUs.keys h4 y hy
mutual
theorem RT.keys {s : Vw} : ∀ {x : Tre} {cs : List Value}, RT s x cs → keysT x
  | .mk n b z l u, cs, h => by
    simp only [RT] at h
    obtain ⟨sS, sL, sU, _, _, _, ⟨lc, _, h5⟩, ⟨uc, _, h7⟩⟩ := h
    simp only [keysT]
    exact ⟨RUs.keys h7, RTs.keys h5⟩
theorem RTs.keys {s : Vw} : ∀ {l : List Tre} {cs : List Value}, RTs s l cs → keysTs l
  | [], cs, h => by simp [keysTs]
  | x :: r, cs, h => by
    simp only [RTs] at h
    obtain ⟨c, c', _, h2, h3⟩ := h
    simp only [keysTs]
    exact ⟨RT.keys h2, RTs.keys h3⟩
end
/-! ### it is written as what was asked -/
end K
end Go.Proofs.YtjjfpdofkdolnaaDoor
namespace Go.Proofs.YtjjfpdofkdolnaaDoor
namespace K
open Go Go.Lib
/-! ### how long it is -/
end K
end Go.Proofs.YtjjfpdofkdolnaaDoor
namespace Go.Proofs.YtjjfpdofkdolnaaDoor
namespace K
open Go Go.Lib
end K
end Go.Proofs.YtjjfpdofkdolnaaDoor
