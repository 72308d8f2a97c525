import Derived.Test.YtekafeogilbjmaaGreatDoorQ1
set_option linter.unusedVariables false
set_option linter.unusedSimpArgs false
namespace Go.Proofs.YtekafeogilbjmaaGreatDoor
namespace K
open Go Go.Lib
theorem nodup_new {l : List (Nat × Value)} {u : Tags} {j : Nat} (hj : j < u.length) (hk : l.map (·.1) = (u.take j).map (·.1)) (hn : (u.map (·.1)).Nodup) : ∀ y ∈ l, y.1 ≠ u[j].1 := fun y hy he => by
  have h1 : u[j].1 ∈ (u.take j).map (·.1) := by rw [← hk, ← he]; exact List.mem_map_of_mem hy
  have h2 : (u.map (·.1)).take (j + 1) = (u.take j).map (·.1) ++ [u[j].1] := by
    rw [← List.map_take, take_snoc' hj, List.map_append]; rfl
  have h3 := hn.sublist (List.take_sublist (j + 1) (u.map (·.1)))
  rw [h2] at h3
  exact (List.nodup_append.1 h3).2.2 _ h1 _ (by simp) rfl
theorem RK.len {s : Vw} {l : List (Nat × Value)} {u : Tags} (h : RK s l u) : l.length = u.length := by simpa using congrArg List.length h.keys
theorem Octs.rs {s : Vw} {c : Value} {y : Tre} (h : Octs s c y) (hz : y.z = false) : RSv s c y.s := by
  rcases h with ⟨h1, _⟩ | ⟨_, _, _, _, _, h2⟩
  · rw [hz] at h1; cases h1
  · exact h2
end K
end Go.Proofs.YtekafeogilbjmaaGreatDoor
