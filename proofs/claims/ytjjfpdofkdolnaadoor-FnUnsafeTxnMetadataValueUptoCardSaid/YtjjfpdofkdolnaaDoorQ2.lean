import Derived.Test.YtjjfpdofkdolnaaDoorQ1
set_option linter.unusedVariables false
set_option linter.unusedSimpArgs false
namespace Go.Proofs.YtjjfpdofkdolnaaDoor
namespace K
open Go Go.Lib
theorem RK.len {s : Vw} {l : List (Nat × Value)} {u : Tags} (h : RK s l u) : l.length = u.length := by simpa using congrArg List.length h.keys
theorem Octs.rs {s : Vw} {c : Value} {y : Tre} (h : Octs s c y) (hz : y.z = false) : RSv s c y.s := by
  rcases h with ⟨h1, _⟩ | ⟨_, _, _, _, _, h2⟩
  · rw [hz] at h1; cases h1
  · exact h2
end K
end Go.Proofs.YtjjfpdofkdolnaaDoor
