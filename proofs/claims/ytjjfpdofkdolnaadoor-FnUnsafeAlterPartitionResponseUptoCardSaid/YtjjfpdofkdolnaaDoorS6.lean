import Derived.Test.YtjjfpdofkdolnaaDoorS5
set_option linter.unusedVariables false
set_option linter.unusedSimpArgs false
namespace Go.Proofs.YtjjfpdofkdolnaaDoor
namespace K
open Go Go.Lib
theorem smTs.take {l : List Tre} (h : smTs l) (k i : Nat) (hi : i < (l.take k).length) : smT (l.take k)[i] := smTs.mem h _ (List.mem_of_mem_take (List.getElem_mem hi))
end K
end Go.Proofs.YtjjfpdofkdolnaaDoor
