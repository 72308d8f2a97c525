import Derived.Test.YtepbicjadambbabGreatDoorK2
import Derived.Laws.Slices
set_option linter.unusedVariables false
set_option linter.unusedSimpArgs false
namespace Go.Proofs.YtepbicjadambbabGreatDoor
namespace K
open Go Go.Lib
theorem u8v_lit {x : Int} (h0 : 0 ≤ x) (h1 : x < 256) : Value.int .u8 x = u8v (b8 x) := by rw [u8v, b8_val h0 h1]
end K
end Go.Proofs.YtepbicjadambbabGreatDoor
