import Derived.Test.YtekafeogilbjmaaGreatDoorP3
set_option linter.unusedVariables false
set_option linter.unusedSimpArgs false
namespace Go.Proofs.YtekafeogilbjmaaGreatDoor
namespace K
open Go Go.Lib
end K
end Go.Proofs.YtekafeogilbjmaaGreatDoor
