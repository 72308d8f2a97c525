import Derived.Test.YtekafeogilbjmaaDoorG3
set_option linter.unusedVariables false
set_option linter.unusedSimpArgs false
namespace Go.Proofs.YtekafeogilbjmaaDoor
namespace K
open Go Go.Lib
end K
end Go.Proofs.YtekafeogilbjmaaDoor
