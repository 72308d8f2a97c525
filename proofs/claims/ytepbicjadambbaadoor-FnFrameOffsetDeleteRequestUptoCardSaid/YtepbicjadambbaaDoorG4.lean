import Derived.Test.YtepbicjadambbaaDoorG3
set_option linter.unusedVariables false
set_option linter.unusedSimpArgs false
namespace Go.Proofs.YtepbicjadambbaaDoor
namespace K
open Go Go.Lib
end K
end Go.Proofs.YtepbicjadambbaaDoor
