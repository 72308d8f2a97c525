import Derived.Test.YtjjfpdofkdolnaaDoorG3
set_option linter.unusedVariables false
set_option linter.unusedSimpArgs false
namespace Go.Proofs.YtjjfpdofkdolnaaDoor
namespace K
open Go Go.Lib
end K
end Go.Proofs.YtjjfpdofkdolnaaDoor
