import Derived.Test.YtlmpgefhnmfhpaaGreatSlM
set_option linter.unusedVariables false
namespace Go.Sl
open Go Go.ChangeShapes Go.WideShapes Go.RowKit
end Go.Sl
