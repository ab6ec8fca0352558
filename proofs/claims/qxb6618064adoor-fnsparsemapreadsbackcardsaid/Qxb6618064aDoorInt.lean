/- strconv.AppendInt at base 10, laid at this dump. -/
import Derived.Test.Qxb6618064aDoorHole
import Derived.Shelf.Strconv.AppendIntPublic10
import Derived.Shelf.Lay
import Derived.Ground.NamesProg
set_option linter.unusedVariables false
namespace Go.Proofs
open Go.Shelf
shelf_lay LaysM.n176 Nm 176 at Tryd as Tryd.lays176
end Go.Proofs
