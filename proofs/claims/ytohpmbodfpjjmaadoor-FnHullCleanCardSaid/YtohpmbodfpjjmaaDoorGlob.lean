/- The package variables that the walks read, by number, with what they hold. -/
import Derived.WalkKit
namespace Go.Vm
def Globs : List (Nat × Value) := [(1, .float .f64 4382569440205035030)]
end Go.Vm
