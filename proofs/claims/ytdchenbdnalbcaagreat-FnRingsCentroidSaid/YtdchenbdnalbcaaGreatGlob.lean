/- The package variables that the walks read, by number, with what they hold. -/
import Derived.WalkKit
namespace Go.Vm
def Globs : List (Nat × Value) := []
/-- Package variables that hold an error. -/
def GlobsE : List Nat := []
end Go.Vm
