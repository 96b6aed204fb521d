/- The package variables that the walks read, by number, with what they hold. -/
import Derived.WalkKit
namespace Go.Vm
def Globs : List (Nat × Value) := []
/-- Package variables that hold an error. -/
def GlobsE : List Nat := [10, 6, 8, 7, 11, 5, 9, 4]
end Go.Vm
