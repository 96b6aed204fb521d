/- The package variables that the walks read, by number (of an array's element: the number and 1048576 times its place), with what they hold. -/
import Derived.WalkKit
namespace Go.Vm
def Globs : List (Nat × Value) := []
/-- Package variables that hold an error. -/
def GlobsE : List Nat := []
end Go.Vm
