/- The package variables that the walks read, by number (of an array's element: the number and 1048576 times its place), with what they hold. -/
import Derived.WalkKit
namespace Go.Vm
def Globs : List (Nat × Value) := [(0, .string ⟨#[109, 97, 116, 58, 32, 114, 111, 119, 32, 105, 110, 100, 101, 120, 32, 111, 117, 116, 32, 111, 102, 32, 114, 97, 110, 103, 101]⟩), (1, .string ⟨#[109, 97, 116, 58, 32, 99, 111, 108, 117, 109, 110, 32, 105, 110, 100, 101, 120, 32, 111, 117, 116, 32, 111, 102, 32, 114, 97, 110, 103, 101]⟩)]
/-- Package variables that hold an error. -/
def GlobsE : List Nat := []
end Go.Vm
