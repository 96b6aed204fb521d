/- The package variables that the walks read, by number (of an array's element: the number and 1048576 times its place), with what they hold. -/
import Derived.WalkKit
namespace Go.Vm
def Globs : List (Nat × Value) := []
/-- Package variables that hold an error. -/
def GlobsE : List Nat := []
/-- Package variables that hold an error that is a pointer. -/
def GlobsP : List Nat := []
/-- A type of pointers, which can be compared. -/
def cmpP (P : Program) (u : TypeId) : Bool := match P.info? u, P.underlying u with
  | some i, some (.pointer el) => i.comparable && (P.info? el).isSome
  | _, _ => false
/-- What is known of such an error's type. -/
def ErrT (t : TypeId) : Prop := True -- T
end Go.Vm
