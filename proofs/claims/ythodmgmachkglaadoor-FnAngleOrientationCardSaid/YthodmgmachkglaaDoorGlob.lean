/- The package variables that the walks read, by number (of an array's element: the number and 1048576 times its place), with what they hold. -/
import Derived.WalkKit
namespace Go.Vm
def Globs : List (Nat × Value) := [(2, .float .f64 4460209587652500685), (1048578, .float .f64 13716528389658582877), (2097154, .float .f64 4523617212962785441), (3145730, .float .f64 13774824197404483331), (4194306, .float .f64 4575957461383575504), (5242882, .float .f64 13818544856648471880), (1, .float .f64 13666448263388469915), (1048577, .float .f64 4477121864728985349), (2097153, .float .f64 13732177093698800582), (3145729, .float .f64 4537941361668146421), (4194305, .float .f64 13787419979223748497), (5242881, .float .f64 4586165620538955083)]
/-- Package variables that hold an error. -/
def GlobsE : List Nat := []
end Go.Vm
