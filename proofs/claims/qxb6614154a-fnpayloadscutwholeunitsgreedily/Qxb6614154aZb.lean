/-
  zzBytes by contracts.
-/
import Derived.Test.Qxb6614154aUis
namespace Go.Proofs.Qxb6614154a
open Go.ChangeShapes Go.WideShapes Go.ChangeAt Go.RowKit
set_option linter.unusedSimpArgs false
set_option linter.unusedVariables false
/-- some bool, the world as it was -/
def SomeB (w : World) (r : Ending) (w' : World) : Prop := ∃ b, r = .returned (.bool b) ∧ w' = w
theorem SomeB.mk (w : World) (b : Bool) : SomeB w (.returned (.bool b)) w := ⟨b, rfl, rfl⟩

set_option maxHeartbeats 2000000 in
theorem zb20 (e m : Int) (x1 x2 x3 x4 x5 x6 x7 x8 x9 x10 : Option Addr) (n1 n2 n3 n4 n5 n6 n7 n8 n9 n10 c1 c2 c3 c4 c5 c6 c7 c8 c9 c10 : Nat) (w : World) :
    Calls Try.prog 20 #[.int .i64 e, .slice x1 n1 c1, .slice x2 n2 c2, .slice x3 n3 c3, .slice x4 n4 c4, .slice x5 n5 c5, .slice x6 n6 c6, .slice x7 n7 c7, .slice x8 n8 c8, .slice x9 n9 c9, .slice x10 n10 c10, .int .i64 m] w (SomeB w) := by
  go_enter Try.func20, Try.ntmps20
  go_wp2
  all_goals go_ret
  all_goals exact SomeB.mk _ _

set_option maxHeartbeats 2000000 in
theorem zb12 (e m : Int) (x1 x2 x3 x4 x5 x6 x7 x8 x9 x10 : Option Addr) (n1 n2 n3 n4 n5 n6 n7 n8 n9 n10 c1 c2 c3 c4 c5 c6 c7 c8 c9 c10 : Nat) (w : World) :
    Calls Try.prog 12 #[.int .i64 e, .slice x1 n1 c1, .slice x2 n2 c2, .slice x3 n3 c3, .slice x4 n4 c4, .slice x5 n5 c5, .slice x6 n6 c6, .slice x7 n7 c7, .slice x8 n8 c8, .slice x9 n9 c9, .slice x10 n10 c10, .int .i64 m] w (SomeB w) := by
  go_enter Try.func12, Try.ntmps12
  go_wp2
  all_goals go_ret
  all_goals exact SomeB.mk _ _

end Go.Proofs.Qxb6614154a
