/-
  The callee 'ZZcovers' by a contract: what 'span.covers' answers; the world has at most new blocks.
-/
import Derived.Test.Qxb6614371aRows
import Derived.WalkKit
import Derived.ProofKit
namespace Go.Proofs.Qxb6614371a
open Go.ChangeShapes Go.WideShapes Go.ChangeAt Go.RowKit

def cov (a b c d : Bool) : Bool := (a || !c) && (b || !d)

theorem grown_trans {A B C : World} (h1 : Grown A B) (h2 : Grown B C) : Grown A C :=
  ⟨World.keptBut_trans h1.1 h2.1, fun a => (h2.2.1 a).trans (h1.2.1 a), Nat.le_trans h1.2.2 h2.2.2⟩

set_option maxHeartbeats 400000 in
theorem covers_any (a b c d : Bool) (w : World) :
    Calls Try.prog 7 #[.bool a, .bool b, .bool c, .bool d] w fun e w' => e = .returned (.bool (cov a b c d)) ∧ Grown w w' := by
  cases a <;> cases b <;> cases c <;> cases d
  all_goals
    go_enter Try.func7, Try.ntmps7
    go_wp2
    go_ret
    exact ⟨rfl, by repeat (first | exact Grown.refl _ | apply Grown.drew | apply Grown.alloc)⟩
end Go.Proofs.Qxb6614371a
