/-
  zzStateOK and zzSext5 by contracts.
-/
import Derived.Test.Qxb6614154aPay
namespace Go.Proofs.Qxb6614154a
open Go.ChangeShapes Go.WideShapes Go.ChangeAt Go.RowKit
set_option linter.unusedSimpArgs false
set_option linter.unusedVariables false

def IsB (b : Bool) (w : World) (r : Ending) (w' : World) : Prop := r = .returned (.bool b) ∧ w' = w
theorem IsB.mk {b c : Bool} {w : World} (h : c = b) : IsB b w (.returned (.bool c)) w := ⟨by rw [h], rfl⟩
set_option maxHeartbeats 1000000 in
theorem state_any (g m q h u : Int) (w : World) (g0 : 0 ≤ g) (m0 : 0 ≤ m) (q0 : 0 ≤ q) :
    Calls Try.prog 17 #[.int .u8 g, .int .u8 m, .int .u8 q, .int .i8 h, .int .i8 u] w (IsB (okSt g m q h u) w) := by
  go_enter Try.func17, Try.ntmps17
  go_wp2
  all_goals go_ret
  all_goals refine IsB.mk ?_
  all_goals unfold okSt
  all_goals simp only [beq_iff_eq, bne_iff_ne, beq_eq_false_iff_ne, ne_eq, decide_eq_true_eq, decide_eq_false_iff_not] at *
  all_goals first
    | (symm; apply decide_eq_true; omega)
    | (symm; apply decide_eq_false; omega)
    | (rw [Bool.eq_iff_iff]; simp only [Bool.and_eq_true, beq_iff_eq, decide_eq_true_eq]; omega)

def IsI (z : Int) (w : World) (r : Ending) (w' : World) : Prop := r = .returned (.int .i64 z) ∧ w' = w
theorem IsI.mk {z y : Int} {w : World} (h : y = z) : IsI z w (.returned (.int .i64 y)) w := ⟨by rw [h], rfl⟩
set_option maxHeartbeats 1000000 in
theorem sext_any (h : Int) (w : World) (a : -15 ≤ h) (b : h ≤ 15) : Calls Try.prog 19 #[.int .u32 (h % 32)] w (IsI h w) := by
  by_cases hn : 0 ≤ h
  · obtain ⟨y, hy⟩ : ∃ y, y = h % 32 := ⟨_, rfl⟩
    rw [← hy]
    have h1 : y = h := by omega
    have h2 : ¬ (16 ≤ y) := by omega
    have h3 : 0 ≤ y := by omega
    go_enter Try.func19, Try.ntmps19
    go_wp2
    all_goals go_ret
    all_goals refine IsI.mk ?_
    all_goals omega
  · obtain ⟨y, hy⟩ : ∃ y, y = h % 32 := ⟨_, rfl⟩
    rw [← hy]
    have h1 : y = h + 32 := by omega
    have h2 : 16 ≤ y := by omega
    have h3 : y < 32 := by omega
    go_enter Try.func19, Try.ntmps19
    go_wp2
    all_goals go_ret
    all_goals refine IsI.mk ?_
    all_goals omega
end Go.Proofs.Qxb6614154a
