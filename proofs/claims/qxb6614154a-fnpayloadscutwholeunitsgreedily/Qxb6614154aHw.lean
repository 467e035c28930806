/-
  zzHeaderWord by a contract; zzUnitsInStream at no unit; zzBytes.
-/
import Derived.Test.Qxb6614154aUis
namespace Go.Proofs.Qxb6614154a
open Go.ChangeShapes Go.WideShapes Go.ChangeAt Go.RowKit
set_option linter.unusedSimpArgs false
set_option linter.unusedVariables false

theorem units_zero (en : Int) (sv : Value) (hsv : ∃ x n c, sv = .slice x n c) (x : Option Addr) (c : Nat) (w : World) :
    Calls Try.prog 13 #[.int .i64 en, sv, .slice x 0 c] w fun r w' => r = .returned (.bool true) ∧ w' = w := by
  obtain ⟨sx, sn, sc, rfl⟩ := hsv
  go_enter Try.func13, Try.ntmps13
  go_wp2
  go_ret
  exact ⟨rfl, rfl⟩

/-- the word of four bytes -/
def word4 (a b c d : Int) : Int := a * 16777216 + b * 65536 + c * 256 + d
theorem or4 (a b c d : Int) (a0 : 0 ≤ a) (a1 : a < 256) (b0 : 0 ≤ b) (b1 : b < 256) (c0 : 0 ≤ c) (c1 : c < 256) (d0 : 0 ≤ d) (d1 : d < 256) :
    bits .or .u32 (bits .or .u32 (bits .or .u32 (a * 16777216) (b * 65536)) (c * 256)) d = word4 a b c d := by
  have p1 : bits .or .u32 (a * 16777216) (b * 65536) = a * 16777216 + b * 65536 := orI 24 a _ a0 (by omega) (by omega) (by omega)
  rw [p1]
  have p2 : bits .or .u32 (a * 16777216 + b * 65536) (c * 256) = a * 16777216 + b * 65536 + c * 256 := by
    have := orI 16 (a * 256 + b) (c * 256) (by omega) (by omega) (by omega) (by omega)
    rw [show (a * 256 + b) * ((2 ^ 16 : Nat) : Int) = a * 16777216 + b * 65536 from by omega] at this
    exact this
  rw [p2]
  have := orI 8 (a * 65536 + b * 256 + c) d (by omega) (by omega) (by omega) (by omega)
  rw [show (a * 65536 + b * 256 + c) * ((2 ^ 8 : Nat) : Int) = a * 16777216 + b * 65536 + c * 256 from by omega] at this
  exact this

set_option maxHeartbeats 1000000 in
theorem hword_any (g o n c : Nat) (x0 x1 x2 x3 : Int) (w : World) (hn : 4 ≤ n) (h0 : w.cell? ⟨g, o, none⟩ = some (.int .u8 x0)) (h1 : w.cell? ⟨g, o + 1, none⟩ = some (.int .u8 x1)) (h2 : w.cell? ⟨g, o + 2, none⟩ = some (.int .u8 x2)) (h3 : w.cell? ⟨g, o + 3, none⟩ = some (.int .u8 x3))
    (a0 : 0 ≤ x0) (a1 : x0 < 256) (b0 : 0 ≤ x1) (b1 : x1 < 256) (c0 : 0 ≤ x2) (c1 : x2 < 256) (d0 : 0 ≤ x3) (d1 : x3 < 256) :
    Calls Try.prog 18 #[.slice (some ⟨g, o, none⟩) n c] w fun r w' => r = .returned (.int .u32 (word4 x0 x1 x2 x3)) ∧ Upd (fun _ => False) w w' := by
  have l0 : (0 : Int) < (n : Int) := by omega
  have l1 : (1 : Int) < (n : Int) := by omega
  have l2 : (2 : Int) < (n : Int) := by omega
  have l3 : (3 : Int) < (n : Int) := by omega
  go_enter Try.func18, Try.ntmps18
  go_wp2
  go_quiet (fail)
  all_goals go_wp2
  all_goals go_ret
  · refine ⟨?_, (Upd.refl _ _).drewN _⟩
    rw [← or4 x0 x1 x2 x3 a0 a1 b0 b1 c0 c1 d0 d1]
    rfl
end Go.Proofs.Qxb6614154a
