/-
  The header of a payload: flag, check, checkUnusedState by contracts.
-/
import Derived.Test.Qxb6614154aRows
import Derived.WalkKit
import Derived.ProofKit
import Derived.Outline
import Derived.LoopTactic
import Derived.WalkSpells
import Derived.WalkLawsBesides
import Derived.BigQuiet
import Derived.Deep.QuietTactic
import Derived.Deep.RegionWith
namespace Go.Proofs.Qxb6614154a
open Go.ChangeShapes Go.WideShapes Go.ChangeAt Go.RowKit

set_option linter.unusedSimpArgs false
set_option linter.unusedVariables false

theorem hide {p : Prop} (h : p) : Hid p := h
theorem unhide {p : Prop} (h : Hid p) : p := h

/-- a header as a value -/
def hdrV (sb eb : Int) (i v : Bool) (g m q h u : Int) : Value := .agg #[.int .u8 sb, .int .u8 eb, .bool i, .bool v, .int .u8 g, .int .u8 m, .int .u8 q, .int .i8 h, .int .i8 u]

def flagI (b : Bool) : Int := if b then 1 else 0
theorem flag_any (b : Bool) (w : World) : Calls Try.prog 34 #[.bool b] w fun e w' => e = .returned (.int .u32 (flagI b)) ∧ w' = w := by
  cases b
  · go_enter Try.func34, Try.ntmps34
    go_wp2
    go_ret
    exact ⟨rfl, rfl⟩
  · go_enter Try.func34, Try.ntmps34
    go_wp2
    go_ret
    exact ⟨rfl, rfl⟩

/-- an error comes back just where the test fails -/
def ErrIs (ok : Bool) (e : Ending) : Prop := (ok = true ∧ e = .returned .nilIface) ∨ (ok = false ∧ ∃ a, e = .returned (.iface 71 (.pointer (some a))))
theorem ErrIs.yes {ok : Bool} (h : ok = true) : ErrIs ok (.returned .nilIface) := .inl ⟨h, rfl⟩
theorem ErrIs.no {ok : Bool} (h : ok = false) (a : Addr) : ErrIs ok (.returned (.iface 71 (.pointer (some a)))) := .inr ⟨h, a, rfl⟩

/-- 'check' passes -/
def ck1 (sb eb g m q h u : Int) : Bool := decide (sb ≤ 7 ∧ eb ≤ 7 ∧ g ≤ 12 ∧ m ≤ 31 ∧ q ≤ 31 ∧ ¬ (q = 0 ∧ g ≠ 0) ∧ -15 ≤ h ∧ h ≤ 15 ∧ -15 ≤ u ∧ u ≤ 15)
/-- 'checkUnusedState' passes (V set) -/
def ck2 (g m q h u : Int) : Bool := decide (g = 0 → m = 0 ∧ q = 0 ∧ h = 0 ∧ u = 0)

set_option maxHeartbeats 1000000 in
theorem check_any (sb eb : Int) (i v : Bool) (g m q h u : Int) (w : World) :
    Calls Try.prog 32 #[.agg #[.int .u8 sb, .int .u8 eb, .bool i, .bool v, .int .u8 g, .int .u8 m, .int .u8 q, .int .i8 h, .int .i8 u]] w fun e w' => ErrIs (ck1 sb eb g m q h u) e ∧ w.grownBy w' none := by
  go_enter Try.func32, Try.ntmps32
  go_wp2
  all_goals go_ret
  all_goals first
    | (refine ⟨ErrIs.yes ?_, World.grownBy_alloc _ _ _⟩; apply decide_eq_true; (try simp only [bne_iff_ne, ne_eq, bne_eq_false_iff_eq] at *); omega)
    | (refine ⟨ErrIs.no ?_ _, (World.grownBy_alloc _ _ _).trans (World.grownBy_alloc _ _ _)⟩; apply decide_eq_false; intro hc; (try simp only [bne_iff_ne, ne_eq, bne_eq_false_iff_eq] at *); omega)

set_option maxHeartbeats 1000000 in
theorem unused_any (sb eb : Int) (i : Bool) (g m q h u : Int) (w : World) :
    Calls Try.prog 33 #[.agg #[.int .u8 sb, .int .u8 eb, .bool i, .bool true, .int .u8 g, .int .u8 m, .int .u8 q, .int .i8 h, .int .i8 u]] w fun e w' => ErrIs (ck2 g m q h u) e ∧ w.grownBy w' none := by
  cases hg : (g == 0)
  · have hg' : g ≠ 0 := by simpa using hg
    have HG := hide hg'
    clear hg'
    go_enter Try.func33, Try.ntmps33
    go_wp2
    all_goals go_ret
    refine ⟨ErrIs.yes ?_, World.grownBy_alloc _ _ _⟩
    exact decide_eq_true (fun e => absurd e (unhide HG))
  · have HG : Hid (g = 0) := hide (by simpa using hg)
    go_enter Try.func33, Try.ntmps33
    go_wp2
    all_goals go_ret
    all_goals first
      | (refine ⟨ErrIs.yes ?_, World.grownBy_alloc _ _ _⟩; have hg0 := unhide HG; apply decide_eq_true; (try simp only [bne_iff_ne, ne_eq, bne_eq_false_iff_eq] at *); omega)
      | (refine ⟨ErrIs.no ?_ _, (World.grownBy_alloc _ _ _).trans (World.grownBy_alloc _ _ _)⟩; have hg0 := unhide HG; apply decide_eq_false; intro hc; (try simp only [bne_iff_ne, ne_eq, bne_eq_false_iff_eq] at *); omega)
end Go.Proofs.Qxb6614154a
