/-
  'copy' into a new row.
-/
import Derived.Test.Qxb6614154aZb
import Derived.Test.Qxb6614154aLaw
import Derived.Laws.IdiomCopy
namespace Go.Proofs.Qxb6614154a
open Go.ChangeShapes Go.WideShapes Go.ChangeAt Go.RowKit
set_option linter.unusedSimpArgs false
set_option linter.unusedVariables false

theorem info41 : (Try.prog.info? 41).map (fun i => (i.zero, i.size, i.bytes)) = some (some (.int .i8 0), 1, 1) := by kernel_rfl
theorem info4 : (Try.prog.info? 4).map (fun i => (i.zero, i.size, i.bytes)) = some (some (.bool false), 1, 1) := by kernel_rfl
theorem size5 : (Try.prog.info? 5).map (·.size) = some 1 := by kernel_rfl
theorem size3 : (Try.prog.info? 3).map (·.size) = some 1 := by kernel_rfl
theorem size41 : (Try.prog.info? 41).map (·.size) = some 1 := by kernel_rfl
theorem size4 : (Try.prog.info? 4).map (·.size) = some 1 := by kernel_rfl

theorem run_copy_new {P : Program} (w : World) (dT sT ty : TypeId) (elem : TypeId) (hu : P.underlying dT = some (.slice elem)) (hs : (P.info? elem).map (·.size) = some 1)
    (b n dc : Nat) (x : Addr) (c : Nat) (cs : List Value) (old : Array Value) (hn : cs.length = n) (hol : old.size = n) (hold : w.heap[b]? = some (.cells old elem (0, 0)))
    (hsrc : ∀ j u, cs[j]? = some u → w.cell? (x.add j) = some u) (h1 : ∀ v ∈ cs, v.oneCell' = true) :
    ∃ w', (Builtin.copy_ #[dT, sT] ty #[.slice (some ⟨b, 0, none⟩) n dc, .slice (some x) n c]).run P w = .ok (.int .i64 (n : Int)) w' ∧ w'.heap[b]? = some (.cells cs.toArray elem (0, 0)) ∧ Upd (fun k => k = b) w w' := by
  have hrun := run_copy_cells (P := P) w dT sT ty elem b 0 n dc x n c cs hu hs (by simp [hn]) hsrc
    (fun j hj => by rw [Joins.cell_of_block hold]; simp; omega)
    (fun j hj => Joins.unfrozen_of_block hold _) h1
  have hb := heap_setCells_same b elem cs 0 w old.toList (by simpa using hold)
  have e : setR old.toList 0 cs = cs := by
    have := setR_mid cs [] old.toList [] (by simp; omega)
    simpa using this
  rw [e] at hb
  rw [hn] at hrun
  exact ⟨_, hrun, hb, upd_setCells b cs 0 w w (Upd.refl _ _) (.inl rfl)⟩
end Go.Proofs.Qxb6614154a
