/-
  ZZnewTrie.
-/
import Derived.Test.Qxb6608903aNtW
namespace Go.Proofs.Qxb6608903a
open Go.ChangeShapes Go.WideShapes Go.ChangeAt Go.RowKit
set_option linter.unusedSimpArgs false
set_option linter.unusedVariables false

theorem tot_eq : ∀ T : List Path, tot T = totL T
  | [] => rfl
  | t :: T => by
    have := tot_eq T
    simp only [tot, totL, List.map_cons, List.sum_cons] at this ⊢
    omega
theorem whole_len (Qs : List Path) (fs : List (Nat × Nat)) : (whole Qs fs).length = Qs.length := by simp [whole]
set_option maxHeartbeats 1000000 in
theorem zz_any (v : Value) (T : List Path) (w : World) (hT : Texts w v T) (hb : totL T + T.length ≤ 1048576) : Calls Try.prog 8 #[v] w (NewPost whole T w) := by
  obtain ⟨x0, c0, rfl⟩ := hT.form
  have H := hide (newTrie_any x0 c0 T w hT (by rw [tot_eq]; exact hb))
  clear hT
  go_enter Try.func8, Try.ntmps8
  go_wp2_with fail
  refine (unhide H).mono ?_
  rintro r w1 ⟨gn, cap, Qs, fs, rfl, hc, hB, hq, hu⟩
  have HC := hide hc
  have HB := hide hB
  have HU := hide hu
  clear hc hB hu H
  generalize hn : (whole Qs fs).length = n
  have HN := hide hn
  clear hn
  go_wp2
  go_ret
  refine ⟨w1.heap.size, Qs, fs, rfl, ?_, unhide HB, hq, (unhide HU).alloc _⟩
  have ha : Upd (fun _ => False) w1 (w1.alloc (.cells #[Value.slice (some ⟨gn, 0, none⟩) n cap] 65)) := (Upd.refl _ _).alloc _
  refine ⟨gn, cap, ?_, fun j x hx => ?_⟩
  · rw [Joins.cell_of_block (heap_alloc_new _ _), unhide HN]
    rfl
  · obtain ⟨h1, h2, h3⟩ := unhide HC j x hx
    exact ⟨cell_upd ha h1, cell_upd ha h2, cell_upd ha h3⟩
end Go.Proofs.Qxb6608903a
