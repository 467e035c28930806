/-
  newTrie: what the layout's loop holds.
-/
import Derived.Test.Qxb6608903aNtD
namespace Go.Proofs.Qxb6608903a
open Go.ChangeShapes Go.WideShapes Go.ChangeAt Go.RowKit
set_option linter.unusedSimpArgs false
set_option linter.unusedVariables false

/-- 'i' nodes are laid out: the rows in memory -/
structure Lay (w1 w : World) (gc sz gn bt : Nat) (T : List Path) (C : List CN) (P : List Path) (i : Nat) (Qs : List Path) (fs : List (Nat × Nat)) (K : List Nat) (vl : Value) : Prop where
  bfs : Bfs (Starts T) i Qs fs
  lenK : K.length = Qs.length
  same : ∀ (j c : Nat) (q : Path), K[j]? = some c → Qs[j]? = some q → P[c]? = some q
  chain : w.ownsRow w1.heap.size 78 3 (.slice (some ⟨gc, 0, none⟩) C.length sz) C.length (rowC C)
  nodes : w.ownsRow w1.heap.size 68 3 (.slice (some ⟨gn, 0, none⟩) Qs.length C.length) Qs.length (flat (mid Qs fs K))
  cell : w.heap[bt]? = some (.cells #[.slice (some ⟨gn, 0, none⟩) Qs.length C.length] 65 (0, 0))
  laid : w.ownsRow w1.heap.size 21 1 vl K.length (I32 (K.map Int.ofNat))
  upd : Upd (fun _ => False) w1 w

theorem Lay.start {w1 w : World} {gc sz b : Nat} {T : List Path} {C : List CN} {P : List Path} (h : Cha w1 w gc sz T [] C P b) (hg : w1.heap.size = gc) (hm : C.length ≤ maxLen) :
    Lay w1 (((w.alloc (.cells (flat (List.replicate C.length (0, 0, 0))).toArray 68)).alloc (.cells #[.slice (some ⟨w.heap.size, 0, none⟩) 1 C.length] 65)).alloc (.cells #[.int .i32 0] 21)) gc sz w.heap.size (w.heap.size + 1) T C P 0 [[]] [] [0] (.slice (some ⟨w.heap.size + 1 + 1, 0, none⟩) 1 1) := by
  have hsz := h.upd.size
  refine ⟨.zero, rfl, ?_, ((h.row.alloc _).alloc _).alloc _, ?_, ?_, ?_, ?_⟩
  · intro j c q hj hq
    have : j = 0 := by have := (List.getElem?_eq_some_iff.1 hj).1; simp at this; exact this
    subst this
    simp at hj hq
    subst hj hq
    exact h.chn.root
  · have := ((own_made w w1.heap.size C.length 68 hsz h.pos hm).alloc (.cells #[.slice (some ⟨w.heap.size, 0, none⟩) 1 C.length] 65)).alloc (.cells #[.int .i32 0] 21)
    exact this
  · rw [Below.heap_alloc _ _ _ (by simp)]
    have := heap_alloc_new (w.alloc (.cells (flat (List.replicate C.length (0, 0, 0))).toArray 68)) (.cells #[.slice (some ⟨w.heap.size, 0, none⟩) 1 C.length] 65)
    simpa using this
  · refine ⟨rfl, .inr ⟨w.heap.size + 1 + 1, 1, #[.int .i32 0], rfl, by omega, ?_, by simp, by unfold maxLen; omega, rfl, rfl⟩⟩
    have := heap_alloc_new ((w.alloc (.cells (flat (List.replicate C.length (0, 0, 0))).toArray 68)).alloc (.cells #[.slice (some ⟨w.heap.size, 0, none⟩) 1 C.length] 65)) (.cells #[.int .i32 0] 21)
    simpa using this
  · exact (((h.upd.mono (fun k hk e => by omega)).alloc _).alloc _).alloc _
end Go.Proofs.Qxb6608903a
