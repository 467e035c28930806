/-
  The rows of newTrie's own: chain nodes and trie nodes, three cells each.
-/
import Derived.Test.Qxb6608903aSrt
namespace Go.Proofs.Qxb6608903a
open Go.ChangeShapes Go.WideShapes Go.ChangeAt Go.RowKit
set_option linter.unusedSimpArgs false
set_option linter.unusedVariables false

/-- 'make([]T, m, n)' with the world written out -/
theorem wpList_make_two {P : Program} (w : World) {ops : Array Oper} {rest : List Oper} {o : Oper} {a : Act} {Q : Exit → Act → World → Prop}
    (hg : o.guard = none) (l c : Operand) (t : TypeId) (hop : o.op = Op.makeSlice t l c)
    (e : TypeId) (i : TypeInfo) (z : Value) (size : Nat) (h1 : P.underlying t = some (.slice e)) (h2 : P.info? e = some i) (h3 : i.zero = some z) (h4 : i.size = size)
    (kl kc : IntKind) (m n : Nat) (hl : a.eval l = .int kl (m : Int)) (hc : a.eval c = .int kc (n : Int)) (hmn : m ≤ n) (b2 : i.bytes * n ≤ 281474976710656) (b3 : n ≤ maxLen)
    (cs : List Value) (hcs : (madeCells z.cells (n * size)).toList = cs)
    (hK : wpList P ops Q rest (a.put o.dst (.slice (some ⟨w.heap.size, 0, none⟩) m n)) (w.alloc (.cells cs.toArray e))) :
    wpList P ops Q (o :: rest) a w := by
  refine wpList_plain hg fun K hK' => ?_
  have hrun := run_make (P := P) (w := w) t e i z h1 h2 h3 kl kc m n (by omega) (by omega) (Int.ofNat_le.2 b2) (by unfold maxLen at b3; omega)
  subst hcs h4
  unfold Oper.wp
  simp [execOp, hop, hl, hc, hrun, Result.andThen]
  simp at hK
  exact hK' _ _ hK

/-- a node's three cells -/
def c3 (x : Int × Int × Int) : List Value := [.int .i32 x.1, .int .i32 x.2.1, .int .i32 x.2.2]
theorem c3_len (x : Int × Int × Int) : (c3 x).length = 3 := rfl
def flat (L : List (Int × Int × Int)) : List Value := L.flatMap c3
theorem flat_len (L : List (Int × Int × Int)) : (flat L).length = L.length * 3 := by
  induction L with
  | nil => rfl
  | cons x L ih => simp [flat] at ih ⊢; rw [ih, c3_len]; omega
theorem flat_append (L M : List (Int × Int × Int)) : flat (L ++ M) = flat L ++ flat M := by simp [flat]
theorem flat_get : ∀ (L : List (Int × Int × Int)) (k j : Nat) (x : Int × Int × Int), L[k]? = some x → j < 3 → (flat L)[k * 3 + j]? = (c3 x)[j]?
  | [], k, j, x, h, hj => by simp at h
  | y :: L, k, j, x, h, hj => by
    have e : flat (y :: L) = c3 y ++ flat L := by simp [flat]
    rw [e]
    cases k with
    | zero => simp at h; subst h; rw [List.getElem?_append_left (by rw [c3_len]; omega)]; simp
    | succ k =>
      rw [List.getElem?_append_right (by rw [c3_len]; omega), c3_len, show (k + 1) * 3 + j - 3 = k * 3 + j by omega]
      exact flat_get L k j x (by simpa using h) hj
theorem flat_set : ∀ (L : List (Int × Int × Int)) (k j : Nat) (x y : Int × Int × Int) (u : Value), L[k]? = some x → j < 3 → (c3 x).set j u = c3 y → (flat L).set (k * 3 + j) u = flat (L.set k y)
  | [], k, j, x, y, u, h, hj, he => by simp at h
  | z :: L, k, j, x, y, u, h, hj, he => by
    have e : flat (z :: L) = c3 z ++ flat L := by simp [flat]
    rw [e]
    cases k with
    | zero =>
      simp at h; subst h
      rw [List.set_append_left _ _ (by rw [c3_len]; omega)]
      simp only [List.set_cons_zero, Nat.zero_mul, Nat.zero_add]
      rw [he]
      simp [flat]
    | succ k =>
      rw [List.set_append_right _ _ (by rw [c3_len]; omega), c3_len, show (k + 1) * 3 + j - 3 = k * 3 + j by omega, flat_set L k j x y u (by simpa using h) hj he]
      simp [flat]

theorem own_cell3 {w : World} {B : Nat} {e : TypeId} {k g n c : Nat} {xs : List Value} (h : w.ownsRow B e k (.slice (some ⟨g, 0, none⟩) n c) n xs) {j : Nat} {u : Value} (hj : xs[j]? = some u) : w.cell? ⟨g, j, none⟩ = some u := by
  rcases h.2 with ⟨h1, _⟩ | ⟨g', cap, cur, h1, hb, hg, hnc, hcm, hcs, ht⟩
  · simp at h1
  · simp only [Value.slice.injEq, Option.some.injEq, Addr.mk.injEq, and_true, true_and] at h1
    obtain ⟨rfl, rfl⟩ := h1
    rw [Joins.cell_of_block hg]
    rw [← ht, List.getElem?_take] at hj
    split at hj
    · simpa using hj
    · cases hj
theorem own_nf {w : World} {B : Nat} {e : TypeId} {k g n c : Nat} {xs : List Value} (h : w.ownsRow B e k (.slice (some ⟨g, 0, none⟩) n c) n xs) (j : Nat) : w.frozen? ⟨g, j, none⟩ = false := by
  rcases h.2 with ⟨h1, _⟩ | ⟨g', cap, cur, h1, hb, hg, hnc, hcm, hcs, ht⟩
  · simp at h1
  · simp only [Value.slice.injEq, Option.some.injEq, Addr.mk.injEq, and_true, true_and] at h1
    obtain ⟨rfl, rfl⟩ := h1
    exact Joins.unfrozen_of_block hg j
theorem own_set {w : World} {B : Nat} {e : TypeId} {k g n c : Nat} {xs : List Value} (h : w.ownsRow B e k (.slice (some ⟨g, 0, none⟩) n c) n xs) (j : Nat) (u : Value) (hj : j < xs.length) :
    (w.setCell ⟨g, j, none⟩ u).ownsRow B e k (.slice (some ⟨g, 0, none⟩) n c) n (xs.set j u) := by
  refine ⟨by rw [List.length_set]; exact h.1, ?_⟩
  rcases h.2 with ⟨h1, _⟩ | ⟨g', cap, cur, h1, hb, hg, hnc, hcm, hcs, ht⟩
  · simp at h1
  · simp only [Value.slice.injEq, Option.some.injEq, Addr.mk.injEq, and_true, true_and] at h1
    obtain ⟨rfl, rfl⟩ := h1
    refine .inr ⟨g, c, cur.setIfInBounds j u, rfl, hb, Go.heap_setCell_same w g j cur e u hg, hnc, hcm, by simpa using hcs, ?_⟩
    rw [Array.toList_setIfInBounds, List.take_set, ht]
end Go.Proofs.Qxb6608903a
