/-
  newTrie: loop 6: the children of one node are taken up.
-/
import Derived.Test.Qxb6608903aNtF
namespace Go.Proofs.Qxb6608903a
open Go.ChangeShapes Go.WideShapes Go.ChangeAt Go.RowKit
set_option linter.unusedSimpArgs false
set_option linter.unusedVariables false

theorem Lay.room0 {w1 w : World} {gc sz gn bt : Nat} {T : List Path} {C : List CN} {P : List Path} {i : Nat} {Qs : List Path} {fs : List (Nat × Nat)} {K : List Nat} {vl : Value} (h : Lay w1 w gc sz gn bt T C P i Qs fs K vl) (hc : Chn C P) (hL : Lists T P)
    {q : Path} {c : Nat} {x : CN} {ks : List Nat} (hq : Qs[i]? = some q) (hx : C[c]? = some x) (hp : P[c]? = some q) (hk : Link C x.f ks) : Qs.length + ks.length ≤ C.length := by
  refine (h.room hc hL hq hx hp hk (l := (pairs C ks).mergeSort (fun a b => decide (a.1 ≤ b.1))) (List.mergeSort_perm _ _) ?_).2
  have := List.pairwise_mergeSort (le := fun (a b : Int × Nat) => decide (a.1 ≤ b.1)) (fun a b c h1 h2 => by simp at *; omega) (fun a b => by simp; omega) (pairs C ks)
  exact this.imp (fun h => by simpa using h)

/-- the rows while loop 6 runs: the children dn are taken up -/
structure Kid (w1 w : World) (gc sz gn bt : Nat) (C : List CN) (Qs : List Path) (fs : List (Nat × Nat)) (K : List Nat) (vl : Value) (dn : List Nat) : Prop where
  chain : w.ownsRow w1.heap.size 78 3 (.slice (some ⟨gc, 0, none⟩) C.length sz) C.length (rowC C)
  nodes : w.ownsRow w1.heap.size 68 3 (.slice (some ⟨gn, 0, none⟩) (Qs.length + dn.length) C.length) (Qs.length + dn.length) (flat (mid Qs fs K ++ up3 (pairs C dn)))
  cell : w.heap[bt]? = some (.cells #[.slice (some ⟨gn, 0, none⟩) (Qs.length + dn.length) C.length] 65 (0, 0))
  laid : w.ownsRow w1.heap.size 21 1 vl K.length (I32 (K.map Int.ofNat))
  upd : Upd (fun _ => False) w1 w
theorem Lay.kid {w1 w : World} {gc sz gn bt : Nat} {T : List Path} {C : List CN} {P : List Path} {i : Nat} {Qs : List Path} {fs : List (Nat × Nat)} {K : List Nat} {vl : Value} (h : Lay w1 w gc sz gn bt T C P i Qs fs K vl) : Kid w1 w gc sz gn bt C Qs fs K vl [] :=
  ⟨h.chain, by have := h.nodes; simpa [pairs, up3] using this, by simpa using h.cell, h.laid, h.upd⟩
theorem own_ne {w : World} {B B' : Nat} {e e' : TypeId} {k k' n n' : Nat} {v v' : Value} {xs xs' : List Value} (h : w.ownsRow B e k v n xs) (h' : w.ownsRow B' e' k' v' n' xs') (he : e ≠ e') {g : Nat} (hg : v.ownBlock = some g) : v'.ownBlock ≠ some g := by
  intro hg'
  obtain ⟨c, hc⟩ := own_kind h hg
  obtain ⟨c', hc'⟩ := own_kind h' hg'
  rw [hc] at hc'
  simp at hc'
  exact he hc'.2
/-- one child more: the world behind the append (block gn written), then the store at bt -/
theorem Kid.add {w1 w w2 : World} {gc sz gn bt : Nat} {C : List CN} {Qs : List Path} {fs : List (Nat × Nat)} {K : List Nat} {vl : Value} {dn : List Nat} {m : Nat} {y : CN} (h : Kid w1 w gc sz gn bt C Qs fs K vl dn) (hb1 : w1.heap.size ≤ bt) (hy : C[m]? = some y) (hu : Upd (fun k => k = gn) w w2)
    (hrow : w2.ownsRow w1.heap.size 68 3 (.slice (some ⟨gn, 0, none⟩) (Qs.length + dn.length + 1) C.length) (Qs.length + dn.length + 1) (flat (mid Qs fs K ++ up3 (pairs C dn)) ++ [.int .i32 y.c, .int .i32 (m : Int), .int .i32 0])) :
    Kid w1 (w2.setCell ⟨bt, 0, none⟩ (.slice (some ⟨gn, 0, none⟩) (Qs.length + dn.length + 1) C.length)) gc sz gn bt C Qs fs K vl (dn ++ [m]) := by
  have hgn : (Value.slice (some ⟨gn, 0, none⟩) (Qs.length + dn.length) C.length).ownBlock = some gn := rfl
  obtain ⟨cur, hcur⟩ := own_kind h.nodes hgn
  have hbn : bt ≠ gn := fun e => by rw [← e, h.cell] at hcur; simp at hcur
  have hbl : bt < w.heap.size := (Array.getElem?_eq_some_iff.1 h.cell).1
  have hcell2 : w2.heap[bt]? = some (.cells #[.slice (some ⟨gn, 0, none⟩) (Qs.length + dn.length) C.length] 65 (0, 0)) := by
    rw [hu.block bt hbl (fun e => hbn e)]; exact h.cell
  have ub : ∀ {e k v n xs}, w2.ownsRow w1.heap.size e k v n xs → e ≠ 65 → (w2.setCell ⟨bt, 0, none⟩ (.slice (some ⟨gn, 0, none⟩) (Qs.length + dn.length + 1) C.length)).ownsRow w1.heap.size e k v n xs := fun {e k v n xs} ho he =>
    own_row_step ho ((Upd.refl (fun k => k = bt) w2).setCell _ _ (.inl rfl)) (fun g hg e2 => by
      obtain ⟨c, hc⟩ := own_kind ho hg
      rw [e2, hcell2] at hc
      simp at hc
      exact he hc.2.symm)
  have hgw : w1.heap.size ≤ gn := by
    rcases h.nodes.2 with ⟨h1, _⟩ | ⟨g', cap, cur, h1, hb, _⟩
    · simp at h1
    · simp only [Value.slice.injEq, Option.some.injEq, Addr.mk.injEq, and_true, true_and] at h1
      omega
  refine ⟨ub (own_row_step h.chain hu (fun g hg e => own_ne h.nodes h.chain (by decide) hgn (by rw [hg, e]))) (by decide), ?_, ?_, ub (own_row_step h.laid hu (fun g hg e => own_ne h.nodes h.laid (by decide) hgn (by rw [hg, e]))) (by decide), ?_⟩
  · have e : flat (mid Qs fs K ++ up3 (pairs C (dn ++ [m]))) = flat (mid Qs fs K ++ up3 (pairs C dn)) ++ [.int .i32 y.c, .int .i32 (m : Int), .int .i32 0] := by
      rw [pairs_snoc C dn m y hy, up3_snoc, ← List.append_assoc, flat_append]
      rfl
    rw [e, List.length_append, List.length_singleton, ← Nat.add_assoc]
    exact ub hrow (by decide)
  · rw [List.length_append, List.length_singleton, ← Nat.add_assoc, Go.heap_setCell_same w2 bt 0 _ 65 _ hcell2]
    rfl
  · have hu2 : Upd (fun _ => False) w1 w2 := ⟨hu.os.trans h.upd.os, hu.tape.trans h.upd.tape, hu.output.trans h.upd.output, Nat.le_trans h.upd.size hu.size, fun k hk _ => (hu.block k (Nat.lt_of_lt_of_le hk h.upd.size) (fun e => by omega)).trans (h.upd.block k hk (fun h => h))⟩
    exact hu2.setCell _ _ (.inr hb1)
end Go.Proofs.Qxb6608903a
