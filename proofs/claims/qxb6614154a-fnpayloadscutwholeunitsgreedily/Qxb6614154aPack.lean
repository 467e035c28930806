/-
  packUnits by a contract.
-/
import Derived.Test.Qxb6614154aClos
namespace Go.Proofs.Qxb6614154a
open Go.ChangeShapes Go.WideShapes Go.ChangeAt Go.RowKit
set_option linter.unusedSimpArgs false
set_option linter.unusedVariables false

/-- the blocks that a packet may turn -/
def Xs (bb : Nat) (vd ve : Value) : Nat → Prop := fun k => k = bb ∨ some k = vd.ownBlock ∨ some k = ve.ownBlock

theorem upd_step {bb : Nat} {vd0 ve0 vd ve : Value} {w1 wr w' : World} (h : Upd (Xs bb vd0 ve0) w1 wr) (ld : Lies w1 vd0 vd) (le : Lies w1 ve0 ve) (k : Upd (Xs bb vd ve) wr w') : Upd (Xs bb vd0 ve0) w1 w' :=
  ⟨k.os.trans h.os, k.tape.trans h.tape, k.output.trans h.output, Nat.le_trans h.size k.size, fun i hi hx => by
    refine (k.block i (Nat.lt_of_lt_of_le hi h.size) (fun hx' => hx ?_)).trans (h.block i hi hx)
    rcases hx' with e | e | e
    · exact .inl e
    · rcases ld with ld | ⟨g, hg, hg2⟩
      · rw [ld] at e; exact .inr (.inl e)
      · rw [hg] at e; cases e; omega
    · rcases le with le | ⟨g, hg, hg2⟩
      · rw [le] at e; exact .inr (.inr e)
      · rw [hg] at e; cases e; omega⟩

/-- what packUnits reads and never turns -/
structure Env (w : World) (bb x6 x7 x8 x9 gu cu gs cs : Nat) (S : List Int) (L : List Un) (mp : Int) : Prop where
  h6 : w.heap[x6]? = some (.cells #[.pointer (some ⟨bb, 0, none⟩)] 55 (0, 0))
  h7 : w.heap[x7]? = some (.cells #[.slice (some ⟨gs, 0, none⟩) S.length cs] 22 (0, 0))
  h8 : w.heap[x8]? = some (.cells #[.slice (some ⟨gu, 0, none⟩) L.length cu] 46 (0, 0))
  h9 : w.heap[x9]? = some (.cells #[.int .i64 mp] 3 (0, 0))
  hU : Units w gu L
  hS : Bytes w gs S
  kS : ∃ c, w.heap[gs]? = some (.cells c 5 (0, 0))

theorem Env.kept {w w' : World} {bb x6 x7 x8 x9 gu cu gs cs : Nat} {S : List Int} {L : List Un} {mp : Int} {vd ve : Value} {B n ne : Nat} {xs ys : List Value} (h : Env w bb x6 x7 x8 x9 gu cu gs cs S L mp)
    (hbuf : Buf w bb vd ve) (hod : w.ownsRow B 5 1 vd n xs) (hoe : w.ownsRow B 3 1 ve ne ys) (hgs : some gs ≠ vd.ownBlock) (h9 : some x9 ≠ ve.ownBlock) (hu : Upd (Xs bb vd ve) w w') : Env w' bb x6 x7 x8 x9 gu cu gs cs S L mp := by
  have key : ∀ (k : Nat) (c : Array Value) (t : TypeId), w.heap[k]? = some (.cells c t (0, 0)) → t ≠ 57 → (some k ≠ vd.ownBlock) → (some k ≠ ve.ownBlock) → w'.heap[k]? = w.heap[k]? := by
    intro k c t hk h57 h5 h3
    refine hu.block k (Array.getElem?_eq_some_iff.1 hk).1 ?_
    rintro (rfl | e | e)
    · rw [hbuf] at hk; simp at hk; exact h57 hk.2.symm
    · exact h5 e
    · exact h3 e
  have n5 : ∀ (k : Nat) (c : Array Value) (t : TypeId), w.heap[k]? = some (.cells c t (0, 0)) → t ≠ 5 → some k ≠ vd.ownBlock := fun k c t hk ht e => by
    obtain ⟨c', h'⟩ := own_kind hod e.symm
    rw [hk] at h'; simp at h'; exact ht h'.2
  have n3 : ∀ (k : Nat) (c : Array Value) (t : TypeId), w.heap[k]? = some (.cells c t (0, 0)) → t ≠ 3 → some k ≠ ve.ownBlock := fun k c t hk ht e => by
    obtain ⟨c', h'⟩ := own_kind hoe e.symm
    rw [hk] at h'; simp at h'; exact ht h'.2
  obtain ⟨c, hc⟩ := h.kS
  have kg := key gs c 5 hc (by decide) hgs (n3 gs c 5 hc (by decide))
  exact ⟨(key _ _ _ h.h6 (by decide) (n5 _ _ _ h.h6 (by decide)) (n3 _ _ _ h.h6 (by decide))).trans h.h6, (key _ _ _ h.h7 (by decide) (n5 _ _ _ h.h7 (by decide)) (n3 _ _ _ h.h7 (by decide))).trans h.h7,
    (key _ _ _ h.h8 (by decide) (n5 _ _ _ h.h8 (by decide)) (n3 _ _ _ h.h8 (by decide))).trans h.h8, (key _ _ _ h.h9 (by decide) (n5 _ _ _ h.h9 (by decide)) h9).trans h.h9,
    (key _ _ _ h.hU (by decide) (n5 _ _ _ h.hU (by decide)) (n3 _ _ _ h.hU (by decide))).trans h.hU, h.hS.kept kg, ⟨c, kg.trans hc⟩⟩
end Go.Proofs.Qxb6614154a
