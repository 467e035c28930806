/-
  ZZpayloads by a contract.
-/
import Derived.Test.Qxb6614154aPayl
import Derived.Deep.MidRow
import Derived.OwnWalk
import Derived.Laws.OwnMore
namespace Go.Proofs.Qxb6614154a
open Go.ChangeShapes Go.WideShapes Go.ChangeAt Go.RowKit
set_option linter.unusedSimpArgs false
set_option linter.unusedVariables false

def zeroUn : Un := ⟨0, false, 0, 0, 0, 0, 0⟩
def setR : List Value → Nat → List Value → List Value
  | c, _, [] => c
  | c, o, v :: r => setR (c.set o v) (o + 1) r
theorem setR_mid : ∀ (vs pre mid post : List Value), mid.length = vs.length → setR (pre ++ mid ++ post) pre.length vs = pre ++ vs ++ post
  | [], pre, mid, post, h => by
    have : mid = [] := List.length_eq_zero_iff.1 h
    subst this; simp [setR]
  | v :: r, pre, [], post, h => by simp at h
  | v :: r, pre, m :: ms, post, h => by
    have e : (pre ++ (m :: ms) ++ post).set pre.length v = (pre ++ [v]) ++ ms ++ post := by simp
    rw [setR, e, show pre.length + 1 = (pre ++ [v]).length by simp, setR_mid r (pre ++ [v]) ms post (by simpa using h)]
    simp
theorem heap_setCells_same (b : Nat) (t : TypeId) : ∀ (vs : List Value) (o : Nat) (w : World) (c : List Value), w.heap[b]? = some (.cells c.toArray t (0, 0)) → (w.setCells b o vs).heap[b]? = some (.cells (setR c o vs).toArray t (0, 0))
  | [], o, w, c, h => h
  | v :: r, o, w, c, h => by
    rw [World.setCells, setR]
    refine heap_setCells_same b t r (o + 1) _ (c.set o v) ?_
    rw [Go.heap_setCell_same w b o _ t v h]; simp
theorem upd_setCells {X : Nat → Prop} (b : Nat) : ∀ (vs : List Value) (o : Nat) (a w : World), Upd X a w → (X b ∨ a.heap.size ≤ b) → Upd X a (w.setCells b o vs)
  | [], o, a, w, h, _ => h
  | v :: r, o, a, w, h, hb => upd_setCells b r (o + 1) a _ (h.setCell ⟨b, o, none⟩ v hb) hb
theorem unitRow_append (A B : List Un) : unitRow (A ++ B) = unitRow A ++ unitRow B := by simp [unitRow]
theorem unitRow_len (A : List Un) : (unitRow A).length = A.length * 10 := by
  induction A with
  | nil => rfl
  | cons x r ih => rw [show x :: r = [x] ++ r from rfl, unitRow_append, List.length_append, ih]; simp [unitRow, Un.cells]; omega
theorem units_there {w : World} {gu : Nat} {L : List Un} (h : Units w gu L) {k : Nat} (hk : k < L.length) : w.there gu (k * 10) 10 := fun j hj => by
  have h1 := h.cell (List.getElem?_eq_getElem hk) j hj
  refine ⟨?_, Joins.unfrozen_of_block h _⟩
  rw [h1]
  have : j < (L[k]).cells.length := hj
  rw [List.getElem?_eq_getElem this]; rfl
theorem units_set {w : World} {gu : Nat} {A R : List Un} {z x : Un} (h : Units w gu (A ++ z :: R)) : Units (w.setCells gu (A.length * 10) x.cells) gu (A ++ x :: R) := by
  unfold Units at *
  have e : ∀ y : Un, unitRow (A ++ y :: R) = unitRow A ++ y.cells ++ unitRow R := fun y => by rw [show y :: R = [y] ++ R from rfl, unitRow_append, unitRow_append]; simp [unitRow]
  rw [heap_setCells_same gu 50 x.cells (A.length * 10) w _ h, e, e, ← unitRow_len A, setR_mid x.cells (unitRow A) z.cells (unitRow R) rfl]
theorem made_units (n : Nat) : (madeCells #[.int .i64 0, .int .u8 0, .int .u8 0, .bool false, .bool false, .int .u8 0, .int .u8 0, .int .u8 0, .int .i8 0, .int .i8 0] (n * 10)).toList = unitRow (List.replicate n zeroUn) := by
  refine List.ext_getElem? fun i => ?_
  by_cases hi : i < n * 10
  · have h1 : i / 10 < n := by omega
    have e : i = i / 10 * 10 + i % 10 := by omega
    have h2 := unitRow_get (List.replicate n zeroUn) (i / 10) (i % 10) zeroUn (by simp [h1]) (by omega)
    rw [← e] at h2
    rw [h2]
    have h3 : i % 10 < 10 := by omega
    simp only [madeCells, Array.toList_map, List.getElem?_map, Array.toList_range, List.getElem?_range hi, Option.map_some]
    generalize i % 10 = j at h3
    match j, h3 with
    | 0, _ => rfl
    | 1, _ => rfl
    | 2, _ => rfl
    | 3, _ => rfl
    | 4, _ => rfl
    | 5, _ => rfl
    | 6, _ => rfl
    | 7, _ => rfl
    | 8, _ => rfl
    | 9, _ => rfl
  · rw [List.getElem?_eq_none (by simp [madeCells]; omega), List.getElem?_eq_none (by rw [unitRow_len]; simp; omega)]

/-- the seven rows that came in -/
structure Seven (w : World) (ga gi gg gm gq gh gv : Nat) (L : List Un) : Prop where
  a : ∀ (k : Nat) (x : Un), L[k]? = some x → w.cell? ⟨ga, k, none⟩ = some (.int .i64 (x.ats : Int))
  b : ∀ (k : Nat) (x : Un), L[k]? = some x → w.cell? ⟨gi, k, none⟩ = some (.bool x.i)
  c : ∀ (k : Nat) (x : Un), L[k]? = some x → w.cell? ⟨gg, k, none⟩ = some (.int .u8 x.g)
  d : ∀ (k : Nat) (x : Un), L[k]? = some x → w.cell? ⟨gm, k, none⟩ = some (.int .u8 x.m)
  e : ∀ (k : Nat) (x : Un), L[k]? = some x → w.cell? ⟨gq, k, none⟩ = some (.int .u8 x.q)
  f : ∀ (k : Nat) (x : Un), L[k]? = some x → w.cell? ⟨gh, k, none⟩ = some (.int .i8 x.h)
  g : ∀ (k : Nat) (x : Un), L[k]? = some x → w.cell? ⟨gv, k, none⟩ = some (.int .i8 x.u)
theorem cell_upd {w w' : World} (hu : Upd (fun _ => False) w w') {p : Addr} {v : Value} (h : w.cell? p = some v) : w'.cell? p = some v := by
  rw [World.cell?_of_block (hu.block _ (World.block_lt_of_cell? w _ h) (fun h => h))]; exact h
theorem Seven.kept {w w' : World} {ga gi gg gm gq gh gv : Nat} {L : List Un} (h : Seven w ga gi gg gm gq gh gv L) (hu : Upd (fun _ => False) w w') : Seven w' ga gi gg gm gq gh gv L :=
  ⟨fun k x hx => cell_upd hu (h.a k x hx), fun k x hx => cell_upd hu (h.b k x hx), fun k x hx => cell_upd hu (h.c k x hx), fun k x hx => cell_upd hu (h.d k x hx), fun k x hx => cell_upd hu (h.e k x hx), fun k x hx => cell_upd hu (h.f k x hx), fun k x hx => cell_upd hu (h.g k x hx)⟩
theorem info50 : (Try.prog.info? 50).map (fun i => (i.zero, i.size, i.bytes)) = some (some (.agg #[.int .i64 0, .int .u8 0, .int .u8 0, .bool false, .bool false, .int .u8 0, .int .u8 0, .int .u8 0, .int .i8 0, .int .i8 0]), 10, 24) := by kernel_rfl
theorem info50s : (Try.prog.info? 50).map (·.size) = some 10 := by kernel_rfl

end Go.Proofs.Qxb6614154a
