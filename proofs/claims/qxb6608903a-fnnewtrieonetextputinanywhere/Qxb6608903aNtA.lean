/-
  newTrie: what its loops hold.
-/
import Derived.Test.Qxb6608903aOwn
namespace Go.Proofs.Qxb6608903a
open Go.ChangeShapes Go.WideShapes Go.ChangeAt Go.RowKit
set_option linter.unusedSimpArgs false
set_option linter.unusedVariables false

theorem info78 : (Try.prog.info? 78).map (fun i => (i.zero, i.size, i.bytes)) = some (some (.agg #[.int .i32 0, .int .i32 0, .int .i32 0]), 3, 12) := by kernel_rfl
theorem info68 : (Try.prog.info? 68).map (fun i => (i.zero, i.size, i.bytes)) = some (some (.agg #[.int .i32 0, .int .i32 0, .int .i32 0]), 3, 12) := by kernel_rfl
theorem info21 : (Try.prog.info? 21).map (fun i => (i.zero, i.size, i.bytes)) = some (some (.int .i32 0), 1, 4) := by kernel_rfl
/-- how many runes in all -/
def tot : List Path → Nat
  | [] => 0
  | t :: T => t.length + tot T
theorem tot_take : ∀ (T : List Path) (k : Nat) (t : Path), T[k]? = some t → tot (T.take (k + 1)) = tot (T.take k) + t.length
  | [], k, t, h => by simp at h
  | a :: T, 0, t, h => by simp at h; subst h; simp [tot]
  | a :: T, k + 1, t, h => by
    have := tot_take T k t (by simpa using h)
    simp only [List.take_succ_cons, tot]
    omega
theorem tot_le : ∀ (T : List Path) (k : Nat), tot (T.take k) ≤ tot T
  | [], k => by simp [tot]
  | a :: T, 0 => by simp [tot]
  | a :: T, k + 1 => by have := tot_le T k; simp only [List.take_succ_cons, tot]; omega
theorem tot_len : ∀ (T : List Path) (k : Nat) (t : Path), T[k]? = some t → t.length ≤ tot T
  | [], k, t, h => by simp at h
  | a :: T, 0, t, h => by simp at h; subst h; simp [tot]
  | a :: T, k + 1, t, h => by have := tot_len T k t (by simpa using h); simp only [tot]; omega

/-- a chain node's cells -/
def tri (x : CN) : Int × Int × Int := (x.c, (x.f : Int), (x.s : Int))
def rowC (C : List CN) : List Value := flat (C.map tri)
theorem rowC_len (C : List CN) : (rowC C).length = C.length * 3 := by simp [rowC, flat_len]
theorem rowC_get {C : List CN} {k : Nat} {x : CN} (h : C[k]? = some x) : (rowC C)[k * 3]? = some (.int .i32 x.c) ∧ (rowC C)[k * 3 + 1]? = some (.int .i32 (x.f : Int)) ∧ (rowC C)[k * 3 + 2]? = some (.int .i32 (x.s : Int)) := by
  have hx : (C.map tri)[k]? = some (tri x) := by rw [List.getElem?_map, h]; rfl
  exact ⟨flat_get _ k 0 _ hx (by omega), flat_get _ k 1 _ hx (by omega), flat_get _ k 2 _ hx (by omega)⟩
theorem rowC_setF {C : List CN} {k : Nat} {x : CN} (h : C[k]? = some x) (f : Nat) : (rowC C).set (k * 3 + 1) (.int .i32 (f : Int)) = rowC (C.set k ⟨x.c, f, x.s⟩) := by
  have hx : (C.map tri)[k]? = some (tri x) := by rw [List.getElem?_map, h]; rfl
  unfold rowC
  rw [List.map_set]
  exact flat_set _ k 1 _ (tri ⟨x.c, f, x.s⟩) _ hx (by omega) rfl
theorem rowC_setS {C : List CN} {k : Nat} {x : CN} (h : C[k]? = some x) (s : Nat) : (rowC C).set (k * 3 + 2) (.int .i32 (s : Int)) = rowC (C.set k ⟨x.c, x.f, s⟩) := by
  have hx : (C.map tri)[k]? = some (tri x) := by rw [List.getElem?_map, h]; rfl
  unfold rowC
  rw [List.map_set]
  exact flat_set _ k 2 _ (tri ⟨x.c, x.f, s⟩) _ hx (by omega) rfl
theorem rowC_append (C : List CN) (r : Int) : rowC (C ++ [CN.mk r 0 0]) = rowC C ++ [.int .i32 r, .int .i32 0, .int .i32 0] := by
  unfold rowC
  rw [List.map_append, flat_append]
  rfl

open Classical in
/-- how long the chain from m on is -/
noncomputable def chainLen (C : List CN) (m : Nat) : Nat := if h : ∃ ks, Link C m ks then (Classical.choose h).length else 0
theorem chainLen_eq {C : List CN} {m : Nat} {ks : List Nat} (h : Link C m ks) : chainLen C m = ks.length := by
  unfold chainLen
  have hex : ∃ ks, Link C m ks := ⟨ks, h⟩
  rw [dif_pos hex, h.det (Classical.choose_spec hex)]

/-- the chains in memory, at block gc, room for 'size' -/
structure Cha (w0 w : World) (gc size : Nat) (T : List Path) (pre : Path) (C : List CN) (P : List Path) (bound : Nat) : Prop where
  row : w.ownsRow w0.heap.size 78 3 (.slice (some ⟨gc, 0, none⟩) C.length size) C.length (rowC C)
  chn : Chn C P
  upto : Upto T pre P
  le : C.length ≤ bound
  pos : 0 < C.length
  upd : Upd (fun k => k = gc) w0 w
theorem Cha.node {w0 w : World} {gc size : Nat} {T : List Path} {pre : Path} {C : List CN} {P : List Path} {b : Nat} (h : Cha w0 w gc size T pre C P b) {k : Nat} {x : CN} (hx : C[k]? = some x) :
    w.cell? ⟨gc, k * 3, none⟩ = some (.int .i32 x.c) ∧ w.cell? ⟨gc, k * 3 + 1, none⟩ = some (.int .i32 (x.f : Int)) ∧ w.cell? ⟨gc, k * 3 + 2, none⟩ = some (.int .i32 (x.s : Int)) := by
  obtain ⟨h1, h2, h3⟩ := rowC_get hx
  exact ⟨own_cell3 h.row h1, own_cell3 h.row h2, own_cell3 h.row h3⟩
end Go.Proofs.Qxb6608903a
