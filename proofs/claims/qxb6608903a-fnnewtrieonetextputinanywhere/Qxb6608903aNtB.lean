/-
  newTrie: the rows that it makes.
-/
import Derived.Test.Qxb6608903aNtA
namespace Go.Proofs.Qxb6608903a
open Go.ChangeShapes Go.WideShapes Go.ChangeAt Go.RowKit
set_option linter.unusedSimpArgs false
set_option linter.unusedVariables false

theorem made3 (n : Nat) : (madeCells #[.int .i32 0, .int .i32 0, .int .i32 0] (n * 3)).toList = flat (List.replicate n (0, 0, 0)) := by
  refine List.ext_getElem? fun i => ?_
  by_cases hi : i < n * 3
  · have h1 : i / 3 < n := by omega
    have e : i = i / 3 * 3 + i % 3 := by omega
    have h2 := flat_get (List.replicate n (0, 0, 0)) (i / 3) (i % 3) (0, 0, 0) (by simp [h1]) (by omega)
    rw [← e] at h2
    rw [h2]
    have h3 : i % 3 < 3 := by omega
    simp only [madeCells, Array.toList_map, List.getElem?_map, Array.toList_range, List.getElem?_range hi, Option.map_some]
    show some (#[Value.int .i32 0, .int .i32 0, .int .i32 0][i % 3]!) = _
    generalize i % 3 = j at h3
    match j, h3 with
    | 0, _ => rfl
    | 1, _ => rfl
    | 2, _ => rfl
  · rw [List.getElem?_eq_none (by simp [madeCells]; omega), List.getElem?_eq_none (by rw [flat_len]; simp; omega)]
theorem own_made (w : World) (B n : Nat) (e : TypeId) (hB : B ≤ w.heap.size) (hn : 1 ≤ n) (hm : n ≤ maxLen) :
    (w.alloc (.cells (flat (List.replicate n (0, 0, 0))).toArray e)).ownsRow B e 3 (.slice (some ⟨w.heap.size, 0, none⟩) 1 n) 1 (flat [(0, 0, 0)]) := by
  refine ⟨by rw [flat_len]; rfl, .inr ⟨w.heap.size, n, _, rfl, hB, heap_alloc_new w _, hn, hm, by simp [flat_len], ?_⟩⟩
  obtain ⟨m, rfl⟩ : ∃ m, n = m + 1 := ⟨n - 1, by omega⟩
  rw [List.replicate_succ]
  have e : flat ((0, 0, 0) :: List.replicate m (0, 0, 0)) = flat [(0, 0, 0)] ++ flat (List.replicate m (0, 0, 0)) := by simp [flat]
  rw [e]
  simp only [List.toList_toArray]
  rw [List.take_append_of_le_length (by rw [flat_len]; simp), List.take_of_length_le (by rw [flat_len]; simp)]
theorem Cha.start (w0 w1 : World) (n : Nat) (hu : Upd (fun _ => False) w0 w1) (hn : 1 ≤ n) (hm : n ≤ maxLen) :
    Cha w0 (w1.alloc (.cells (flat (List.replicate n (0, 0, 0))).toArray 78)) w1.heap.size n [] [] [⟨0, 0, 0⟩] [[]] 1 :=
  ⟨own_made w1 w0.heap.size n 78 hu.size hn hm, Chn.init, Upto.init, Nat.le_refl _, by simp, (hu.alloc _).mono (fun k _ h => h.elim)⟩
theorem Cha.drewN {w0 w : World} {gc size : Nat} {T : List Path} {pre : Path} {C : List CN} {P : List Path} {b : Nat} (h : Cha w0 w gc size T pre C P b) (q : Nat) : Cha w0 (w.drewN q) gc size T pre C P b :=
  ⟨h.row, h.chn, h.upto, h.le, h.pos, h.upd.drewN q⟩
theorem Cha.found {w0 w : World} {gc size : Nat} {T : List Path} {pre pre2 : Path} {C : List CN} {P : List Path} {b : Nat} {r : Int} (h : Cha w0 w gc size T pre C P b) (hp : pre2 = pre ++ [r]) (hm : pre2 ∈ P) : Cha w0 w gc size T pre2 C P (b + 1) :=
  ⟨h.row, h.chn, by rw [hp]; exact h.upto.found (by rw [← hp]; exact hm), by have := h.le; omega, h.pos, h.upd⟩
theorem addC_len (C : List CN) (n : Nat) (x : CN) (ks : List Nat) (r : Int) : (addC C n x ks r).length = C.length + 1 := by unfold addC; split <;> simp
theorem Cha.bound {w0 w : World} {gc size : Nat} {T0 : List Path} {pre : Path} {C : List CN} {P : List Path} {k j : Nat} {t : Path} (h : Cha w0 w gc size (T0.take k) pre C P (1 + tot (T0.take k) + j)) (ht : T0[k]? = some t) (hj : j < t.length) (hs : size = 1 + tot T0) : C.length + 1 ≤ size := by
  have h1 := h.le
  have h2 := tot_take T0 k t ht
  have h3 := tot_le T0 (k + 1)
  omega
/-- the new node, linked to its parent: the first child -/
theorem Cha.addF {w0 w w' : World} {gc size : Nat} {T : List Path} {pre pre2 : Path} {C : List CN} {P : List Path} {b n : Nat} {x : CN} {ks : List Nat} {r : Int} (h : Cha w0 w gc size T pre C P b) (hp2 : pre2 = pre ++ [r])
    (hx : C[n]? = some x) (hp : P[n]? = some pre) (hk : Link C x.f ks) (hno : ∀ m ∈ ks, ∀ y, C[m]? = some y → y.c ≠ r) (hl : ks.getLast? = none)
    (hrow : w'.ownsRow w0.heap.size 78 3 (.slice (some ⟨gc, 0, none⟩) (C.length + 1) size) (C.length + 1) (rowC C ++ [.int .i32 r, .int .i32 0, .int .i32 0])) (hu : Upd (fun k => k = gc) w0 w') :
    Cha w0 (w'.setCell ⟨gc, n * 3 + 1, none⟩ (.int .i32 (C.length : Int))) gc size T pre2 (addC C n x ks r) (P ++ [pre2]) (b + 1) := by
  have hnl : n < C.length := (List.getElem?_eq_some_iff.1 hx).1
  have hle := h.le
  refine ⟨?_, by rw [hp2]; exact h.chn.add hx hp hk hno, by rw [hp2]; exact h.upto.added, by rw [addC_len]; omega, by rw [addC_len]; omega, hu.setCell _ _ (.inl rfl)⟩
  rw [addC_len]
  have e : rowC (addC C n x ks r) = (rowC C ++ [Value.int .i32 r, Value.int .i32 0, Value.int .i32 0]).set (n * 3 + 1) (.int .i32 (C.length : Int)) := by
    rw [← rowC_append, rowC_setF (x := x) (by rw [List.getElem?_append_left hnl]; exact hx)]
    unfold addC
    rw [hl]
  rw [e]
  exact own_set hrow _ _ (by rw [List.length_append, rowC_len]; simp; omega)
/-- the new node, linked to the last of its siblings -/
theorem Cha.addS {w0 w w' : World} {gc size : Nat} {T : List Path} {pre pre2 : Path} {C : List CN} {P : List Path} {b n l : Nat} {x z : CN} {ks : List Nat} {r : Int} (h : Cha w0 w gc size T pre C P b) (hp2 : pre2 = pre ++ [r])
    (hx : C[n]? = some x) (hp : P[n]? = some pre) (hk : Link C x.f ks) (hno : ∀ m ∈ ks, ∀ y, C[m]? = some y → y.c ≠ r) (hl : ks.getLast? = some l) (hz : C[l]? = some z)
    (hrow : w'.ownsRow w0.heap.size 78 3 (.slice (some ⟨gc, 0, none⟩) (C.length + 1) size) (C.length + 1) (rowC C ++ [.int .i32 r, .int .i32 0, .int .i32 0])) (hu : Upd (fun k => k = gc) w0 w') :
    Cha w0 (w'.setCell ⟨gc, l * 3 + 2, none⟩ (.int .i32 (C.length : Int))) gc size T pre2 (addC C n x ks r) (P ++ [pre2]) (b + 1) := by
  have hnl : l < C.length := (List.getElem?_eq_some_iff.1 hz).1
  have hle := h.le
  refine ⟨?_, by rw [hp2]; exact h.chn.add hx hp hk hno, by rw [hp2]; exact h.upto.added, by rw [addC_len]; omega, by rw [addC_len]; omega, hu.setCell _ _ (.inl rfl)⟩
  rw [addC_len]
  have e : rowC (addC C n x ks r) = (rowC C ++ [Value.int .i32 r, Value.int .i32 0, Value.int .i32 0]).set (l * 3 + 2) (.int .i32 (C.length : Int)) := by
    rw [← rowC_append, rowC_setS (x := z) (by rw [List.getElem?_append_left hnl]; exact hz)]
    unfold addC
    rw [hl]
    simp only [hz, Option.getD_some]
  rw [e]
  exact own_set hrow _ _ (by rw [List.length_append, rowC_len]; simp; omega)
theorem Cha.next {w0 w : World} {gc size : Nat} {T : List Path} {C : List CN} {P : List Path} {k : Nat} {t : Path} (h : Cha w0 w gc size (T.take k) t C P (1 + tot (T.take k) + t.length)) (ht : T[k]? = some t) : Cha w0 w gc size (T.take (k + 1)) [] C P (1 + tot (T.take (k + 1))) := by
  refine ⟨h.row, h.chn, ?_, by have h1 := h.le; have h2 := tot_take T k t ht; omega, h.pos, h.upd⟩
  rw [List.take_add_one, ht]
  exact h.upto.next
theorem three_one (a b c : Int) : ∀ u ∈ [Value.int .i32 a, Value.int .i32 b, Value.int .i32 c], u.oneCell' = true := by
  intro u hu
  simp only [List.mem_cons, List.not_mem_nil, or_false] at hu
  rcases hu with rfl | rfl | rfl <;> rfl
end Go.Proofs.Qxb6608903a
