/-
  newTrie: the children sorted in their row.
-/
import Derived.Test.Qxb6608903aNtB
namespace Go.Proofs.Qxb6608903a
open Go.ChangeShapes Go.WideShapes Go.ChangeAt Go.RowKit Go.Sort
set_option linter.unusedSimpArgs false
set_option linter.unusedVariables false

theorem flatK_get (l : List (Int × Int × Int)) (j : Nat) (hj : j < l.length * 3) : (flat l)[j]? = some ((flatK encN 3 l.toArray)[j]!) := by
  rw [get_flatK _ _ _ _ (by simpa using hj)]
  have hd : j / 3 < l.length := by omega
  have hx : l[j / 3]? = some l[j / 3] := List.getElem?_eq_getElem hd
  have h := flat_get l (j / 3) (j % 3) _ hx (by omega)
  rw [show j / 3 * 3 + j % 3 = j by omega] at h
  rw [h]
  have e : (l.toArray)[j / 3]! = l[j / 3] := by simp [hd]
  rw [e]
  have h3 : j % 3 < 3 := by omega
  generalize j % 3 = q at h3
  show (c3 l[j / 3])[q]? = some ((c3 l[j / 3])[q]!)
  match q, h3 with
  | 0, _ => rfl
  | 1, _ => rfl
  | 2, _ => rfl
theorem flat_mid (A l : List (Int × Int × Int)) (j : Nat) : (flat (A ++ l))[A.length * 3 + j]? = (flat l)[j]? := by
  rw [flat_append, List.getElem?_append_right (by rw [flat_len]; omega), flat_len, Nat.add_sub_cancel_left]
theorem holds_row {w : World} {B : Nat} {e : TypeId} {g n c : Nat} {A l : List (Int × Int × Int)} (h : w.ownsRow B e 3 (.slice (some ⟨g, 0, none⟩) n c) n (flat (A ++ l))) : HoldsK encN 3 w g (A.length * 3) l.toArray := by
  intro j hj
  have hj' : j < l.length * 3 := by simpa using hj
  exact ⟨own_cell3 h (by rw [flat_mid, flatK_get l j hj']; rfl), own_nf h _⟩
theorem sorted_row {w : World} {B : Nat} {e : TypeId} {g n c q : Nat} {A l l' : List (Int × Int × Int)} {os : Array Obj} (h : w.ownsRow B e 3 (.slice (some ⟨g, 0, none⟩) n c) n (flat (A ++ l))) (hl : l'.length = l.length) :
    (sortWorldK encN 3 w g (A.length * 3) q l'.toArray os).ownsRow B e 3 (.slice (some ⟨g, 0, none⟩) n c) n (flat (A ++ l')) ∧ Upd (fun k => k = g) w (sortWorldK encN 3 w g (A.length * 3) q l'.toArray os) := by
  have hlen := h.1
  rw [flat_len, List.length_append] at hlen
  rcases h.2 with ⟨h1, _⟩ | ⟨g', cap, cur, h1, hb, hg, hnc, hcm, hcs, ht⟩
  · simp at h1
  · simp only [Value.slice.injEq, Option.some.injEq, Addr.mk.injEq, and_true, true_and] at h1
    obtain ⟨rfl, rfl⟩ := h1
    have hgl : g < w.heap.size := (Array.getElem?_eq_some_iff.1 hg).1
    refine ⟨⟨by rw [flat_len, List.length_append]; omega, .inr ⟨g, c, putCells id (A.length * 3) (flatK encN 3 l'.toArray) cur, rfl, hb, ?_, hnc, hcm, by simp [putCells, hcs], ?_⟩⟩, ?_⟩
    · unfold sortWorldK putRowK
      rw [heap_grow_old _ _ (by simpa [Sort.ahead] using hgl)]
      simp [putRow, mapBlock, Sort.ahead, Array.getElem?_modify, hg, onCells]
    · refine List.ext_getElem? fun t => ?_
      by_cases htn : t < n * 3
      · rw [List.getElem?_take_of_lt htn, Array.getElem?_toList]
        simp only [putCells, Array.getElem?_mapIdx, size_flatK, List.size_toArray]
        have hc : cur[t]? = (flat (A ++ l))[t]? := by
          rw [← Array.getElem?_toList, ← ht, List.getElem?_take_of_lt htn]
        by_cases hta : t < A.length * 3
        · rw [hc, flat_append, flat_append, List.getElem?_append_left (by rw [flat_len]; exact hta), List.getElem?_append_left (by rw [flat_len]; exact hta)]
          have hx : ∃ v, (flat A)[t]? = some v := ⟨_, List.getElem?_eq_getElem (by rw [flat_len]; exact hta)⟩
          obtain ⟨v, hv⟩ := hx
          rw [hv, Option.map_some, if_neg (by omega)]
        · obtain ⟨u, rfl⟩ : ∃ u, t = A.length * 3 + u := ⟨t - A.length * 3, by omega⟩
          have hu : u < l'.length * 3 := by omega
          rw [flat_mid, flatK_get l' u hu]
          have hx : ∃ v, cur[A.length * 3 + u]? = some v := ⟨_, Array.getElem?_eq_getElem (by
            have hnn : n * 3 ≤ c * 3 := Nat.mul_le_mul_right 3 hnc
            omega)⟩
          obtain ⟨v, hv⟩ := hx
          rw [hv, Option.map_some, if_pos (by omega), Nat.add_sub_cancel_left]
          rfl
      · rw [List.getElem?_eq_none (by simp; omega), List.getElem?_eq_none (by rw [flat_len, List.length_append]; omega)]
    · unfold sortWorldK putRowK
      refine ⟨rfl, rfl, rfl, by simp [Sort.ahead, grow], fun k hk hne => ?_⟩
      rw [heap_grow_old _ _ (by simpa [Sort.ahead] using hk)]
      have : g ≠ k := fun e => hne e.symm
      simp [putRow, mapBlock, Sort.ahead, Array.getElem?_modify, this]
end Go.Proofs.Qxb6608903a
