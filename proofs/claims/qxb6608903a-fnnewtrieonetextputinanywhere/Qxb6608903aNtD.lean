/-
  newTrie: the nodes on the way of the layout: no Go in sight.
-/
import Derived.Test.Qxb6608903aNtC
namespace Go.Proofs.Qxb6608903a

/-- a start's last character -/
def ch (q : Path) : Int := q.getLastD 0
theorem ch_snoc (q : Path) (r : Int) : ch (q ++ [r]) = r := by simp [ch]
def nodeAt (Qs : List Path) (fs : List (Nat × Nat)) (K : List Nat) (j : Nat) : Int × Int × Int :=
  (ch (Qs.getD j []), if j < fs.length then ((fs.getD j (0, 0)).1 : Int) else (K.getD j 0 : Int), if j < fs.length then ((fs.getD j (0, 0)).2 : Int) else 0)
/-- the nodes, those of index < fs.length laid out -/
def mid (Qs : List Path) (fs : List (Nat × Nat)) (K : List Nat) : List (Int × Int × Int) := (List.range Qs.length).map (nodeAt Qs fs K)
theorem mid_len (Qs : List Path) (fs : List (Nat × Nat)) (K : List Nat) : (mid Qs fs K).length = Qs.length := by simp [mid]
theorem mid_get {Qs : List Path} {fs : List (Nat × Nat)} {K : List Nat} {j : Nat} (h : j < Qs.length) : (mid Qs fs K)[j]? = some (nodeAt Qs fs K j) := by
  rw [mid, List.getElem?_map, List.getElem?_range h]; rfl
theorem mid_start : mid [[]] [] [0] = [(0, 0, 0)] := rfl
theorem getD_left {α : Type} {l m : List α} {d : α} {j : Nat} (h : j < l.length) : (l ++ m).getD j d = l.getD j d := by simp [List.getElem?_append_left h]
theorem getD_right {α : Type} {l m : List α} {d : α} {j : Nat} : (l ++ m).getD (l.length + j) d = m.getD j d := by simp [List.getElem?_append_right]
theorem mid_step {Qs : List Path} {fs : List (Nat × Nat)} {K : List Nat} {q : Path} {l : List (Int × Nat)} (hi : Qs[fs.length]? = some q) (hK : K.length = Qs.length) :
    mid (Qs ++ (l.map Prod.fst).map (fun r => q ++ [r])) (fs ++ [(Qs.length, l.length)]) (K ++ l.map Prod.snd) = (mid Qs fs K ++ l.map (fun a : Int × Nat => ((a.1, (a.2 : Int), (0 : Int)) : Int × Int × Int))).set fs.length (ch q, (Qs.length : Int), (l.length : Int)) := by
  have hlt : fs.length < Qs.length := (List.getElem?_eq_some_iff.1 hi).1
  refine List.ext_getElem? fun j => ?_
  by_cases hj : j < Qs.length + l.length
  · rw [mid_get (by simp; omega)]
    by_cases hj1 : j = fs.length
    · subst hj1
      rw [List.getElem?_set_self (by rw [List.length_append, mid_len]; omega)]
      unfold nodeAt
      have e1 : (Qs ++ (l.map Prod.fst).map (fun r => q ++ [r])).getD fs.length [] = q := by rw [getD_left hlt]; simp [hi]
      have e2 : (fs ++ [(Qs.length, l.length)]).getD fs.length (0, 0) = (Qs.length, l.length) := by simp
      rw [e1, e2, if_pos (by simp), if_pos (by simp)]
    · rw [List.getElem?_set_ne (by omega)]
      by_cases hj2 : j < Qs.length
      · rw [List.getElem?_append_left (by rw [mid_len]; exact hj2), mid_get hj2]
        unfold nodeAt
        rw [getD_left hj2, getD_left (by omega : j < K.length)]
        by_cases hj3 : j < fs.length
        · rw [getD_left hj3, if_pos (by simp; omega), if_pos (by simp; omega), if_pos hj3, if_pos hj3]
        · rw [if_neg (by simp; omega), if_neg (by simp; omega), if_neg hj3, if_neg hj3]
      · obtain ⟨u, rfl⟩ : ∃ u, j = Qs.length + u := ⟨j - Qs.length, by omega⟩
        have hu : u < l.length := by omega
        rw [List.getElem?_append_right (by rw [mid_len]; omega), mid_len, Nat.add_sub_cancel_left, List.getElem?_map, List.getElem?_eq_getElem hu]
        unfold nodeAt
        rw [getD_right, ← hK, getD_right, if_neg (by simp; omega), if_neg (by simp; omega)]
        have e1 : ((l.map Prod.fst).map (fun r => q ++ [r])).getD u [] = q ++ [l[u].1] := by simp [List.getElem?_eq_getElem hu]
        have e2 : (l.map Prod.snd).getD u 0 = l[u].2 := by simp [List.getElem?_eq_getElem hu]
        rw [e1, e2, ch_snoc]
        rfl
  · rw [List.getElem?_eq_none (by rw [mid_len]; simp; omega), List.getElem?_eq_none (by rw [List.length_set, List.length_append, mid_len]; simp; omega)]
/-- the nodes of a whole layout -/
def whole (Qs : List Path) (fs : List (Nat × Nat)) : List (Int × Nat × Nat) := (List.range Qs.length).map (fun j => (ch (Qs.getD j []), (fs.getD j (0, 0)).1, (fs.getD j (0, 0)).2))
theorem mid_whole {Qs : List Path} {fs : List (Nat × Nat)} {K : List Nat} (h : fs.length = Qs.length) : mid Qs fs K = (whole Qs fs).map (fun x => (x.1, (x.2.1 : Int), (x.2.2 : Int))) := by
  unfold mid whole
  rw [List.map_map]
  refine List.map_congr_left (fun j hj => ?_)
  have hj' := List.mem_range.1 hj
  unfold nodeAt
  rw [if_pos (by omega), if_pos (by omega)]
  rfl
end Go.Proofs.Qxb6608903a
