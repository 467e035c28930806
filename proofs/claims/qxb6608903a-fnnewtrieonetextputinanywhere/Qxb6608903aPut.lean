/-
  One text put in: rows of texts of one's own.
-/
import Derived.Test.Qxb6608903aByt
import Derived.Test.Qxb6608903aBfs
namespace Go.Proofs.Qxb6608903a
open Go.ChangeShapes Go.WideShapes Go.ChangeAt Go.RowKit
set_option linter.unusedSimpArgs false
set_option linter.unusedVariables false

theorem info24 : (Try.prog.info? 24).map (fun i => (i.zero, i.size, i.bytes)) = some (some (.slice none 0 0), 1, 24) := by kernel_rfl
/-- how many runes in all -/
def totL (T : List Path) : Nat := (T.map List.length).sum
theorem totL_put (T : List Path) (x : Path) (k : Nat) : totL (T.take k ++ [x] ++ T.drop k) = totL T + x.length := by
  have h : totL T = totL (T.take k) + totL (T.drop k) := by
    unfold totL
    rw [← List.sum_append, ← List.map_append, List.take_append_drop]
  rw [h]
  simp [totL]
  omega
theorem totL_end (T : List Path) (x : Path) : totL (T ++ [x]) = totL T + x.length := by simp [totL]
theorem totL_take (T : List Path) (k : Nat) (t : Path) (h : T[k]? = some t) : totL (T.take (k + 1)) = totL (T.take k) + t.length := by
  rw [List.take_add_one, h]
  simp [totL]
theorem totL_len (T : List Path) (k : Nat) (t : Path) (h : T[k]? = some t) : t.length ≤ totL T := by
  have h1 := totL_take T k t h
  have h2 : totL T = totL (T.take (k + 1)) + totL (T.drop (k + 1)) := by
    unfold totL
    rw [← List.sum_append, ← List.map_append, List.take_append_drop]
  omega
theorem starts_put (T : List Path) (x : Path) (k : Nat) (q : Path) : Starts (T.take k ++ [x] ++ T.drop k) q ↔ Starts (T ++ [x]) q := by
  have e : ∀ t, t ∈ T.take k ++ [x] ++ T.drop k ↔ t ∈ T ++ [x] := fun t => by
    have h : t ∈ T ↔ t ∈ T.take k ∨ t ∈ T.drop k := by rw [← List.mem_append, List.take_append_drop]
    simp only [List.mem_append, List.mem_singleton, h]
    constructor
    · rintro ((h | h) | h)
      · exact .inl (.inl h)
      · exact .inr h
      · exact .inl (.inr h)
    · rintro ((h | h) | h)
      · exact .inl (.inl h)
      · exact .inr h
      · exact .inl (.inr h)
  unfold Starts
  simp only [e]
theorem mem_put (T : List Path) (x : Path) (k : Nat) (t : Path) : t ∈ T.take k ++ [x] ++ T.drop k ↔ t = x ∨ t ∈ T := by
  have h : t ∈ T ↔ t ∈ T.take k ∨ t ∈ T.drop k := by rw [← List.mem_append, List.take_append_drop]
  simp only [List.mem_append, List.mem_singleton, h]
  constructor
  · rintro ((h | h) | h)
    · exact .inr (.inl h)
    · exact .inl h
    · exact .inr (.inr h)
  · rintro (h | h | h)
    · exact .inl (.inr h)
    · exact .inl (.inl h)
    · exact .inr h
theorem share_snoc (x t : Path) : ∀ T : List Path, share x (T ++ [t]) = max (share x T) (lcp x t)
  | [] => by simp [share]
  | u :: T => by
    have := share_snoc x t T
    simp only [List.cons_append, share]
    omega
theorem share_take (x : Path) (T : List Path) (k : Nat) (t : Path) (h : T[k]? = some t) : share x (T.take (k + 1)) = max (share x (T.take k)) (lcp x t) := by
  rw [List.take_add_one, h]
  exact share_snoc x t _

/-- each value is a text -/
def Each (w : World) (vs : List Value) (T : List Path) : Prop := vs.length = T.length ∧ ∀ (j : Nat) (u : Value) (t : Path), vs[j]? = some u → T[j]? = some t → InV w u (I32 t)
theorem Each.append {w : World} {vs us : List Value} {T U : List Path} (h : Each w vs T) (h' : Each w us U) : Each w (vs ++ us) (T ++ U) := by
  have hl := h.1
  have hl' := h'.1
  refine ⟨by simp [hl, hl'], fun j u t hj ht => ?_⟩
  by_cases hjl : j < vs.length
  · rw [List.getElem?_append_left hjl] at hj
    rw [List.getElem?_append_left (by omega)] at ht
    exact h.2 j u t hj ht
  · rw [List.getElem?_append_right (by omega)] at hj
    rw [List.getElem?_append_right (by omega), ← hl] at ht
    exact h'.2 _ u t hj ht
theorem Each.take {w : World} {vs : List Value} {T : List Path} (h : Each w vs T) (k : Nat) : Each w (vs.take k) (T.take k) := by
  have hl := h.1
  refine ⟨by simp [hl], fun j u t hj ht => ?_⟩
  rw [List.getElem?_take] at hj ht
  split at hj
  · rw [if_pos (by assumption)] at ht; exact h.2 j u t hj ht
  · cases hj
theorem Each.drop {w : World} {vs : List Value} {T : List Path} (h : Each w vs T) (k : Nat) : Each w (vs.drop k) (T.drop k) := by
  have hl := h.1
  refine ⟨by simp [hl], fun j u t hj ht => ?_⟩
  rw [List.getElem?_drop] at hj ht
  exact h.2 _ u t hj ht
theorem Each.one {w : World} {u : Value} {t : Path} (h : InV w u (I32 t)) : Each w [u] [t] := by
  refine ⟨rfl, fun j v s hj hs => ?_⟩
  have : j = 0 := by have := (List.getElem?_eq_some_iff.1 hj).1; simp at this; exact this
  subst this
  simp at hj hs
  subst hj hs
  exact h
theorem Each.kept {w w' : World} {vs : List Value} {T : List Path} (h : Each w vs T) (hu : Upd (fun _ => False) w w') : Each w' vs T := ⟨h.1, fun j u t hj ht => (h.2 j u t hj ht).kept hu⟩
theorem Each.cell {w : World} {vs : List Value} {T : List Path} (h : Each w vs T) : ∀ u ∈ vs, u.oneCell' = true := by
  intro u hu
  obtain ⟨j, hj⟩ := List.getElem?_of_mem hu
  obtain ⟨t, ht⟩ : ∃ t, T[j]? = some t := ⟨_, List.getElem?_eq_getElem (by have := (List.getElem?_eq_some_iff.1 hj).1; rw [h.1] at this; exact this)⟩
  obtain ⟨x, c, rfl⟩ := (h.2 j u t hj ht).form
  rfl
theorem InV.cap {w : World} {x : Option Addr} {n c : Nat} {vs : List Value} (h : InV w (.slice x n c) vs) : n ≤ c := by
  rcases h with ⟨h, h0⟩ | ⟨y, c', h, hc, hx⟩
  · simp only [Value.slice.injEq] at h; omega
  · simp only [Value.slice.injEq] at h; omega
theorem InV.none {w : World} {x : Option Addr} {n c : Nat} {vs : List Value} (h : InV w (.slice x n c) vs) (hx : x = .none) : n = 0 ∧ c = 0 := by
  rcases h with ⟨h, h0⟩ | ⟨y, c', h, hc, hx'⟩
  · simp only [Value.slice.injEq] at h; exact ⟨h.2.1, h.2.2⟩
  · simp only [Value.slice.injEq] at h; rw [hx] at h; simp at h
theorem InV.cells {w : World} {x : Option Addr} {n c : Nat} {vs : List Value} (h : InV w (.slice x n c) vs) : ∀ ad, x = some ad → ∀ j u, vs[j]? = some u → w.cell? (ad.add j) = some u := by
  intro ad hx
  rcases h with ⟨h, h0⟩ | ⟨y, c', h, hc, hy⟩
  · simp only [Value.slice.injEq] at h; rw [hx] at h; simp at h
  · simp only [Value.slice.injEq] at h
    rw [hx] at h
    simp only [Option.some.injEq] at h
    rw [h.1]
    exact hy
theorem InV.to {w : World} {x : Option Addr} {n c : Nat} {vs : List Value} (h : InV w (.slice x n c) vs) (k : Nat) : ∀ ad, x = some ad → ∀ j u, (vs.take k)[j]? = some u → w.cell? (ad.add j) = some u := by
  intro ad hx j u hj
  rw [List.getElem?_take] at hj
  split at hj
  · exact h.cells ad hx j u hj
  · cases hj
theorem InV.from {w : World} {x : Option Addr} {n c : Nat} {vs : List Value} (h : InV w (.slice x n c) vs) (k : Nat) : ∀ ad, (if c = k then x else x.map (fun a => a.add k)) = some ad → ∀ j u, (vs.drop k)[j]? = some u → w.cell? (ad.add j) = some u := by
  intro ad hx j u hj
  rw [List.getElem?_drop] at hj
  have hn := h.len
  have hc := h.cap
  have hl := (List.getElem?_eq_some_iff.1 hj).1
  rw [if_neg (by omega)] at hx
  obtain ⟨g, o, rfl, _, _, hh⟩ := h.at (by omega)
  simp only [Option.map_some, Option.some.injEq] at hx
  rw [← hx, Addr.add_mid, Addr.add_mid, Nat.add_assoc]
  exact hh _ u hj

theorem Upd.next {X : Nat → Prop} {a b c : World} (h : Upd (fun _ => False) a b) (k : Upd X b c) (hx : ∀ i, X i → a.heap.size ≤ i) : Upd (fun _ => False) a c :=
  ⟨k.os.trans h.os, k.tape.trans h.tape, k.output.trans h.output, Nat.le_trans h.size k.size, fun i hi _ => (k.block i (Nat.lt_of_lt_of_le hi h.size) (fun e => by have := hx i e; omega)).trans (h.block i hi (fun h => h))⟩
/-- what ZZnewTrie hands back: F lays the nodes -/
def NewPost (F : List Path → List (Nat × Nat) → List Nd) (T : List Path) (w : World) (r : Ending) (w' : World) : Prop :=
  ∃ bt Qs fs, r = .returned (.pointer (some ⟨bt, 0, none⟩)) ∧ TrieAt w' bt (F Qs fs) ∧ Bfs (Starts T) Qs.length Qs fs ∧ Qs.length ≤ 2097152 ∧ Upd (fun _ => False) w w'
def Yes (w : World) (r : Ending) (w' : World) : Prop := r = .returned (.bool true) ∧ Upd (fun _ => False) w w'
end Go.Proofs.Qxb6608903a
