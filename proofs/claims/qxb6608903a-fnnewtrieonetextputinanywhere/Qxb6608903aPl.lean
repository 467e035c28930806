/-
  The plain laws of the trie: no Go in sight.
-/
namespace Go.Proofs.Qxb6608903a

/-! ### lists -/
theorem len_of_sub {α : Type} [BEq α] [LawfulBEq α] : ∀ (l m : List α), l.Nodup → (∀ a ∈ l, a ∈ m) → l.length ≤ m.length
  | [], m, _, _ => by simp
  | a :: l, m, h, hs => by
    rw [List.nodup_cons] at h
    have ha : a ∈ m := hs a (by simp)
    have := len_of_sub l (m.erase a) h.2 (fun b hb => by
      have hne : b ≠ a := fun e => h.1 (e ▸ hb)
      exact (List.mem_erase_of_ne hne).2 (hs b (by simp [hb])))
    have h2 := List.length_erase_of_mem ha
    have h3 : 0 < m.length := List.length_pos_of_mem ha
    simp only [List.length_cons]
    omega
theorem len_eq {α : Type} [BEq α] [LawfulBEq α] (l m : List α) (hl : l.Nodup) (hm : m.Nodup) (h : ∀ a, a ∈ l ↔ a ∈ m) : l.length = m.length :=
  Nat.le_antisymm (len_of_sub l m hl (fun a ha => (h a).1 ha)) (len_of_sub m l hm (fun a ha => (h a).2 ha))

/-- strictly rising -/
def Inc (l : List Int) : Prop := l.Pairwise (· < ·)
theorem inc_eq : ∀ (l m : List Int), Inc l → Inc m → (∀ a, a ∈ l ↔ a ∈ m) → l = m
  | [], [], _, _, _ => rfl
  | [], b :: m, _, _, h => by have := (h b).2 (by simp); simp at this
  | a :: l, [], _, _, h => by have := (h a).1 (by simp); simp at this
  | a :: l, b :: m, hl, hm, h => by
    obtain ⟨hl1, hl2⟩ := List.pairwise_cons.1 hl
    obtain ⟨hm1, hm2⟩ := List.pairwise_cons.1 hm
    have hab : a = b := by
      have h1 := (h a).1 (by simp)
      have h2 := (h b).2 (by simp)
      rcases List.mem_cons.1 h1 with e | e
      · exact e
      · rcases List.mem_cons.1 h2 with e2 | e2
        · exact e2.symm
        · have := hm1 a e; have := hl1 b e2; omega
    subst hab
    congr 1
    refine inc_eq l m hl2 hm2 (fun c => ?_)
    have := h c
    simp only [List.mem_cons] at this
    constructor
    · intro hc
      rcases this.1 (.inr hc) with e | e
      · have := hl1 c hc; omega
      · exact e
    · intro hc
      rcases this.2 (.inr hc) with e | e
      · have := hm1 c hc; omega
      · exact e
theorem inc_nodup {l : List Int} (h : Inc l) : l.Nodup := h.imp (fun h => by omega)

/-! ### the starts of the texts -/
abbrev Path := List Int
/-- q starts some text, or is empty -/
def Starts (T : List Path) (q : Path) : Prop := q = [] ∨ ∃ t ∈ T, q <+: t
/-- S lists the starts, each once -/
structure Lists (T : List Path) (S : List Path) : Prop where
  nodup : S.Nodup
  mem : ∀ q, q ∈ S ↔ Starts T q
theorem Lists.same_len {T T' S S' : List Path} (h : Lists T S) (h' : Lists T' S') (ht : ∀ t, t ∈ T ↔ t ∈ T') : S.length = S'.length := by
  refine len_eq S S' h.nodup h'.nodup (fun q => ?_)
  rw [h.mem, h'.mem]
  unfold Starts
  simp only [ht]

/-! ### how far two texts go together -/
def lcp : Path → Path → Nat
  | a :: l, b :: m => if a = b then lcp l m + 1 else 0
  | _, _ => 0
theorem lcp_le : ∀ (x t : Path), lcp x t ≤ x.length
  | [], t => by simp [lcp]
  | a :: l, [] => by simp [lcp]
  | a :: l, b :: m => by
    unfold lcp; split
    · have := lcp_le l m; simp; omega
    · simp
theorem take_pre_iff : ∀ (x t : Path) (j : Nat), j ≤ x.length → (x.take j <+: t ↔ j ≤ lcp x t)
  | x, t, 0, _ => by simp
  | [], t, j + 1, h => by simp at h
  | a :: l, [], j + 1, h => by simp [lcp]
  | a :: l, b :: m, j + 1, h => by
    rw [List.take_succ_cons, List.cons_prefix_cons]
    unfold lcp
    have ih := take_pre_iff l m j (by simpa using h)
    by_cases hab : a = b
    · rw [if_pos hab, ih]; simp [hab]
    · rw [if_neg hab]; simp [hab]
/-- the longest common start with any text -/
def share (x : Path) : List Path → Nat
  | [] => 0
  | t :: T => max (lcp x t) (share x T)
theorem share_le (x : Path) : ∀ T, share x T ≤ x.length
  | [] => by simp [share]
  | t :: T => by unfold share; have := lcp_le x t; have := share_le x T; omega
theorem le_share (x : Path) : ∀ (T : List Path) (j : Nat), 0 < j → (j ≤ share x T ↔ ∃ t ∈ T, j ≤ lcp x t)
  | [], j, h => by simp [share]; omega
  | t :: T, j, h => by
    unfold share
    have ih := le_share x T j h
    simp only [List.mem_cons, exists_eq_or_imp]
    rw [← ih]; omega
theorem starts_take (x : Path) (T : List Path) (j : Nat) (hj : j ≤ x.length) : Starts T (x.take j) ↔ j ≤ share x T := by
  rcases Nat.eq_zero_or_pos j with h0 | h0
  · subst h0; simp [Starts]
  · rw [le_share x T j h0]
    constructor
    · rintro (h | ⟨t, ht, hp⟩)
      · have := congrArg List.length h; rw [List.length_take, List.length_nil] at this; omega
      · exact ⟨t, ht, (take_pre_iff x t j hj).1 hp⟩
    · rintro ⟨t, ht, hp⟩
      exact .inr ⟨t, ht, (take_pre_iff x t j hj).2 hp⟩
/-- one text more -/
theorem size_more {T T' S S' : List Path} {x : Path} (h : Lists T S) (h' : Lists T' S') (ht : ∀ t, t ∈ T' ↔ t = x ∨ t ∈ T) : S'.length = S.length + x.length - share x T := by
  have hs := share_le x T
  have key : Lists T' (S ++ (List.range (x.length - share x T)).map (fun d => x.take (share x T + 1 + d))) := by
    constructor
    · rw [List.nodup_append]
      refine ⟨h.nodup, ?_, ?_⟩
      · rw [List.Nodup, List.pairwise_map]
        refine (List.nodup_range (n := x.length - share x T)).imp_of_mem (fun {a b} ha hb hab e => ?_)
        have ha' := List.mem_range.1 ha
        have hb' := List.mem_range.1 hb
        have := congrArg List.length e
        simp only [List.length_take] at this
        omega
      · intro a ha b hb e
        subst e
        obtain ⟨d, hd, rfl⟩ := List.mem_map.1 hb
        have hd' := List.mem_range.1 hd
        have := (starts_take x T _ (by omega)).1 ((h.mem _).1 ha)
        omega
    · intro q
      rw [List.mem_append, h.mem, List.mem_map]
      constructor
      · rintro (hq | ⟨d, hd, rfl⟩)
        · rcases hq with hq | ⟨t, htt, hp⟩
          · exact .inl hq
          · exact .inr ⟨t, (ht t).2 (.inr htt), hp⟩
        · exact .inr ⟨x, (ht x).2 (.inl rfl), List.take_prefix _ _⟩
      · rintro (hq | ⟨t, htt, hp⟩)
        · exact .inl (.inl hq)
        · rcases (ht t).1 htt with rfl | ht2
          · have e : q = t.take q.length := List.prefix_iff_eq_take.1 hp
            have hl : q.length ≤ t.length := hp.length_le
            by_cases hc : q.length ≤ share t T
            · left
              rw [e]
              exact (starts_take t T _ hl).2 hc
            · right
              refine ⟨q.length - share t T - 1, List.mem_range.2 (by omega), ?_⟩
              rw [show share t T + 1 + (q.length - share t T - 1) = q.length by omega]
              exact e.symm
          · exact .inl (.inr ⟨t, ht2, hp⟩)
  have := h'.same_len key (fun t => Iff.rfl)
  rw [this]
  simp
  omega
end Go.Proofs.Qxb6608903a
