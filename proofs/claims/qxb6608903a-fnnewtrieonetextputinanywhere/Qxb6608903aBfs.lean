/-
  The layout, breadth first: no Go in sight.
-/
import Derived.Test.Qxb6608903aPl
namespace Go.Proofs.Qxb6608903a

/-- 'i' nodes are laid out: the starts in the order of the layout; of each laid node where its children begin and how many they are -/
inductive Bfs (M : Path → Prop) : Nat → List Path → List (Nat × Nat) → Prop
  | zero : Bfs M 0 [[]] []
  | step {i : Nat} {Qs : List Path} {fs : List (Nat × Nat)} {q : Path} {ks : List Int} (h : Bfs M i Qs fs) (hq : Qs[i]? = some q) (hi : Inc ks) (hm : ∀ r, r ∈ ks ↔ M (q ++ [r])) :
      Bfs M (i + 1) (Qs ++ ks.map (fun r => q ++ [r])) (fs ++ [(Qs.length, ks.length)])

theorem Bfs.det {M M' : Path → Prop} (hM : ∀ q, M q ↔ M' q) {i : Nat} {Qs : List Path} {fs : List (Nat × Nat)} (h : Bfs M i Qs fs) : ∀ {Qs' fs'}, Bfs M' i Qs' fs' → Qs' = Qs ∧ fs' = fs := by
  induction h with
  | zero => intro Qs' fs' h'; cases h'; exact ⟨rfl, rfl⟩
  | step h hq hi hm ih =>
    intro Qs' fs' h'
    cases h' with
    | step h2 hq2 hi2 hm2 =>
      obtain ⟨rfl, rfl⟩ := ih h2
      rw [hq] at hq2
      obtain rfl := Option.some.inj hq2
      have e := inc_eq _ _ hi hi2 (fun r => by rw [hm, hm2, hM])
      subst e
      exact ⟨rfl, rfl⟩
theorem Bfs.back {M : Path → Prop} {i : Nat} {Qs : List Path} {fs : List (Nat × Nat)} (h : Bfs M i Qs fs) : ∀ j, j ≤ i → ∃ Q f, Bfs M j Q f ∧ Q.length ≤ Qs.length ∧ (j < i → j < Q.length) := by
  induction h with
  | zero => intro j hj; exact ⟨_, _, by rw [show j = 0 by omega]; exact .zero, Nat.le_refl _, fun h => by omega⟩
  | @step i Qs fs q ks h hq hi hm ih =>
    intro j hj
    by_cases hji : j = i + 1
    · subst hji
      exact ⟨_, _, .step h hq hi hm, Nat.le_refl _, fun h => by omega⟩
    · obtain ⟨Q, f, b, hl, hlt⟩ := ih j (by omega)
      by_cases hjj : j = i
      · subst hjj
        exact ⟨_, _, h, by simp, fun _ => (List.getElem?_eq_some_iff.1 hq).1⟩
      · exact ⟨Q, f, b, by simp; omega, fun _ => hlt (by omega)⟩
/-- two whole layouts are one -/
theorem Bfs.whole {M M' : Path → Prop} (hM : ∀ q, M q ↔ M' q) {i j : Nat} {Qs Qs' : List Path} {fs fs' : List (Nat × Nat)} (h : Bfs M i Qs fs) (h' : Bfs M' j Qs' fs') (hi : i = Qs.length) (hj : j = Qs'.length) : Qs' = Qs ∧ fs' = fs := by
  rcases Nat.lt_trichotomy i j with hlt | rfl | hlt
  · obtain ⟨Q, f, b, _, hl⟩ := h'.back i (by omega)
    obtain ⟨rfl, rfl⟩ := h.det hM b
    have := hl hlt
    omega
  · exact h.det hM h'
  · obtain ⟨Q, f, b, _, hl⟩ := h.back j (by omega)
    obtain ⟨rfl, rfl⟩ := h'.det (fun q => (hM q).symm) b
    have := hl hlt
    omega

structure BfsOk (M : Path → Prop) (i : Nat) (Qs : List Path) (fs : List (Nat × Nat)) : Prop where
  nodup : Qs.Nodup
  mem : ∀ q ∈ Qs, q = [] ∨ M q
  up : ∀ q r, q ++ [r] ∈ Qs → q ∈ Qs.take i
  kids : ∀ q r, q ∈ Qs.take i → M (q ++ [r]) → q ++ [r] ∈ Qs
  len : fs.length = i
  le : i ≤ Qs.length
  root : [] ∈ Qs
theorem Bfs.ok {M : Path → Prop} {i : Nat} {Qs : List Path} {fs : List (Nat × Nat)} (h : Bfs M i Qs fs) : BfsOk M i Qs fs := by
  induction h with
  | zero =>
    refine ⟨by simp, fun q hq => .inl (by simpa using hq), fun q r h => ?_, fun q r h => by simp at h, rfl, by simp, by simp⟩
    have := congrArg List.length (List.mem_singleton.1 h)
    simp at this
  | @step i Qs fs q ks h hq hi hm ih =>
    have hlt := (List.getElem?_eq_some_iff.1 hq).1
    have hqm : q ∈ Qs := List.mem_of_getElem? hq
    have htk : (Qs ++ ks.map (fun r => q ++ [r])).take (i + 1) = Qs.take i ++ [q] := by
      rw [List.take_append_of_le_length (by omega), List.take_add_one, hq]; rfl
    have hnq : q ∉ Qs.take i := fun hc => by
      obtain ⟨j, hj⟩ := List.getElem?_of_mem hc
      have hj1 : j < i := by have := (List.getElem?_eq_some_iff.1 hj).1; simp at this; omega
      rw [List.getElem?_take, if_pos hj1] at hj
      have := (List.getElem?_inj (by omega) ih.nodup).1 (hj.trans hq.symm)
      omega
    refine ⟨?_, ?_, ?_, ?_, by simp [ih.len], by simp; omega, by simp [ih.root]⟩
    · rw [List.nodup_append]
      refine ⟨ih.nodup, ?_, ?_⟩
      · rw [List.Nodup, List.pairwise_map]
        exact hi.imp (fun {a b} hab e => by
          have := List.append_cancel_left e
          simp at this; omega)
      · intro a ha b hb e
        subst e
        obtain ⟨r, hr, rfl⟩ := List.mem_map.1 hb
        exact hnq (ih.up q r ha)
    · intro p hp
      rcases List.mem_append.1 hp with hp | hp
      · exact ih.mem p hp
      · obtain ⟨r, hr, rfl⟩ := List.mem_map.1 hp
        exact .inr ((hm r).1 hr)
    · intro p r hp
      rw [htk]
      rcases List.mem_append.1 hp with hp | hp
      · exact List.mem_append_left _ (ih.up p r hp)
      · obtain ⟨r', hr, e⟩ := List.mem_map.1 hp
        have := List.append_inj_left' e (by simp)
        subst this
        simp
    · intro p r hp hM
      rw [htk] at hp
      rcases List.mem_append.1 hp with hp | hp
      · exact List.mem_append_left _ (ih.kids p r hp hM)
      · obtain rfl := List.mem_singleton.1 hp
        exact List.mem_append_right _ (List.mem_map.2 ⟨r, (hm r).2 hM, rfl⟩)
theorem starts_up {T : List Path} {q : Path} {r : Int} (h : Starts T (q ++ [r])) : Starts T q := by
  rcases h with h | ⟨t, ht, hp⟩
  · have := congrArg List.length h; simp at this
  · exact .inr ⟨t, ht, (List.prefix_append q [r]).trans hp⟩
theorem Bfs.le_size {T S : List Path} {i : Nat} {Qs : List Path} {fs : List (Nat × Nat)} (h : Bfs (Starts T) i Qs fs) (hS : Lists T S) : Qs.length ≤ S.length :=
  len_of_sub Qs S h.ok.nodup (fun q hq => (hS.mem q).2 (by rcases h.ok.mem q hq with e | e; exact .inl e; exact e))
/-- the whole layout lists the starts -/
theorem Bfs.lists {T : List Path} {i : Nat} {Qs : List Path} {fs : List (Nat × Nat)} (h : Bfs (Starts T) i Qs fs) (hi : i = Qs.length) : Lists T Qs := by
  refine ⟨h.ok.nodup, fun q => ⟨fun hq => by rcases h.ok.mem q hq with e | e; exact .inl e; exact e, fun hq => ?_⟩⟩
  generalize hn : q.length = n
  induction n generalizing q with
  | zero => rw [List.length_eq_zero_iff.1 hn]; exact h.ok.root
  | succ n ih =>
    rcases List.eq_nil_or_concat q with rfl | ⟨p, r, e⟩
    · simp at hn
    · rw [List.concat_eq_append] at e
      rw [e] at hn hq ⊢
      have hp := ih p (starts_up hq) (by simpa using hn)
      exact h.ok.kids p r (by rw [hi, List.take_length]; exact hp) hq
end Go.Proofs.Qxb6608903a
