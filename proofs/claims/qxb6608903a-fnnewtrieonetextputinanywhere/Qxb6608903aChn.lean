/-
  The trie whose children are chains: no Go in sight.
-/
import Derived.Test.Qxb6608903aBfs
namespace Go.Proofs.Qxb6608903a

/-- a node: its character, its first child, its next sibling (0: none) -/
structure CN where
  c : Int
  f : Nat
  s : Nat
/-- the chain from m on -/
inductive Link (C : List CN) : Nat → List Nat → Prop
  | nil : Link C 0 []
  | cons {m : Nat} {y : CN} {r : List Nat} (hm : m ≠ 0) (hy : C[m]? = some y) (next : Link C y.s r) : Link C m (m :: r)

theorem Link.det {C : List CN} {m : Nat} {ks : List Nat} (h : Link C m ks) : ∀ {ks'}, Link C m ks' → ks' = ks := by
  induction h with
  | nil => intro ks' h'; cases h' with
    | nil => rfl
    | cons hm => exact absurd rfl hm
  | cons hm hy next ih =>
    intro ks' h'
    cases h' with
    | nil => exact absurd rfl hm
    | cons hm2 hy2 next2 =>
      rw [hy] at hy2
      obtain rfl := Option.some.inj hy2
      rw [ih next2]
theorem Link.congr {C C' : List CN} {m : Nat} {ks : List Nat} (h : Link C m ks) (hs : ∀ k ∈ ks, ∀ y, C[k]? = some y → ∃ y', C'[k]? = some y' ∧ y'.s = y.s) : Link C' m ks := by
  induction h with
  | nil => exact .nil
  | cons hm hy next ih =>
    obtain ⟨y', h1, h2⟩ := hs _ (by simp) _ hy
    exact .cons hm h1 (by rw [h2]; exact ih (fun k hk y hy => hs k (by simp [hk]) y hy))
theorem Link.snoc {C C' : List CN} {m : Nat} {ks : List Nat} {N : Nat} {z : CN} (h : Link C m ks) (hN : N ≠ 0) (hz : C'[N]? = some z) (hz0 : z.s = 0)
    (hs : ∀ k ∈ ks, ∀ y, C[k]? = some y → ∃ y', C'[k]? = some y' ∧ (y.s ≠ 0 → y'.s = y.s) ∧ (y.s = 0 → y'.s = N)) (hne : ks ≠ []) : Link C' m (ks ++ [N]) := by
  induction h with
  | nil => exact absurd rfl hne
  | @cons m y r hm hy next ih =>
    obtain ⟨y', h1, h2, h3⟩ := hs _ (by simp) _ hy
    by_cases hr : r = []
    · subst hr
      have h0 : y.s = 0 := by
        generalize y.s = a at next
        cases next; rfl
      exact .cons hm h1 (by rw [h3 h0]; exact .cons hN hz (by rw [hz0]; exact .nil))
    · have h0 : y.s ≠ 0 := fun e => by rw [e] at next; cases next with | nil => exact hr rfl | cons hm => exact hm rfl
      exact .cons hm h1 (by rw [h2 h0]; exact ih (fun k hk y hy => hs k (by simp [hk]) y hy) hr)
/-- only the last of a chain has no next -/
theorem Link.last {C : List CN} {m : Nat} {ks : List Nat} (h : Link C m ks) : ∀ k ∈ ks, ∀ y, C[k]? = some y → y.s = 0 → ks.getLast? = some k := by
  induction h with
  | nil => intro k hk; simp at hk
  | @cons m y r hm hy next ih =>
    intro k hk y' hy' h0
    rcases List.mem_cons.1 hk with rfl | hk
    · rw [hy] at hy'
      obtain rfl := Option.some.inj hy'
      rw [h0] at next
      cases next with
      | nil => rfl
      | cons hm => exact absurd rfl hm
    · have := ih k hk y' hy' h0
      cases r with
      | nil => simp at hk
      | cons a r => rw [List.getLast?_cons_cons]; exact this
theorem Link.last0 {C : List CN} {m : Nat} {ks : List Nat} (h : Link C m ks) : ∀ l, ks.getLast? = some l → ∃ y, C[l]? = some y ∧ y.s = 0 ∧ l ≠ 0 ∧ l ∈ ks := by
  induction h with
  | nil => intro l hl; simp at hl
  | @cons m y r hm hy next ih =>
    intro l hl
    cases r with
    | nil =>
      simp at hl
      subst hl
      refine ⟨y, hy, ?_, hm, by simp⟩
      generalize y.s = a at next
      cases next; rfl
    | cons a r =>
      rw [List.getLast?_cons_cons] at hl
      obtain ⟨z, h1, h2, h3, h4⟩ := ih l hl
      exact ⟨z, h1, h2, h3, List.mem_cons_of_mem _ h4⟩
theorem Link.mem {C : List CN} {m : Nat} {ks : List Nat} (h : Link C m ks) : ∀ k ∈ ks, k ≠ 0 ∧ ∃ y, C[k]? = some y := by
  induction h with
  | nil => intro k hk; simp at hk
  | cons hm hy next ih =>
    intro k hk
    rcases List.mem_cons.1 hk with rfl | hk
    · exact ⟨hm, _, hy⟩
    · exact ih k hk

/-- the chains hold the starts P -/
structure Chn (C : List CN) (P : List Path) : Prop where
  len : P.length = C.length
  root : P[0]? = some []
  nodup : P.Nodup
  chr : ∀ (m : Nat) (y : CN) (q : Path) (r : Int), C[m]? = some y → P[m]? = some (q ++ [r]) → y.c = r
  up : ∀ (q : Path) (r : Int), q ++ [r] ∈ P → q ∈ P
  kids : ∀ (n : Nat) (x : CN) (p : Path), C[n]? = some x → P[n]? = some p → ∃ ks, Link C x.f ks ∧ ks.Nodup ∧ ∀ m, m ∈ ks ↔ ∃ y, C[m]? = some y ∧ P[m]? = some (p ++ [y.c])

theorem Chn.init : Chn [⟨0, 0, 0⟩] [[]] := by
  refine ⟨rfl, rfl, by simp, fun m y q r hy hq => ?_, fun q r h => by simp at h, fun n x p hx hp => ?_⟩
  · have := List.mem_of_getElem? hq
    simp at this
  have hn : n = 0 := by have := (List.getElem?_eq_some_iff.1 hx).1; simp at this; exact this
  subst hn
  simp at hx hp
  subst hx hp
  refine ⟨[], .nil, by simp, fun m => ⟨fun h => by simp at h, ?_⟩⟩
  rintro ⟨y, hy, hp⟩
  have hm : m = 0 := by have := (List.getElem?_eq_some_iff.1 hy).1; simp at this; exact this
  subst hm
  simp at hp
theorem Chn.inj {C : List CN} {P : List Path} (h : Chn C P) {a b : Nat} {p : Path} (ha : P[a]? = some p) (hb : P[b]? = some p) : a = b :=
  (List.getElem?_inj (List.getElem?_eq_some_iff.1 ha).1 h.nodup).1 (ha.trans hb.symm)

/-- a new last child, of character r, of node n, whose chain is ks -/
def addC (C : List CN) (n : Nat) (x : CN) (ks : List Nat) (r : Int) : List CN :=
  match ks.getLast? with
  | none => (C ++ [CN.mk r 0 0]).set n (CN.mk x.c C.length x.s)
  | some l => (C ++ [CN.mk r 0 0]).set l (CN.mk (C[l]?.getD x).c (C[l]?.getD x).f C.length)
theorem Chn.add {C : List CN} {P : List Path} (h : Chn C P) {n : Nat} {x : CN} {p : Path} {ks : List Nat} {r : Int} (hx : C[n]? = some x) (hp : P[n]? = some p) (hk : Link C x.f ks)
    (hno : ∀ m ∈ ks, ∀ y, C[m]? = some y → y.c ≠ r) : Chn (addC C n x ks r) (P ++ [p ++ [r]]) := by
  obtain ⟨C', hC⟩ : ∃ C', C' = addC C n x ks r := ⟨_, rfl⟩
  rw [← hC]
  unfold addC at hC
  have hnl : n < C.length := (List.getElem?_eq_some_iff.1 hx).1
  have hN : C.length ≠ 0 := by omega
  obtain ⟨ks0, hk0, hnd0, hm0⟩ := h.kids n x p hx hp
  obtain rfl := hk0.det hk
  have hlen : C'.length = C.length + 1 := by rw [hC]; split <;> simp
  have hnew : C'[C.length]? = some (CN.mk r 0 0) := by
    rw [hC]; split
    · rw [List.getElem?_set_ne (by omega)]; simp
    · rename_i l hl
      obtain ⟨y, hy, _⟩ := hk.last0 l hl
      have := (List.getElem?_eq_some_iff.1 hy).1
      rw [List.getElem?_set_ne (by omega)]; simp
  have hold : ∀ k y, C[k]? = some y → ∃ y', C'[k]? = some y' ∧ y'.c = y.c ∧ (ks.getLast? ≠ some k → y'.s = y.s) ∧ (ks.getLast? = some k → y'.s = C.length) ∧ ((k ≠ n ∨ ks ≠ []) → y'.f = y.f) ∧ (k = n → ks = [] → y'.f = C.length) := by
    intro k y hy
    have hkl : k < C.length := (List.getElem?_eq_some_iff.1 hy).1
    cases hg : ks.getLast? with
    | none =>
      have hks : ks = [] := List.getLast?_eq_none_iff.1 hg
      rw [hC, hg]
      simp only
      by_cases hkn : k = n
      · subst hkn
        rw [hx] at hy
        obtain rfl := Option.some.inj hy
        refine ⟨_, List.getElem?_set_self (by simp; omega), rfl, fun _ => rfl, fun h => by simp at h, fun h => ?_, fun _ _ => rfl⟩
        rcases h with h | h
        · exact absurd rfl h
        · exact absurd hks h
      · refine ⟨y, ?_, rfl, fun _ => rfl, fun h => by simp at h, fun _ => rfl, fun h => absurd h hkn⟩
        rw [List.getElem?_set_ne (by omega), List.getElem?_append_left hkl]; exact hy
    | some l =>
      have hks : ks ≠ [] := fun e => by rw [e] at hg; simp at hg
      rw [hC, hg]
      simp only
      by_cases hkl2 : k = l
      · subst hkl2
        refine ⟨_, List.getElem?_set_self (by simp; omega), by rw [hy]; rfl, fun h => absurd rfl h, fun _ => rfl, fun _ => by rw [hy]; rfl, fun _ h => absurd h hks⟩
      · refine ⟨y, ?_, rfl, fun _ => rfl, fun h => absurd (Option.some.inj h).symm hkl2, fun _ => rfl, fun _ h => absurd h hks⟩
        rw [List.getElem?_set_ne (by omega), List.getElem?_append_left hkl]; exact hy
  have hback : ∀ k y', C'[k]? = some y' → k < C.length → ∃ y, C[k]? = some y := fun k y' _ hk => ⟨_, List.getElem?_eq_getElem hk⟩
  have hnotin : p ++ [r] ∉ P := fun hc => by
    obtain ⟨m, hm⟩ := List.getElem?_of_mem hc
    have hml : m < C.length := by have := (List.getElem?_eq_some_iff.1 hm).1; rw [h.len] at this; exact this
    obtain ⟨y, hy⟩ : ∃ y, C[m]? = some y := ⟨_, List.getElem?_eq_getElem hml⟩
    have hyc := h.chr m y p r hy hm
    exact hno m ((hm0 m).2 ⟨y, hy, by rw [hyc]; exact hm⟩) y hy hyc
  have hpP : p ∈ P := List.mem_of_getElem? hp
  have hPl : ∀ m, m < C.length → (P ++ [p ++ [r]])[m]? = P[m]? := fun m hm => List.getElem?_append_left (by rw [h.len]; exact hm)
  have hPN : (P ++ [p ++ [r]])[C.length]? = some (p ++ [r]) := by rw [← h.len]; simp
  have hbd : ∀ {m : Nat} {y : CN}, C'[m]? = some y → m < C.length ∨ m = C.length := fun {m y} hy => by
    have := (List.getElem?_eq_some_iff.1 hy).1; omega
  refine ⟨by simp [hlen, h.len], by rw [hPl 0 (by omega)]; exact h.root, ?_, ?_, ?_, ?_⟩
  · rw [List.nodup_append]
    refine ⟨h.nodup, by simp, fun a ha b hb e => ?_⟩
    subst e
    rw [List.mem_singleton.1 hb] at ha
    exact hnotin ha
  · intro m y q r' hy hq
    rcases hbd hy with hml | rfl
    · obtain ⟨y0, hy0⟩ := hback m y hy hml
      obtain ⟨y1, h1, h2, _⟩ := hold m y0 hy0
      rw [hy] at h1
      obtain rfl := Option.some.inj h1
      rw [hPl m hml] at hq
      rw [h2]
      exact h.chr m y0 q r' hy0 hq
    · rw [hnew] at hy
      obtain rfl := Option.some.inj hy
      rw [hPN] at hq
      have := List.append_inj_right' (Option.some.inj hq) (by simp)
      simpa using this
  · intro q r' hq
    rcases List.mem_append.1 hq with hq | hq
    · exact List.mem_append_left _ (h.up q r' hq)
    · have := List.append_inj_left' (List.mem_singleton.1 hq) (by simp)
      rw [this]
      exact List.mem_append_left _ hpP
  · intro n' x' p' hx' hp'
    rcases hbd hx' with hnl' | rfl
    · obtain ⟨x0, hx0⟩ := hback n' x' hx' hnl'
      rw [hPl n' hnl'] at hp'
      obtain ⟨x1, h1, h2, h3, h4, h5, h6⟩ := hold n' x0 hx0
      rw [hx'] at h1
      obtain rfl := Option.some.inj h1
      by_cases hnn : n' = n
      · subst hnn
        rw [hx] at hx0
        obtain rfl := Option.some.inj hx0
        rw [hp] at hp'
        obtain rfl := Option.some.inj hp'
        refine ⟨ks ++ [C.length], ?_, ?_, ?_⟩
        · by_cases hks : ks = []
          · subst hks
            rw [h6 rfl rfl]
            exact .cons hN hnew .nil
          · rw [h5 (.inr hks)]
            refine hk.snoc hN hnew rfl (fun k hkk y hy => ?_) hks
            obtain ⟨y', g1, g2, g3, g4, _⟩ := hold k y hy
            refine ⟨y', g1, fun h0 => g3 (fun e => ?_), fun h0 => g4 (hk.last k hkk y hy h0)⟩
            obtain ⟨z, hz, hz0, _⟩ := hk.last0 k e
            rw [hy] at hz
            obtain rfl := Option.some.inj hz
            exact h0 hz0
        · rw [List.nodup_append]
          refine ⟨hnd0, by simp, fun a ha b hb e => ?_⟩
          subst e
          obtain ⟨_, y, hy⟩ := hk.mem a ha
          have := (List.getElem?_eq_some_iff.1 hy).1
          have := List.mem_singleton.1 hb
          omega
        · intro m
          rw [List.mem_append, List.mem_singleton, hm0]
          constructor
          · rintro (⟨y, hy, hpm⟩ | rfl)
            · obtain ⟨y', g1, g2, _⟩ := hold m y hy
              refine ⟨y', g1, ?_⟩
              rw [hPl m (List.getElem?_eq_some_iff.1 hy).1, g2]
              exact hpm
            · exact ⟨_, hnew, hPN⟩
          · rintro ⟨y', hy', hpm⟩
            rcases hbd hy' with hml | rfl
            · obtain ⟨y, hy⟩ := hback m y' hy' hml
              obtain ⟨y1, g1, g2, _⟩ := hold m y hy
              rw [hy'] at g1
              obtain rfl := Option.some.inj g1
              rw [hPl m hml] at hpm
              exact .inl ⟨y, hy, by rw [← g2]; exact hpm⟩
            · exact .inr rfl
      · obtain ⟨ks', hk', hnd', hm'⟩ := h.kids n' x0 p' hx0 hp'
        refine ⟨ks', ?_, hnd', fun m => ?_⟩
        · rw [h5 (.inl hnn)]
          refine hk'.congr (fun k hkk y hy => ?_)
          obtain ⟨y', g1, g2, g3, _⟩ := hold k y hy
          refine ⟨y', g1, g3 (fun e => ?_)⟩
          obtain ⟨z, hz, hz0, _, hzk⟩ := hk.last0 k e
          obtain ⟨a, ha, hpa⟩ := (hm0 k).1 hzk
          obtain ⟨b, hb, hpb⟩ := (hm' k).1 hkk
          have e2 := List.append_inj_left' (Option.some.inj (hpa.symm.trans hpb)) (by simp)
          subst e2
          exact hnn (h.inj hp' hp)
        · rw [hm']
          constructor
          · rintro ⟨y, hy, hpm⟩
            obtain ⟨y', g1, g2, _⟩ := hold m y hy
            refine ⟨y', g1, ?_⟩
            rw [hPl m (List.getElem?_eq_some_iff.1 hy).1, g2]
            exact hpm
          · rintro ⟨y', hy', hpm⟩
            rcases hbd hy' with hml | rfl
            · obtain ⟨y, hy⟩ := hback m y' hy' hml
              obtain ⟨y1, g1, g2, _⟩ := hold m y hy
              rw [hy'] at g1
              obtain rfl := Option.some.inj g1
              rw [hPl m hml] at hpm
              exact ⟨y, hy, by rw [← g2]; exact hpm⟩
            · rw [hPN] at hpm
              have e2 := List.append_inj_left' (Option.some.inj hpm) (by simp)
              subst e2
              exact absurd (h.inj hp' hp) hnn
    · rw [hnew] at hx'
      obtain rfl := Option.some.inj hx'
      rw [hPN] at hp'
      obtain rfl := Option.some.inj hp'
      refine ⟨[], .nil, by simp, fun m => ⟨fun h => by simp at h, ?_⟩⟩
      rintro ⟨y', hy', hpm⟩
      exfalso
      rcases hbd hy' with hml | rfl
      · rw [hPl m hml] at hpm
        exact hnotin (h.up _ _ (List.mem_of_getElem? hpm))
      · rw [hPN] at hpm
        have := congrArg List.length (Option.some.inj hpm)
        simp at this
end Go.Proofs.Qxb6608903a
