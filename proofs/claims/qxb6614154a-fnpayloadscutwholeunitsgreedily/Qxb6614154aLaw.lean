/-
  The plain laws of the cut: no Go in sight.
-/
import Derived.Test.Qxb6614154aHw
namespace Go.Proofs.Qxb6614154a
open Go.ChangeShapes Go.WideShapes Go.ChangeAt Go.RowKit
set_option linter.unusedSimpArgs false
set_option linter.unusedVariables false

/-- onto what is there: the same, shifted -/
theorem cutRun_shift (S : List Int) (L : List Un) (en : Nat) (lim : Int) (D0 E0 : List Int) : ∀ (f i : Nat) (D E : List Int),
    cutRun S L en lim f i (D0 ++ D) (E0 ++ E.map (· + (D0.length : Int))) = (D0 ++ (cutRun S L en lim f i D E).1, E0 ++ (cutRun S L en lim f i D E).2.1.map (· + (D0.length : Int)), (cutRun S L en lim f i D E).2.2)
  | 0, i, D, E => rfl
  | f + 1, i, D, E => by
    cases h : L[i]? with
    | none => rw [cutRun_end _ _ _ _ (by simpa using h), cutRun_end _ _ _ _ (by simpa using h)]
    | some x =>
      cases hk : x.ok with
      | false => rw [cutRun_bad _ _ _ h hk, cutRun_bad _ _ _ h hk]
      | true =>
        rw [cutRun_ok _ _ _ h hk, cutRun_ok _ _ _ h hk, ← cutRun_shift S L en lim D0 E0 f]
        congr 1
        · simp
        · simp; omega
theorem cutRun_onto (S : List Int) (L : List Un) (en : Nat) (lim : Int) (D0 E0 : List Int) (f i : Nat) :
    cutRun S L en lim f i D0 E0 = (D0 ++ (cutRun S L en lim f i [] []).1, E0 ++ (cutRun S L en lim f i [] []).2.1.map (· + (D0.length : Int)), (cutRun S L en lim f i [] []).2.2) := by
  have := cutRun_shift S L en lim D0 E0 f i [] []
  simpa using this

/-- where unit i begins; behind the last: the end -/
def uu (L : List Un) (en i : Nat) : Nat := match L[i]? with | some y => y.ats | none => en

/-- the packets that lie in D from 'p' on: their ends, from unit i on up to unit fin -/
inductive Chk (S : List Int) (L : List Un) (en : Nat) (lim : Int) (D : List Int) : Nat → Nat → List Int → Nat → Prop
  | nil (p i : Nat) (h : p = D.length) : Chk S L en lim D p i [] i
  | cons (p i e fin : Nat) (x : Un) (r pre post : List Int) (hx : L[i]? = some x) (hk : x.ok = true) (hD : D = pre ++ pay S L en i (nxt L en lim i) x ++ post) (hp : pre.length = p) (he : e = p + (pay S L en i (nxt L en lim i) x).length)
      (next : Chk S L en lim D e (nxt L en lim i) r fin) : Chk S L en lim D p i ((e : Int) :: r) fin

theorem cutRun_chk (S : List Int) (L : List Un) (en : Nat) (lim : Int) : ∀ (f i : Nat) (D E : List Int), i ≤ L.length → L.length ≤ f + i →
    ∃ rest post fin, (cutRun S L en lim f i D E).1 = D ++ post ∧ (cutRun S L en lim f i D E).2.1 = E ++ rest ∧ Chk S L en lim (D ++ post) D.length i rest fin ∧ ((cutRun S L en lim f i D E).2.2 = true → fin = L.length) ∧ ((cutRun S L en lim f i D E).2.2 = false → ∃ x, L[fin]? = some x ∧ x.ok = false)
  | 0, i, D, E, h1, h2 => ⟨[], [], i, by simp [cutRun], by simp [cutRun], .nil _ _ (by simp), fun _ => by omega, fun h => by simp [cutRun] at h⟩
  | f + 1, i, D, E, h1, h2 => by
    cases h : L[i]? with
    | none =>
      have hl : L.length ≤ i := by simpa using h
      rw [cutRun_end _ _ _ _ hl]
      exact ⟨[], [], i, by simp, by simp, .nil _ _ (by simp), fun _ => by omega, fun h => by simp at h⟩
    | some x =>
      have hl : i < L.length := (List.getElem?_eq_some_iff.1 h).1
      cases hk : x.ok with
      | false =>
        rw [cutRun_bad _ _ _ h hk]
        exact ⟨[], [], i, by simp, by simp, .nil _ _ (by simp), fun h => by simp at h, fun _ => ⟨x, h, hk⟩⟩
      | true =>
        rw [cutRun_ok _ _ _ h hk]
        have hg := nxt_gt L en lim i
        obtain ⟨rest, post, fin, e1, e2, c, b1, b2⟩ := cutRun_chk S L en lim f (nxt L en lim i) (D ++ pay S L en i (nxt L en lim i) x) (E ++ [((D.length + (pay S L en i (nxt L en lim i) x).length : Nat) : Int)]) (nxt_le L en lim i hl) (by omega)
        refine ⟨((D.length + (pay S L en i (nxt L en lim i) x).length : Nat) : Int) :: rest, pay S L en i (nxt L en lim i) x ++ post, fin, by rw [e1]; simp, by rw [e2]; simp, ?_, b1, b2⟩
        refine .cons _ i _ fin x rest D post h hk (by simp) rfl rfl ?_
        simpa using c

theorem uu_ua {L : List Un} {en i : Nat} {x : Un} (h : L[i]? = some x) : uu L en i = x.ats ∧ ua L i = x.ats := by simp [uu, ua, h]
theorem uu_ue {L : List Un} {en j : Nat} (h : 0 < j) : ue L en (j - 1) = uu L en j := by unfold ue uu; rw [show j - 1 + 1 = j by omega]; cases L[j]? <;> rfl
theorem uu_end {L : List Un} {en : Nat} : uu L en L.length = en := by simp [uu]

theorem be4_word (W : Int) (h0 : 0 ≤ W) (h1 : W < 4294967296) : word4 (W / 16777216) (W / 65536 % 256) (W / 256 % 256) (W % 256) = W := by unfold word4; omega
theorem be4_bd (W : Int) (h0 : 0 ≤ W) (h1 : W < 4294967296) : (0 ≤ W / 16777216 ∧ W / 16777216 < 256) ∧ (0 ≤ W / 65536 % 256 ∧ W / 65536 % 256 < 256) ∧ (0 ≤ W / 256 % 256 ∧ W / 256 % 256 < 256) ∧ (0 ≤ W % 256 ∧ W % 256 < 256) := by omega

/-- the header's word of the packet that begins with unit i -/
def hdrW (L : List Un) (en : Nat) (lim : Int) (i : Nat) (x : Un) : Int := wordN (sbI (ua L i)) (ebI (ue L en (nxt L en lim i - 1))) (flagI x.i) x.g x.m x.q x.h x.u
theorem pay_eq (S : List Int) (L : List Un) (en : Nat) (lim : Int) (i : Nat) (x : Un) : pay S L en i (nxt L en lim i) x = be4 (hdrW L en lim i x) ++ win S (ua L i) (ue L en (nxt L en lim i - 1)) := rfl
theorem hdrW_bd (L : List Un) (en : Nat) (lim : Int) (i : Nat) (x : Un) (hk : x.ok = true) (hg : x.good) : 0 ≤ hdrW L en lim i x ∧ hdrW L en lim i x < 4294967296 := by
  have h := of_decide_eq_true hk
  have f := flag_bd x.i
  have s := sb_bd (ua L i)
  have e := eb_bd (ue L en (nxt L en lim i - 1))
  exact word_bd _ _ _ _ _ _ _ _ s.1 s.2 e.1 e.2 f.1 f.2 hg.1 h.1 hg.2.1 h.2.1 hg.2.2 h.2.2.1
/-- the first two fields of the word -/
theorem hdrW_sb (L : List Un) (en : Nat) (lim : Int) (i : Nat) (x : Un) (hk : x.ok = true) (hg : x.good) : hdrW L en lim i x / 536870912 % 8 = sbI (ua L i) ∧ hdrW L en lim i x / 67108864 % 8 = ebI (ue L en (nxt L en lim i - 1)) := by
  have h := of_decide_eq_true hk
  have f := flag_bd x.i
  have s := sb_bd (ua L i)
  have e := eb_bd (ue L en (nxt L en lim i - 1))
  obtain ⟨g0, m0, q0⟩ := hg
  unfold hdrW wordN
  generalize sbI (ua L i) = sb at *
  generalize ebI (ue L en (nxt L en lim i - 1)) = eb at *
  generalize flagI x.i = fl at *
  omega
/-- the bits of one packet -/
theorem bits_step (S : List Int) (L : List Un) (en : Nat) (lim : Int) (i : Nat) (x : Un) (hx : L[i]? = some x) (hk : x.ok = true) (hg : x.good) (lie : Lie L en) (hen : (en + 7) / 8 ≤ S.length) (p : Nat) :
    8 * (((p + (pay S L en i (nxt L en lim i) x).length : Nat) : Int) - (p : Int) - 4) - hdrW L en lim i x / 536870912 % 8 - hdrW L en lim i x / 67108864 % 8 = (uu L en (nxt L en lim i) : Int) - (uu L en i : Int) ∧ p + 4 ≤ p + (pay S L en i (nxt L en lim i) x).length := by
  have hl : i < L.length := (List.getElem?_eq_some_iff.1 hx).1
  have hn := nxt_gt L en lim i
  have hn2 := nxt_le L en lim i hl
  have b := lie.ue_bd (i := i) (k := nxt L en lim i - 1) (by omega) (by omega)
  have hs := hdrW_sb L en lim i x hk hg
  rw [hs.1, hs.2, pay_len S L en i _ x (by omega), ← uu_ue (L := L) (en := en) (by omega : 0 < nxt L en lim i), (uu_ua (en := en) hx).1, ← (uu_ua (en := en) hx).2]
  unfold sbI ebI
  generalize ue L en (nxt L en lim i - 1) = e at *
  generalize ua L i = s at *
  omega
end Go.Proofs.Qxb6614154a
