/-
  The plain cut: no Go in sight.
-/
import Derived.Test.Qxb6614154aUnit
namespace Go.Proofs.Qxb6614154a
open Go.ChangeShapes Go.WideShapes Go.ChangeAt Go.RowKit
set_option linter.unusedSimpArgs false
set_option linter.unusedVariables false

/-- where unit k ends -/
def ue (L : List Un) (en k : Nat) : Nat := match L[k + 1]? with | some y => y.ats | none => en
/-- where unit k begins -/
def ua (L : List Un) (k : Nat) : Nat := match L[k]? with | some y => y.ats | none => 0
def spanI (s e : Nat) : Int := (((e + 7) / 8 : Nat) : Int) - ((s / 8 : Nat) : Int)
def limI (mp : Int) : Int := wrap64 (mp - 4)

/-- the packet that begins with unit i takes units on from j while they fit -/
def adv (L : List Un) (en : Nat) (lim : Int) (i : Nat) : Nat → Nat → Nat
  | 0, j => j
  | f + 1, j => if j < L.length ∧ spanI (ua L i) (ue L en j) ≤ lim then adv L en lim i f (j + 1) else j
/-- the first unit behind the packet that begins with unit i -/
def nxt (L : List Un) (en : Nat) (lim : Int) (i : Nat) : Nat := adv L en lim i (L.length - (i + 1)) (i + 1)

theorem adv_ge (L : List Un) (en : Nat) (lim : Int) (i : Nat) : ∀ f j, j ≤ adv L en lim i f j
  | 0, j => Nat.le_refl _
  | f + 1, j => by
    unfold adv; split
    · exact Nat.le_trans (Nat.le_succ j) (adv_ge L en lim i f (j + 1))
    · exact Nat.le_refl _
theorem adv_le (L : List Un) (en : Nat) (lim : Int) (i : Nat) : ∀ f j, j ≤ L.length → adv L en lim i f j ≤ L.length
  | 0, j, h => h
  | f + 1, j, h => by
    unfold adv; split
    · rename_i hc; exact adv_le L en lim i f (j + 1) hc.1
    · exact h
theorem adv_step {L : List Un} {en : Nat} {lim : Int} {i j : Nat} (h : j < L.length) (hc : spanI (ua L i) (ue L en j) ≤ lim) : adv L en lim i (L.length - j) j = adv L en lim i (L.length - (j + 1)) (j + 1) := by
  rw [show L.length - j = (L.length - (j + 1)) + 1 by omega]
  conv => lhs; unfold adv
  rw [if_pos ⟨h, hc⟩]
theorem adv_stop {L : List Un} {en : Nat} {lim : Int} {i j : Nat} (hc : ¬ (j < L.length ∧ spanI (ua L i) (ue L en j) ≤ lim)) : adv L en lim i (L.length - j) j = j := by
  cases h : L.length - j with
  | zero => rfl
  | succ f => unfold adv; rw [if_neg hc]
theorem nxt_gt (L : List Un) (en : Nat) (lim : Int) (i : Nat) : i < nxt L en lim i := adv_ge L en lim i _ _
theorem nxt_le (L : List Un) (en : Nat) (lim : Int) (i : Nat) (h : i < L.length) : nxt L en lim i ≤ L.length := adv_le L en lim i _ _ h

/-- the units lie in the stream: each begins behind the one before, all ahead of the end -/
structure Lie (L : List Un) (en : Nat) : Prop where
  inc : ∀ (k : Nat) (x y : Un), L[k]? = some x → L[k + 1]? = some y → x.ats < y.ats
  last : ∀ (k : Nat) (x : Un), L[k]? = some x → x.ats < en

theorem Lie.mono {L : List Un} {en : Nat} (h : Lie L en) : ∀ d i, i + d < L.length → ua L i + d ≤ ua L (i + d)
  | 0, i, _ => by simp
  | d + 1, i, hi => by
    have h1 := h.mono d i (by omega)
    have hx : L[i + d]? = some L[i + d] := List.getElem?_eq_getElem (by omega)
    have hy : L[i + d + 1]? = some L[i + d + 1] := List.getElem?_eq_getElem (by omega)
    have h2 := h.inc (i + d) _ _ hx hy
    have e1 : ua L (i + d) = (L[i + d]).ats := by simp [ua, hx]
    have e2 : ua L (i + d + 1) = (L[i + d + 1]).ats := by simp [ua, hy]
    rw [show i + (d + 1) = i + d + 1 by omega]; omega
theorem Lie.ue_bd {L : List Un} {en : Nat} (h : Lie L en) {i k : Nat} (hik : i ≤ k) (hk : k < L.length) : ua L i < ue L en k ∧ ue L en k ≤ en := by
  unfold ue
  have hx : L[i]? = some L[i] := List.getElem?_eq_getElem (by omega)
  have e1 : ua L i = (L[i]).ats := by simp [ua, hx]
  cases hy : L[k + 1]? with
  | none => simp only; have := h.last i _ hx; omega
  | some y =>
    simp only
    have hl : k + 1 < L.length := (List.getElem?_eq_some_iff.1 hy).1
    have h1 := h.mono (k + 1 - i) i (by omega)
    rw [show i + (k + 1 - i) = k + 1 by omega] at h1
    have e2 : ua L (k + 1) = y.ats := by simp [ua, hy]
    have := h.last (k + 1) y hy
    omega

/-- the payload of units i .. j-1 -/
def pay (S : List Int) (L : List Un) (en i j : Nat) (x : Un) : List Int := payl S (ua L i) (ue L en (j - 1)) x.i x.g x.m x.q x.h x.u

/-- the cut from unit i on, onto what is there -/
def cutRun (S : List Int) (L : List Un) (en : Nat) (lim : Int) : Nat → Nat → List Int → List Int → List Int × List Int × Bool
  | 0, _, D, E => (D, E, true)
  | f + 1, i, D, E => match L[i]? with
    | none => (D, E, true)
    | some x => if x.ok = true then cutRun S L en lim f (nxt L en lim i) (D ++ pay S L en i (nxt L en lim i) x) (E ++ [((D.length + (pay S L en i (nxt L en lim i) x).length : Nat) : Int)]) else (D, E, false)
theorem cutRun_end {S : List Int} {L : List Un} {en : Nat} {lim : Int} (f i : Nat) (D E : List Int) (h : L.length ≤ i) : cutRun S L en lim f i D E = (D, E, true) := by
  cases f with
  | zero => rfl
  | succ f => unfold cutRun; rw [List.getElem?_eq_none h]
theorem cutRun_ok {S : List Int} {L : List Un} {en : Nat} {lim : Int} {i : Nat} {x : Un} (f : Nat) (D E : List Int) (h : L[i]? = some x) (hk : x.ok = true) :
    cutRun S L en lim (f + 1) i D E = cutRun S L en lim f (nxt L en lim i) (D ++ pay S L en i (nxt L en lim i) x) (E ++ [((D.length + (pay S L en i (nxt L en lim i) x).length : Nat) : Int)]) := by
  conv => lhs; unfold cutRun
  rw [h]; simp only; rw [if_pos hk]
theorem cutRun_bad {S : List Int} {L : List Un} {en : Nat} {lim : Int} {i : Nat} {x : Un} (f : Nat) (D E : List Int) (h : L[i]? = some x) (hk : x.ok = false) :
    cutRun S L en lim (f + 1) i D E = (D, E, false) := by
  conv => lhs; unfold cutRun
  rw [h]; simp only; rw [if_neg (by simp [hk])]
theorem be4_len (W : Int) : (be4 W).length = 4 := rfl
theorem pay_len (S : List Int) (L : List Un) (en i j : Nat) (x : Un) (h : (ue L en (j - 1) + 7) / 8 ≤ S.length) : (pay S L en i j x).length = 4 + ((ue L en (j - 1) + 7) / 8 - ua L i / 8) := by
  unfold pay payl; rw [List.length_append, be4_len, win_len _ _ _ h]
end Go.Proofs.Qxb6614154a
