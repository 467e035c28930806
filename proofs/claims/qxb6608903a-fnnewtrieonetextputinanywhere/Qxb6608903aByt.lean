/-
  The texts that came in; the bound on their lengths.
-/
import Derived.Test.Qxb6608903aSame
namespace Go.Proofs.Qxb6608903a
open Go.ChangeShapes Go.WideShapes Go.ChangeAt Go.RowKit
set_option linter.unusedSimpArgs false
set_option linter.unusedVariables false

/-- a slice of texts -/
def Texts (w : World) (v : Value) (T : List Path) : Prop :=
  ∃ vs, InV w v vs ∧ vs.length = T.length ∧ ∀ (j : Nat) (u : Value) (t : Path), vs[j]? = some u → T[j]? = some t → InV w u (I32 t)
theorem Texts.kept {w w' : World} {v : Value} {T : List Path} (h : Texts w v T) (hu : Upd (fun _ => False) w w') : Texts w' v T := by
  obtain ⟨vs, h1, h2, h3⟩ := h
  exact ⟨vs, h1.kept hu, h2, fun j u t hj ht => (h3 j u t hj ht).kept hu⟩
theorem Texts.form {w : World} {v : Value} {T : List Path} (h : Texts w v T) : ∃ x c, v = .slice x T.length c := by
  obtain ⟨vs, h1, h2, _⟩ := h
  rw [← h2]
  exact h1.form
/-- text k of them -/
theorem Texts.get {w : World} {x : Option Addr} {n c : Nat} {T : List Path} (h : Texts w (.slice x n c) T) {k : Nat} {t : Path} (hk : T[k]? = some t) :
    ∃ g o y d, x = some ⟨g, o, none⟩ ∧ w.cell? ⟨g, o + k, none⟩ = some (.slice y t.length d) ∧ InV w (.slice y t.length d) (I32 t) := by
  obtain ⟨vs, h1, h2, h3⟩ := h
  have hl := (List.getElem?_eq_some_iff.1 hk).1
  obtain ⟨u, hu⟩ : ∃ u, vs[k]? = some u := ⟨_, List.getElem?_eq_getElem (by omega)⟩
  obtain ⟨g, o, e, _, _, hc⟩ := h1.at (by omega)
  have hI := h3 k u t hu hk
  obtain ⟨y, d, rfl⟩ := hI.form
  rw [I32_len] at hI hu
  exact ⟨g, o, y, d, e, hc k _ hu, hI⟩

def SomeB (w : World) (r : Ending) (w' : World) : Prop := ∃ b, r = .returned (.bool b) ∧ Upd (fun _ => False) w w'
theorem SomeB.mk {w w' : World} {b : Bool} (h : Upd (fun _ => False) w w') : SomeB w (.returned (.bool b)) w' := ⟨b, rfl, h⟩
set_option maxHeartbeats 2000000 in
theorem bytes_any (v vx : Value) (T : List Path) (x : Path) (k0 : Int) (w : World) (hT : Texts w v T) (hx : InV w vx (I32 x)) :
    Calls Try.prog 13 #[v, vx, .int .i64 k0] w (SomeB w) := by
  obtain ⟨xa, ca, rfl⟩ := hT.form
  obtain ⟨xb, cb, rfl⟩ := hx.form
  rw [I32_len] at *
  have HT := hide hT
  clear hT hx
  by_cases b1 : 1048576 < T.length
  · have c1 : (1048576 : Int) < (T.length : Int) := by omega
    go_enter Try.func13, Try.ntmps13
    go_wp2
    go_ret
    exact SomeB.mk (Upd.refl _ _)
  · have c1 : ¬ (1048576 : Int) < (T.length : Int) := by omega
    have c2 : (T.length : Int) ≤ 1048576 := by omega
    go_enter Try.func13, Try.ntmps13
    go_wp2
    go_loopw [7, 8] (fun a i wr => ∃ s k : Nat, a = .int .i64 (s : Int) ∧ i = .int .i64 (k : Int) ∧ s ≤ 1048576 ∧ k ≤ T.length ∧ wr = w) (fun _ i _ => T.length - (intOf i).toNat)
    case atStart => exact ⟨T.length, 0, by go_num, by go_num, by omega, by omega, rfl⟩
    case round =>
      obtain ⟨s, k, rfl, rfl, hs, hk, hw⟩ := hrel
      subst hw
      have hkb : (k : Int) ≤ 1048576 := by omega
      have hsb : (s : Int) ≤ 1048576 := by omega
      by_cases hkl : k < T.length
      · have hl : (k : Int) < (T.length : Int) := by omega
        obtain ⟨t, ht⟩ : ∃ t, T[k]? = some t := ⟨_, List.getElem?_eq_getElem hkl⟩
        obtain ⟨g, o, y, d, rfl, hc, _⟩ := (unhide HT).get ht
        clear ht
        by_cases d1 : (1048576 : Int) < (t.length : Int)
        · go_wp2
          go_ret
          exact SomeB.mk (Upd.refl _ _)
        · have d2 : (t.length : Int) ≤ 1048576 := by omega
          by_cases d3 : (1048576 : Int) < (s : Int) + (t.length : Int)
          · go_wp2
            go_ret
            exact SomeB.mk (Upd.refl _ _)
          · go_wp2
            go_roundw
            case rel => exact ⟨s + t.length, k + 1, by go_num, by go_num, by omega, by omega, trivial⟩
            case measure => simp [intOf]; omega
      · have hl : ¬ (k : Int) < (T.length : Int) := by omega
        by_cases d1 : (1048576 : Int) < (x.length : Int)
        · go_wp2
          go_ret
          exact SomeB.mk (Upd.refl _ _)
        · by_cases d3 : (1048576 : Int) < (s : Int) + (x.length : Int)
          · go_wp2
            go_ret
            exact SomeB.mk (Upd.refl _ _)
          · go_wp2
            go_ret
            exact SomeB.mk (Upd.refl _ _)
end Go.Proofs.Qxb6608903a
