/-
  zzUnitsInStream, zzBytes, zzHeaderWord by contracts.
-/
import Derived.Test.Qxb6614154aCln
namespace Go.Proofs.Qxb6614154a
open Go.ChangeShapes Go.WideShapes Go.ChangeAt Go.RowKit
set_option linter.unusedSimpArgs false
set_option linter.unusedVariables false

/-- the offsets are a picture's -/
def inc : List Int → Prop
  | a :: b :: r => a < b ∧ inc (b :: r)
  | _ => True
/-- what the test says where it passes -/
structure Fits (A : List Int) (en : Int) (m : Nat) : Prop where
  zero : ∀ a, A[0]? = some a → 0 ≤ a
  inc : ∀ (k : Nat) (a b : Int), A[k]? = some a → A[k + 1]? = some b → a < b
  last : ∀ a, A[A.length - 1]? = some a → a < en
  en : en ≤ 8 * m

def UisPost (A : List Int) (en : Int) (m : Nat) (w : World) (r : Ending) (w' : World) : Prop := ∃ b, r = .returned (.bool b) ∧ (b = true → Fits A en m) ∧ Upd (fun _ => False) w w'
theorem UisPost.no {A : List Int} {en : Int} {m : Nat} {w w' : World} (h : Upd (fun _ => False) w w') : UisPost A en m w (.returned (.bool false)) w' := ⟨false, rfl, fun h => by simp at h, h⟩
theorem UisPost.yes {A : List Int} {en : Int} {m : Nat} {w w' : World} (h : Upd (fun _ => False) w w') (hf : Fits A en m) : UisPost A en m w (.returned (.bool true)) w' := ⟨true, rfl, fun _ => hf, h⟩
set_option maxHeartbeats 1000000 in
theorem units_any (en : Int) (sv : Value) (S : List Int) (hsv : ∃ x c, sv = .slice x S.length c) (ga ca : Nat) (A : List Int) (w : World) (hA : ∀ (k : Nat) (a : Int), A[k]? = some a → w.cell? ⟨ga, k, none⟩ = some (.int .i64 a)) (hl : A.length ≤ 1000000000) (hS : S.length ≤ 1000000000) (hp : 0 < A.length) :
    Calls Try.prog 13 #[.int .i64 en, sv, .slice (some ⟨ga, 0, none⟩) A.length ca] w (UisPost A en S.length w) := by
  obtain ⟨sx, sc, rfl⟩ := hsv
  obtain ⟨a0, ha0⟩ : ∃ a, A[0]? = some a := ⟨_, List.getElem?_eq_getElem hp⟩
  obtain ⟨al, hal⟩ : ∃ a, A[A.length - 1]? = some a := ⟨_, List.getElem?_eq_getElem (by omega)⟩
  have hc0 := hA 0 a0 ha0
  have hne : ((A.length : Int) == 0) = false := beq_eq_false_iff_ne.2 (by omega)
  have hp1 : (0 : Int) < (A.length : Int) := by omega
  have hl1 : (A.length : Int) ≤ 1000000000 := by omega
  have hS1 : (S.length : Int) ≤ 1000000000 := by omega
  have HA := hide hA
  have HA0 := hide ha0
  have HAL := hide hal
  clear hA ha0 hal
  by_cases h0 : a0 < 0
  · go_enter Try.func13, Try.ntmps13
    go_wp2
    go_ret
    exact UisPost.no (Upd.refl _ _)
  · go_enter Try.func13, Try.ntmps13
    go_wp2
    go_loopw [8] (fun i wr => ∃ k : Nat, i = .int .i64 (k : Int) ∧ 1 ≤ k ∧ k ≤ A.length ∧ Hid ((∀ (j : Nat) (a b : Int), j + 1 < k → A[j]? = some a → A[j + 1]? = some b → a < b) ∧ Upd (fun _ => False) w wr)) (fun i _ => A.length - (intOf i).toNat)
    case atStart => exact ⟨1, by go_num, by omega, by omega, hide ⟨fun j a b h => by omega, Upd.refl _ _⟩⟩
    case round =>
      obtain ⟨k, rfl, hk1, hk, HI⟩ := hrel
      have hkb : (1 : Int) ≤ (k : Int) := by omega
      have hkc : (k : Int) ≤ 1000000000 := by omega
      by_cases hkl : k < A.length
      · have hl2 : (k : Int) < (A.length : Int) := by omega
        have hl3 : (k : Int) - 1 < (A.length : Int) := by omega
        have hl4 : ((k : Int) - 1).toNat = k - 1 := by omega
        obtain ⟨b, hb⟩ : ∃ b, A[k]? = some b := ⟨_, List.getElem?_eq_getElem hkl⟩
        obtain ⟨a, ha⟩ : ∃ a, A[k - 1]? = some a := ⟨_, List.getElem?_eq_getElem (by omega)⟩
        have hcb := cell_upd (unhide HI).2 (unhide HA k b hb)
        have hca := cell_upd (unhide HI).2 (unhide HA (k - 1) a ha)
        have HB := hide hb
        have HAA := hide ha
        clear hb ha
        by_cases hab : b ≤ a
        · go_wp2
          go_quiet (fail)
          all_goals go_wp2
          all_goals go_ret
          all_goals exact UisPost.no ((unhide HI).2.drewN _)
        · go_wp2
          go_quiet (fail)
          all_goals go_wp2
          all_goals go_roundw
          case rel =>
            refine ⟨k + 1, by go_num, by omega, by omega, hide ⟨fun j x y hj hx hy => ?_, (unhide HI).2.drewN _⟩⟩
            by_cases hjk : j + 1 < k
            · exact (unhide HI).1 j x y hjk hx hy
            · have e : j = k - 1 := by omega
              subst e
              rw [unhide HAA] at hx
              rw [show k - 1 + 1 = k by omega, unhide HB] at hy
              simp at hx hy
              omega
          case measure => simp [intOf]; omega
      · have hl2 : ¬ (k : Int) < (A.length : Int) := by omega
        have hl3 : (A.length : Int) - 1 < (A.length : Int) := by omega
        have hl4 : ((A.length : Int) - 1).toNat = A.length - 1 := by omega
        have hcl := cell_upd (unhide HI).2 (unhide HA _ al (unhide HAL))
        by_cases c1 : al < en
        · by_cases c2 : en ≤ 8 * (S.length : Int)
          · go_wp2
            all_goals go_ret
            refine UisPost.yes (unhide HI).2 ⟨fun a h => ?_, fun j a b hx hy => ?_, fun a h => ?_, c2⟩
            · rw [unhide HA0] at h; simp at h; omega
            · exact (unhide HI).1 j a b (by have := (List.getElem?_eq_some_iff.1 hy).1; omega) hx hy
            · rw [unhide HAL] at h; simp at h; omega
          · go_wp2
            all_goals go_ret
            all_goals exact UisPost.no (unhide HI).2
        · go_wp2
          all_goals go_ret
          all_goals exact UisPost.no (unhide HI).2
end Go.Proofs.Qxb6614154a
