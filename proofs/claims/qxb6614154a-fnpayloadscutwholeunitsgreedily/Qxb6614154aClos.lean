/-
  The closures that packUnits is handed, and its own; byteSpan.
-/
import Derived.Test.Qxb6614154aPlain
namespace Go.Proofs.Qxb6614154a
open Go.ChangeShapes Go.WideShapes Go.ChangeAt Go.RowKit
set_option linter.unusedSimpArgs false
set_option linter.unusedVariables false

theorem ua_of {L : List Un} {k : Nat} {x : Un} (h : L[k]? = some x) : ua L k = x.ats := by simp [ua, h]

theorem unitAt_any (L : List Un) (x8 gu cu k : Nat) (w : World) (h8 : w.heap[x8]? = some (.cells #[.slice (some ⟨gu, 0, none⟩) L.length cu] 46 (0, 0))) (hU : Units w gu L) (hk : k < L.length) :
    Calls Try.prog 23 #[.int .i64 k, .pointer (some ⟨x8, 0, none⟩)] w fun r w' => r = .returned (.int .i64 (ua L k : Int)) ∧ w' = w := by
  have c8 : w.cell? ⟨x8, 0, none⟩ = some (.slice (some ⟨gu, 0, none⟩) L.length cu) := Joins.cell_of_block h8 0
  obtain ⟨x, hx⟩ : ∃ x, L[k]? = some x := ⟨_, List.getElem?_eq_getElem hk⟩
  have u0 := hU.cell hx 0 (by omega)
  simp only [Un.cells, List.getElem?_cons_zero, Nat.add_zero] at u0
  rw [ua_of hx]
  have hl : (k : Int) < (L.length : Int) := by omega
  clear h8 hU hx
  go_enter Try.func23, Try.ntmps23
  go_wp2
  go_ret
  exact ⟨rfl, rfl⟩
theorem limit_any (mp z : Int) (x9 : Nat) (w : World) (h9 : w.heap[x9]? = some (.cells #[.int .i64 mp] 3 (0, 0))) :
    Calls Try.prog 24 #[.int .i64 z, .pointer (some ⟨x9, 0, none⟩)] w fun r w' => r = .returned (.int .i64 (limI mp)) ∧ w' = w := by
  have c9 : w.cell? ⟨x9, 0, none⟩ = some (.int .i64 mp) := Joins.cell_of_block h9 0
  clear h9
  go_enter Try.func24, Try.ntmps24
  go_wp2
  go_ret
  exact ⟨rfl, rfl⟩
theorem bspan_any (s e : Nat) (w : World) (hs : s ≤ 8796093022208) (he : e ≤ 8796093022208) :
    Calls Try.prog 30 #[.int .i64 s, .int .i64 e] w fun r w' => r = .returned (.int .i64 (spanI s e)) ∧ w' = w := by
  have h1 : (s : Int) ≤ 8796093022208 := by omega
  have h2 : (e : Int) ≤ 8796093022208 := by omega
  go_enter Try.func30, Try.ntmps30
  go_wp2
  go_ret
  have e1 : spanI s e = ((e : Int) + 7) / 8 - (s : Int) / 8 := by unfold spanI; omega
  rw [e1]
  exact ⟨rfl, rfl⟩
theorem unitEnd_any (L : List Un) (en x8 gu cu y5 y6 y7 k : Nat) (w : World) (h8 : w.heap[x8]? = some (.cells #[.slice (some ⟨gu, 0, none⟩) L.length cu] 46 (0, 0))) (hU : Units w gu L)
    (h5 : w.heap[y5]? = some (.cells #[.int .i64 (L.length : Int)] 3 (0, 0))) (h6 : w.heap[y6]? = some (.cells #[.func (.func 23) #[] #[.pointer (some ⟨x8, 0, none⟩)]] 59 (0, 0))) (h7 : w.heap[y7]? = some (.cells #[.int .i64 (en : Int)] 3 (0, 0)))
    (hk : k < L.length) (hl : L.length ≤ 1099511627776) :
    Calls Try.prog 29 #[.int .i64 k, .pointer (some ⟨y5, 0, none⟩), .pointer (some ⟨y6, 0, none⟩), .pointer (some ⟨y7, 0, none⟩)] w fun r w' => r = .returned (.int .i64 (ue L en k : Int)) ∧ w' = w := by
  have c5 : w.cell? ⟨y5, 0, none⟩ = some (.int .i64 (L.length : Int)) := Joins.cell_of_block h5 0
  have c6 : w.cell? ⟨y6, 0, none⟩ = some (.func (.func 23) #[] #[.pointer (some ⟨x8, 0, none⟩)]) := Joins.cell_of_block h6 0
  have c7 : w.cell? ⟨y7, 0, none⟩ = some (.int .i64 (en : Int)) := Joins.cell_of_block h7 0
  have hkb : (k : Int) ≤ 1099511627776 := by omega
  by_cases hlt : k + 1 < L.length
  · have HA := hide (unitAt_any L x8 gu cu (k + 1) w h8 hU hlt)
    have e1 : ue L en k = ua L (k + 1) := by simp [ue, ua, List.getElem?_eq_getElem hlt]
    rw [e1]
    have hl1 : (k : Int) + 1 < (L.length : Int) := by omega
    clear h8 hU h5 h6 h7 e1
    go_enter Try.func29, Try.ntmps29
    go_wp2_with fail
    rw [show ((k : Int) + 1) = ((k + 1 : Nat) : Int) by omega]
    refine (unhide HA).mono ?_
    rintro r w' ⟨rfl, rfl⟩
    go_wp2
    go_ret
    exact ⟨rfl, rfl⟩
  · have e1 : ue L en k = en := by simp [ue, List.getElem?_eq_none (show L.length ≤ k + 1 by omega)]
    rw [e1]
    have hl1 : ¬ (k : Int) + 1 < (L.length : Int) := by omega
    clear h8 hU h5 h6 h7 e1
    go_enter Try.func29, Try.ntmps29
    go_wp2
    go_ret
    exact ⟨rfl, rfl⟩
end Go.Proofs.Qxb6614154a
