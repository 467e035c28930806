/-
  A trie in memory; ZZtrieSize, ZZtrieNode, zzSameTrie by contracts.
-/
import Derived.Test.Qxb6608903aBase
namespace Go.Proofs.Qxb6608903a
open Go.ChangeShapes Go.WideShapes Go.ChangeAt Go.RowKit
set_option linter.unusedSimpArgs false
set_option linter.unusedVariables false

/-- a node: its character, where its children begin, how many they are -/
abbrev Nd := Int × Nat × Nat
/-- the trie at block bt -/
def TrieAt (w : World) (bt : Nat) (N : List Nd) : Prop :=
  ∃ gn cap, w.cell? ⟨bt, 0, none⟩ = some (.slice (some ⟨gn, 0, none⟩) N.length cap) ∧
    ∀ (j : Nat) (x : Nd), N[j]? = some x → w.cell? ⟨gn, j * 3, none⟩ = some (.int .i32 x.1) ∧ w.cell? ⟨gn, j * 3 + 1, none⟩ = some (.int .i32 (x.2.1 : Int)) ∧ w.cell? ⟨gn, j * 3 + 2, none⟩ = some (.int .i32 (x.2.2 : Int))
theorem TrieAt.kept {w w' : World} {bt : Nat} {N : List Nd} (h : TrieAt w bt N) (hu : Upd (fun _ => False) w w') : TrieAt w' bt N := by
  obtain ⟨gn, cap, h1, h2⟩ := h
  exact ⟨gn, cap, cell_upd hu h1, fun j x hx => ⟨cell_upd hu (h2 j x hx).1, cell_upd hu (h2 j x hx).2.1, cell_upd hu (h2 j x hx).2.2⟩⟩

set_option maxHeartbeats 1000000 in
theorem size_any (bt : Nat) (N : List Nd) (w : World) (h : TrieAt w bt N) : Calls Try.prog 9 #[.pointer (some ⟨bt, 0, none⟩)] w fun r w' => r = .returned (.int .i64 (N.length : Int)) ∧ w' = w := by
  obtain ⟨gn, cap, h1, h2⟩ := h
  clear h2
  go_enter Try.func9, Try.ntmps9
  go_wp2
  go_ret
  exact ⟨rfl, rfl⟩

set_option maxHeartbeats 1000000 in
theorem node_any (bt : Nat) (N : List Nd) (w : World) (h : TrieAt w bt N) (k : Nat) (hk : k < N.length) (hN : N.length ≤ 1000000000) (c : Int) (f n : Nat) (hx : N[k]? = some (c, f, n)) :
    Calls Try.prog 11 #[.pointer (some ⟨bt, 0, none⟩), .int .i64 (k : Int)] w fun r w' => r = .returned (.tuple #[.int .i32 c, .int .i32 (f : Int), .int .i32 (n : Int)]) ∧ Upd (fun _ => False) w w' := by
  obtain ⟨gn, cap, h1, h2⟩ := h
  obtain ⟨e1, e2, e3⟩ := h2 k _ hx
  simp only at e1 e2 e3
  have hl : (k : Int) < (N.length : Int) := by omega
  clear h2 hx
  go_enter Try.func11, Try.ntmps11
  go_wp2
  go_quiet (fail)
  all_goals go_wp2
  all_goals go_ret3
  all_goals exact ⟨rfl, (Upd.refl _ _).drewN _⟩

set_option maxHeartbeats 1000000 in
theorem same_any (b1 b2 : Nat) (N : List Nd) (w : World) (h1 : TrieAt w b1 N) (h2 : TrieAt w b2 N) (hN : N.length ≤ 1000000000) :
    Calls Try.prog 15 #[.pointer (some ⟨b1, 0, none⟩), .pointer (some ⟨b2, 0, none⟩)] w fun r w' => r = .returned (.bool true) ∧ Upd (fun _ => False) w w' := by
  have S1 := hide (size_any b1 N w h1)
  have S2 := hide (size_any b2 N w h2)
  have H1 := hide h1
  have H2 := hide h2
  clear h1 h2
  go_enter Try.func15, Try.ntmps15
  go_wp2_with (first | (go_at_call_of 9 (Value.pointer (some ⟨b1, 0, none⟩)); refine (unhide S1).mono ?_; rintro r w1 ⟨rfl, hw⟩; have hw' := hw.symm; clear hw; subst hw') | (go_at_call_of 9 (Value.pointer (some ⟨b2, 0, none⟩)); refine (unhide S2).mono ?_; rintro r w1 ⟨rfl, hw⟩; have hw' := hw.symm; clear hw; subst hw'))
  go_loopw [6] (fun i wr => ∃ k : Nat, i = .int .i64 (k : Int) ∧ k ≤ N.length ∧ Hid (Upd (fun _ => False) w wr)) (fun i _ => N.length - (intOf i).toNat)
  case atStart => exact ⟨0, by go_num, by omega, hide (Upd.refl _ _)⟩
  case round =>
    obtain ⟨k, rfl, hk, UR⟩ := hrel
    have hkb : (k : Int) ≤ 1000000000 := by omega
    clear S1 S2
    by_cases hkl : k < N.length
    · have hl : (k : Int) < (N.length : Int) := by omega
      obtain ⟨⟨c, f, n⟩, hx⟩ : ∃ x, N[k]? = some x := ⟨_, List.getElem?_eq_getElem hkl⟩
      have G : Hid (∀ (b : Nat) (W : World), TrieAt W b N → Calls Try.prog 11 #[.pointer (some ⟨b, 0, none⟩), .int .i64 (k : Int)] W fun r w' => r = .returned (.tuple #[.int .i32 c, .int .i32 (f : Int), .int .i32 (n : Int)]) ∧ Upd (fun _ => False) W w') := hide (fun b W h => node_any b N W h k hkl hN c f n hx)
      clear hx
      go_wp2_with fail
      refine (unhide G _ _ ((unhide H1).kept (unhide UR))).mono ?_
      rintro r w1 ⟨rfl, hu1⟩
      have U1 : Hid (Upd (fun _ => False) w w1) := hide ((unhide UR).trans hu1)
      clear hu1
      go_wp2_with fail
      refine (unhide G _ _ ((unhide H2).kept (unhide U1))).mono ?_
      rintro r w2 ⟨rfl, hu2⟩
      have U2 : Hid (Upd (fun _ => False) w w2) := hide ((unhide U1).trans hu2)
      clear hu2
      go_wp2
      go_roundw
      case rel => exact ⟨k + 1, by go_num, by omega, U2⟩
      case measure => simp [intOf]; omega
    · have hl : ¬ (k : Int) < (N.length : Int) := by omega
      go_wp2
      go_ret
      exact ⟨rfl, unhide UR⟩
end Go.Proofs.Qxb6608903a
