/-
  AppendBinary by a contract.
-/
import Derived.Test.Qxb6614154aApp
import Derived.Test.Qxb6614154aBits
namespace Go.Proofs.Qxb6614154a
open Go.ChangeShapes Go.WideShapes Go.ChangeAt Go.RowKit
set_option linter.unusedSimpArgs false
set_option linter.unusedVariables false

theorem grownBy_any {a b : World} (h : a.grownBy b none) (row : Option Nat) : a.grownBy b row := ⟨h.os, h.tape, h.output, h.size, fun k hk _ => h.block k hk (by simp)⟩
theorem grownBy_drewN {a b : World} {row : Option Nat} (h : a.grownBy b row) (n : Nat) : a.grownBy (b.drewN n) row := ⟨h.os, h.tape, h.output, h.size, h.block⟩
theorem own_kept {w w' : World} {B : Nat} {e : TypeId} {k : Nat} {v : Value} {n : Nat} {xs : List Value} (h : w.ownsRow B e k v n xs) (hg : w.grownBy w' none) : w'.ownsRow B e k v n xs := h.kept hg (by cases hv : v.ownBlock <;> simp)
theorem flag_bd (b : Bool) : 0 ≤ flagI b ∧ flagI b ≤ 1 := by cases b <;> decide
theorem word_bd (sb eb i g m q h u : Int) (s0 : 0 ≤ sb) (s7 : sb ≤ 7) (e0 : 0 ≤ eb) (e7 : eb ≤ 7) (i0 : 0 ≤ i) (i1 : i ≤ 1) (g0 : 0 ≤ g) (g12 : g ≤ 12) (m0 : 0 ≤ m) (m31 : m ≤ 31) (q0 : 0 ≤ q) (q31 : q ≤ 31) : 0 ≤ wordN sb eb i g m q h u ∧ wordN sb eb i g m q h u < 4294967296 := by
  unfold wordN; omega

set_option maxHeartbeats 1000000 in
theorem appBin_ok (B n : Nat) (vd : Value) (xs : List Int) (sb eb : Int) (i : Bool) (g m q h u : Int) (w : World) (hown : w.ownsRow B 5 1 vd n (B8 xs)) (hB : B ≤ w.heap.size) (hlim : n + 4 ≤ 1099511627776)
    (h1 : ck1 sb eb g m q h u = true) (h2 : ck2 g m q h u = true) (s0 : 0 ≤ sb) (e0 : 0 ≤ eb) (g0 : 0 ≤ g) (m0 : 0 ≤ m) (q0 : 0 ≤ q) :
    Calls Try.prog 31 #[.agg #[.int .u8 sb, .int .u8 eb, .bool i, .bool true, .int .u8 g, .int .u8 m, .int .u8 q, .int .i8 h, .int .i8 u], vd] w fun e w' => ∃ v', e = .returned (.tuple #[v', .nilIface]) ∧ w'.ownsRow B 5 1 v' (n + 4) (B8 (xs ++ be4 (wordN sb eb (flagI i) g m q h u))) ∧ w.grownBy w' vd.ownBlock ∧ Lies w vd v' := by
  have hb := of_decide_eq_true h1
  obtain ⟨sb7, eb7, g12, m31, q31, qg, hl, hh, ul, uh⟩ := hb
  have HC := hide (fun W => check_any sb eb i true g m q h u W)
  have HU := hide (fun W => unused_any sb eb i g m q h u W)
  have HO := hide hown
  have H1 := hide h1
  have H2 := hide h2
  clear hown h1 h2 qg
  go_enter Try.func31, Try.ntmps31
  go_wp2_with fail
  refine (unhide HC _).mono ?_
  rintro e w1 ⟨he, hg1⟩
  rcases he with ⟨_, rfl⟩ | ⟨hf, _⟩
  rotate_left
  · rw [unhide H1] at hf; cases hf
  have c1 : ∀ o, w1.cell? ⟨w.heap.size, o, none⟩ = (w.alloc (.cells #[.int .u8 sb, .int .u8 eb, .bool i, .bool true, .int .u8 g, .int .u8 m, .int .u8 q, .int .i8 h, .int .i8 u] 48)).cell? ⟨w.heap.size, o, none⟩ := fun o => World.cell?_of_block (hg1.block _ (by simp) (by simp))
  go_wp2_with fail
  refine (unhide HU _).mono ?_
  rintro e w2 ⟨he, hg2⟩
  rcases he with ⟨_, rfl⟩ | ⟨hf, _⟩
  rotate_left
  · rw [unhide H2] at hf; cases hf
  have z1 := hg1.size
  have c2 : ∀ o, w2.cell? ⟨w.heap.size, o, none⟩ = w1.cell? ⟨w.heap.size, o, none⟩ := fun o => World.cell?_of_block (hg2.block _ (by show w.heap.size < w1.heap.size; simp at z1; omega) (by simp))
  have hF := flag_any
  go_wp2_with fail
  go_quiet (first | (go_at_call 34; refine Calls.quiet_of_same (flag_any _ _)))
  go_wp2_with fail
  obtain ⟨f0, f1⟩ := flag_bd i
  have hw := word_eq sb eb (flagI i) g m q h u s0 sb7 e0 eb7 f0 f1 g0 g12 m0 m31 q0 q31
  rw [show flagI true = 1 from rfl, hw]
  obtain ⟨b0, b1⟩ := word_bd sb eb (flagI i) g m q h u s0 sb7 e0 eb7 f0 f1 g0 g12 m0 m31 q0 q31
  generalize hWd : wordN sb eb (flagI i) g m q h u = W at *
  have HW := hide hWd
  clear hWd hw
  have G2 : w.grownBy (w2.drewN nq) none := grownBy_drewN ((World.grownBy_alloc _ _ _).trans (hg1.trans hg2)) nq
  have A := app32 B n vd xs W b0 b1 (w2.drewN nq) (own_kept (unhide HO) G2) (Nat.le_trans hB G2.size) hlim
  refine A.mono ?_
  rintro e w3 ⟨v', rfl, ho3, hg3, hl3⟩
  clear A c1 c2 hF HC HU
  go_wp2
  go_ret2
  refine ⟨v', rfl, by rw [unhide HW]; exact ho3, (grownBy_any G2 _).trans hg3, ?_⟩
  rcases hl3 with hl3 | ⟨gg, h5, h6⟩
  · exact .inl hl3
  · exact .inr ⟨gg, h5, Nat.le_trans G2.size h6⟩

set_option maxHeartbeats 1000000 in
theorem appBin_bad (vd : Value) (sb eb : Int) (i : Bool) (g m q h u : Int) (w : World) (hb : ck1 sb eb g m q h u = false ∨ ck2 g m q h u = false) :
    Calls Try.prog 31 #[.agg #[.int .u8 sb, .int .u8 eb, .bool i, .bool true, .int .u8 g, .int .u8 m, .int .u8 q, .int .i8 h, .int .i8 u], vd] w fun e w' => ∃ a, e = .returned (.tuple #[vd, .iface 71 (.pointer (some a))]) ∧ w.grownBy w' none := by
  have HC := hide (fun W => check_any sb eb i true g m q h u W)
  have HU := hide (fun W => unused_any sb eb i g m q h u W)
  have HB := hide hb
  clear hb
  go_enter Try.func31, Try.ntmps31
  go_wp2_with fail
  refine (unhide HC _).mono ?_
  rintro e w1 ⟨he, hg1⟩
  rcases he with ⟨h1, rfl⟩ | ⟨_, a, rfl⟩
  · have H2 : Hid (ck2 g m q h u = false) := by
      rcases unhide HB with h | h
      · rw [h1] at h; cases h
      · exact h
    clear h1
    have c1 : ∀ o, w1.cell? ⟨w.heap.size, o, none⟩ = (w.alloc (.cells #[.int .u8 sb, .int .u8 eb, .bool i, .bool true, .int .u8 g, .int .u8 m, .int .u8 q, .int .i8 h, .int .i8 u] 48)).cell? ⟨w.heap.size, o, none⟩ := fun o => World.cell?_of_block (hg1.block _ (by simp) (by simp))
    go_wp2_with fail
    refine (unhide HU _).mono ?_
    rintro e w2 ⟨he, hg2⟩
    rcases he with ⟨h2, _⟩ | ⟨_, a, rfl⟩
    · rw [unhide H2] at h2; cases h2
    · clear c1
      go_wp2
      go_ret2
      exact ⟨a, rfl, (World.grownBy_alloc _ _ _).trans (hg1.trans hg2)⟩
  · go_wp2
    go_ret2
    exact ⟨a, rfl, (World.grownBy_alloc _ _ _).trans hg1⟩
end Go.Proofs.Qxb6614154a
