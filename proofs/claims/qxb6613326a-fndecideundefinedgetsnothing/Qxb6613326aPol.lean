/-
  Decide: what a policy in memory is ('Pol'), and the readers: cmp.Or, lookup, ZZaccountAt.
-/
import Derived.Test.Qxb6613326aMaps
import Derived.RegionTactic
import Derived.BigRegion
import Derived.LoopTactic
namespace Go.Proofs.Qxb6613326a
open Go.ChangeShapes Go.WideShapes Go.ChangeAt Go.RowKit

/-- the policy at block bp: its accounts lie in block ba (8 cells each, n of them), its index in the map's block bm, which answers as 'look' does -/
structure Pol (w : World) (bp ba bm n : Nat) (look : ByteArray → Option Nat) : Prop where
  hp : w.cell? ⟨bp, 5, none⟩ = some (.slice (some ⟨ba, 0, none⟩) n n)
  hm : w.cell? ⟨bp, 6, none⟩ = some (.map (some bm))
  hmap : ∃ es c, w.heap[bm]? = some (.map es c) ∧ ∀ q, ∃ a, Instr.findNow .string (.string q) es.toList 0 = some a ∧ a.map Prod.snd = (look q).map (fun i => .int .i64 (i : Int))
  hlt : ∀ q i, look q = some i → i < n
  bp_lt : bp < w.heap.size
  ba_lt : ba < w.heap.size
  bm_lt : bm < w.heap.size

theorem Pol.kept {w w' : World} {bp ba bm n : Nat} {look : ByteArray → Option Nat} (h : Pol w bp ba bm n look) (hb : Below w.heap.size w w') : Pol w' bp ba bm n look where
  hp := by rw [hb.cell (p := ⟨bp, 5, none⟩) h.bp_lt]; exact h.hp
  hm := by rw [hb.cell (p := ⟨bp, 6, none⟩) h.bp_lt]; exact h.hm
  hmap := by obtain ⟨es, c, h1, h2⟩ := h.hmap; exact ⟨es, c, by rw [hb.block bm h.bm_lt]; exact h1, h2⟩
  hlt := h.hlt
  bp_lt := Nat.lt_of_lt_of_le h.bp_lt hb.size
  ba_lt := Nat.lt_of_lt_of_le h.ba_lt hb.size
  bm_lt := Nat.lt_of_lt_of_le h.bm_lt hb.size

theorem zero3 (w : World) : (zeroValue 3).run Try.prog w = .ok (.int .i64 0) w := by kernel_rfl
theorem Pol.look_some {w : World} {bp ba bm n : Nat} {look : ByteArray → Option Nat} (h : Pol w bp ba bm n look) {q : ByteArray} {i : Nat} (hq : look q = some i) :
    (Instr.lookup 38 (.map (some bm)) (.string q) true).run Try.prog w = .ok (.tuple #[.int .i64 (i : Int), .bool true]) w := by
  obtain ⟨es, c, h1, h2⟩ := h.hmap
  obtain ⟨a, ha, ha2⟩ := h2 q
  rw [hq] at ha2
  rw [look_gen w 38 9 3 bm c es q (by kernel_rfl) Try.underlying9 h1 a ha _ zero3]
  cases a with
  | none => simp at ha2
  | some p => simp at ha2; simp [ha2]
theorem Pol.look_none {w : World} {bp ba bm n : Nat} {look : ByteArray → Option Nat} (h : Pol w bp ba bm n look) {q : ByteArray} (hq : look q = none) :
    (Instr.lookup 38 (.map (some bm)) (.string q) true).run Try.prog w = .ok (.tuple #[.int .i64 0, .bool false]) w := by
  obtain ⟨es, c, h1, h2⟩ := h.hmap
  obtain ⟨a, ha, ha2⟩ := h2 q
  rw [hq] at ha2
  rw [look_gen w 38 9 3 bm c es q (by kernel_rfl) Try.underlying9 h1 a ha _ zero3]
  cases a with
  | none => simp
  | some p => simp at ha2

/-- (*Policy).lookup: the account's address, or nil -/
theorem lookup_some (w : World) (bp ba bm n : Nat) (look : ByteArray → Option Nat) (hP : Pol w bp ba bm n look) (q : ByteArray) (i : Nat) (hq : look q = some i) :
    Calls Try.prog 14 #[.pointer (some ⟨bp, 0, none⟩), .string q] w fun e w' => e = .returned (.pointer (some ⟨ba, i * 8, none⟩)) ∧ w' = w := by
  have hl := hP.look_some hq
  have h5 := hP.hp
  have h6 := hP.hm
  have hi := hP.hlt q i hq
  have hi' : (i : Int) < n := by omega
  clear hP hq
  go_enter Try.func14, Try.ntmps14
  go_wp2
  go_ret
  exact ⟨rfl, rfl⟩
theorem lookup_none (w : World) (bp ba bm n : Nat) (look : ByteArray → Option Nat) (hP : Pol w bp ba bm n look) (q : ByteArray) (hq : look q = none) :
    Calls Try.prog 14 #[.pointer (some ⟨bp, 0, none⟩), .string q] w fun e w' => e = .returned (.pointer none) ∧ w' = w := by
  have hl := hP.look_none hq
  have h6 := hP.hm
  clear hP hq
  go_enter Try.func14, Try.ntmps14
  go_wp2
  go_ret
  exact ⟨rfl, rfl⟩
theorem accountAt (w : World) (bp ba bm n : Nat) (look : ByteArray → Option Nat) (hP : Pol w bp ba bm n look) (i : Nat) (hi : i < n) :
    Calls Try.prog 12 #[.pointer (some ⟨bp, 0, none⟩), .int .i64 i] w fun e w' => e = .returned (.pointer (some ⟨ba, i * 8, none⟩)) ∧ w' = w := by
  have h5 := hP.hp
  have hi' : (i : Int) < n := by omega
  clear hP
  go_enter Try.func12, Try.ntmps12
  go_wp2
  go_ret
  exact ⟨rfl, rfl⟩
/-- the first that is not empty, as cmp.Or has it -/
def orS (s t : ByteArray) : ByteArray := if s.toList.isEmpty then t else s
theorem empty_of {t : ByteArray} (h : t.toList.isEmpty = true) : (⟨#[]⟩ : ByteArray) = t := by
  have h1 : t.data.toList = [] := by simpa [ByteArray.toList_eq] using h
  cases t with
  | mk d => simp at h1; simp [h1]
theorem orS_yes {s t : ByteArray} (h : s.toList.isEmpty = false) : orS s t = s := by simp [orS, h]
theorem orS_no {s t : ByteArray} (h : s.toList.isEmpty = true) : orS s t = t := by simp [orS, h]
theorem or_any (w : World) (b : Nat) (s t : ByteArray) (h0 : w.cell? ⟨b, 0, none⟩ = some (.string s)) (h1 : w.cell? ⟨b, 1, none⟩ = some (.string t)) :
    Calls Try.prog 15 #[.slice (some ⟨b, 0, none⟩) 2 2] w fun e w' => e = .returned (.string (orS s t)) ∧ w' = w := by
  cases hs : s.toList.isEmpty
  · rw [orS_yes hs]
    go_enter Try.func15, Try.ntmps15
    go_wp2
    refine wp_loop_rounds 1 ?_
    rw [rounds_succ]
    go_wp2
    go_ret
    exact ⟨rfl, rfl⟩
  · rw [orS_no hs]
    cases ht : t.toList.isEmpty
    · go_enter Try.func15, Try.ntmps15
      go_wp2
      refine wp_loop_rounds 2 ?_
      rw [rounds_succ]
      go_wp2
      rw [rounds_succ]
      go_wp2
      go_ret
      exact ⟨rfl, rfl⟩
    · rw [← empty_of ht]
      go_enter Try.func15, Try.ntmps15
      go_wp2
      refine wp_loop_rounds 3 ?_
      rw [rounds_succ]
      go_wp2
      rw [rounds_succ]
      go_wp2
      rw [rounds_succ]
      go_wp2
      go_ret
      exact ⟨rfl, rfl⟩
end Go.Proofs.Qxb6613326a
