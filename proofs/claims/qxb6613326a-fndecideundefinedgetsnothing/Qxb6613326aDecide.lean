/-
  Decide: (*Policy).decide, ZZdecide, zzDecideOwn by contracts.
-/
import Derived.Test.Qxb6613326aPol
import Derived.Deep.RegionWith
import Derived.Deep.QuietTactic
import Derived.BigQuiet
namespace Go.Proofs.Qxb6613326a
open Go.ChangeShapes Go.WideShapes Go.ChangeAt Go.RowKit

theorem hide {p : Prop} (h : p) : Hid p := h
theorem unhide {p : Prop} (h : Hid p) : p := h

def superB (typ : ByteArray) : Bool := typ.toList == [115, 117, 112, 101, 114, 95, 97, 100, 109, 105, 110]

set_option maxHeartbeats 400000 in
theorem decide_none (w : World) (bp ba bm n : Nat) (look : ByteArray → Option Nat) (hP : Pol w bp ba bm n look) (q t : ByteArray) (hq : look q = none) :
    Calls Try.prog 13 #[.pointer (some ⟨bp, 0, none⟩), .string q, .string t] w fun e w' => e = .returned (.agg #[.pointer none, .string t, .bool false]) ∧ Below w.heap.size w w' := by
  have hc : ∀ o, Calls Try.prog 14 #[.pointer (some ⟨bp, 0, none⟩), .string q] (w.alloc o) fun e w' => e = .returned (.pointer none) ∧ w' = w.alloc o :=
    fun o => lookup_none _ bp ba bm n look (hP.kept ((Below.refl _ _).alloc (Nat.le_refl _) _)) q hq
  clear hP hq
  have HC := hide hc
  clear hc
  go_enter Try.func13, Try.ntmps13
  go_wp2_with (go_at_call 14; refine (unhide HC _).mono ?_; rintro e w' ⟨rfl, rfl⟩)
  exact bodyPost_ret (v := .agg #[.pointer none, .string t, .bool false]) (by simp [results, Try.results13, go_sem]) rfl ⟨rfl, (Below.refl _ _).alloc (Nat.le_refl _) _⟩

set_option maxHeartbeats 400000 in
theorem decide_some (w : World) (bp ba bm n : Nat) (look : ByteArray → Option Nat) (hP : Pol w bp ba bm n look) (q t typ ten : ByteArray) (i : Nat) (hq : look q = some i)
    (h1 : w.cell? ⟨ba, i * 8 + 1, none⟩ = some (.string typ)) (h2 : w.cell? ⟨ba, i * 8 + 2, none⟩ = some (.string ten)) :
    Calls Try.prog 13 #[.pointer (some ⟨bp, 0, none⟩), .string q, .string t] w fun e w' => e = .returned (.agg #[.pointer (some ⟨ba, i * 8, none⟩), .string (orS t ten), .bool (superB typ)]) ∧ Below w.heap.size w w' := by
  have hc : ∀ o, Calls Try.prog 14 #[.pointer (some ⟨bp, 0, none⟩), .string q] (w.alloc o) fun e w' => e = .returned (.pointer (some ⟨ba, i * 8, none⟩)) ∧ w' = w.alloc o :=
    fun o => lookup_some _ bp ba bm n look (hP.kept ((Below.refl _ _).alloc (Nat.le_refl _) _)) q i hq
  have hba := hP.ba_lt
  have ho : ∀ o, Calls Try.prog 15 #[.slice (some ⟨w.heap.size + 1, 0, none⟩) 2 2] ((w.alloc o).alloc (.cells #[.string t, .string ten] 9)).drew fun e w' => e = .returned (.string (orS t ten)) ∧ w' = ((w.alloc o).alloc (.cells #[.string t, .string ten] 9)).drew :=
    fun o => or_any _ _ t ten (by simp) (by simp)
  clear hP hq
  have HC := hide hc
  have HO := hide ho
  have hs : (typ.toList == [115, 117, 112, 101, 114, 95, 97, 100, 109, 105, 110]) = superB typ := rfl
  clear hc ho
  go_enter Try.func13, Try.ntmps13
  go_wp2_with (go_at_call 14; refine (unhide HC _).mono ?_; rintro e w' ⟨rfl, rfl⟩)
  go_region_with (go_at_call 15; refine (unhide HO _).mono ?_; rintro e w' ⟨rfl, rfl⟩)
  all_goals go_wp2
  all_goals exact bodyPost_ret (v := .agg #[.pointer (some ⟨ba, i * 8, none⟩), .string (orS t ten), .bool (superB typ)]) (by simp [results, Try.results13, go_sem]) rfl ⟨rfl, (((Below.refl _ _).alloc (Nat.le_refl _) _).alloc (by simp) _).drew⟩

/-- ZZdecide: the three fields handed out -/
theorem zzdecide_none (w : World) (bp ba bm n : Nat) (look : ByteArray → Option Nat) (hP : Pol w bp ba bm n look) (q t : ByteArray) (hq : look q = none) :
    Calls Try.prog 11 #[.pointer (some ⟨bp, 0, none⟩), .string q, .string t] w fun e w' => e = .returned (.tuple #[.pointer none, .string t, .bool false]) ∧ Below w.heap.size w w' := by
  have HC := hide (decide_none w bp ba bm n look hP q t hq)
  clear hP hq
  go_enter Try.func11, Try.ntmps11
  go_wp2_with (go_at_call 13; refine (unhide HC).mono ?_; rintro e w1 ⟨rfl, hb⟩)
  go_quiet (fail)
  go_wp2
  go_ret3
  exact ⟨rfl, below_drewN (hb.alloc hb.size _) _⟩
theorem zzdecide_some (w : World) (bp ba bm n : Nat) (look : ByteArray → Option Nat) (hP : Pol w bp ba bm n look) (q t typ ten : ByteArray) (i : Nat) (hq : look q = some i)
    (h1 : w.cell? ⟨ba, i * 8 + 1, none⟩ = some (.string typ)) (h2 : w.cell? ⟨ba, i * 8 + 2, none⟩ = some (.string ten)) :
    Calls Try.prog 11 #[.pointer (some ⟨bp, 0, none⟩), .string q, .string t] w fun e w' => e = .returned (.tuple #[.pointer (some ⟨ba, i * 8, none⟩), .string (orS t ten), .bool (superB typ)]) ∧ Below w.heap.size w w' := by
  have HC := hide (decide_some w bp ba bm n look hP q t typ ten i hq h1 h2)
  clear hP hq h1 h2
  go_enter Try.func11, Try.ntmps11
  go_wp2_with (go_at_call 13; refine (unhide HC).mono ?_; rintro e w1 ⟨rfl, hb⟩)
  go_quiet (fail)
  go_wp2
  go_ret3
  exact ⟨rfl, below_drewN (hb.alloc hb.size _) _⟩
end Go.Proofs.Qxb6613326a
