/-
  cmp.Compare at runes; the closure of newTrie; slices.SortFunc at a node's children.
-/
import Derived.Test.Qxb6608903aByt
import Derived.Test.Qxb6608903aLaid
namespace Go.Proofs.Qxb6608903a
open Go.ChangeShapes Go.WideShapes Go.ChangeAt Go.RowKit Go.Shelf Go.Lib Go.Sort
set_option linter.unusedSimpArgs false
set_option linter.unusedVariables false

theorem nan_any (x : Int) (w : World) : Calls Try.prog 42 #[.int .i32 x] w fun e w' => e = .returned (.bool false) ∧ w' = w := by
  go_enter Try.func42, Try.ntmps42
  go_wp2
  go_ret
  exact ⟨rfl, rfl⟩
set_option maxHeartbeats 1000000 in
theorem cmp_any (x y : Int) (w : World) : Calls Try.prog 33 #[.int .i32 x, .int .i32 y] w fun e w' => e = .returned (.int .i64 (Lib.compareInt x y)) ∧ w' = w := by
  have hn : ∀ z W, Calls Try.prog 42 #[.int .i32 z] W fun e w' => e = .returned (.bool false) ∧ w' = W := nan_any
  have HN := hide hn
  clear hn
  by_cases h1 : x < y
  · have e : Lib.compareInt x y = -1 := by unfold Lib.compareInt; simp [h1]
    rw [e]
    clear e
    go_enter Try.func33, Try.ntmps33
    go_wp2_with (go_at_call 42; refine (unhide HN _ _).mono ?_; rintro e w1 ⟨rfl, rfl⟩)
    go_ret
    exact ⟨rfl, rfl⟩
  · by_cases h2 : y < x
    · have e : Lib.compareInt x y = 1 := by unfold Lib.compareInt; simp [h1, h2]
      rw [e]
      clear e
      go_enter Try.func33, Try.ntmps33
      go_wp2_with (go_at_call 42; refine (unhide HN _ _).mono ?_; rintro e w1 ⟨rfl, rfl⟩)
      go_ret
      exact ⟨rfl, rfl⟩
    · have e : Lib.compareInt x y = 0 := by unfold Lib.compareInt; simp [h1, h2]
      rw [e]
      clear e
      go_enter Try.func33, Try.ntmps33
      go_wp2_with (go_at_call 42; refine (unhide HN _ _).mono ?_; rintro e w1 ⟨rfl, rfl⟩)
      go_ret
      exact ⟨rfl, rfl⟩

/-- a node's three cells -/
def encN (x : Int × Int × Int) : List Value := [.int .i32 x.1, .int .i32 x.2.1, .int .i32 x.2.2]
def cmpN (x y : Int × Int × Int) : Int := Lib.compareInt x.1 y.1
set_option maxHeartbeats 1000000 in
theorem closure32 (x y : Int × Int × Int) (W : World) : Calls Try.prog 32 #[.agg #[.int .i32 x.1, .int .i32 x.2.1, .int .i32 x.2.2], .agg #[.int .i32 y.1, .int .i32 y.2.1, .int .i32 y.2.2]] W fun e w' => e = .returned (.int .i64 (cmpN x y)) ∧ ∃ q os', w' = grow (W.drewN q) os' := by
  have hcon := fun W' => cmp_any x.1 y.1 W'
  unfold cmpN
  generalize Lib.compareInt x.1 y.1 = r at hcon ⊢
  go_enter Try.func32, Try.ntmps32
  go_wp2_with (go_at_call 33; refine (hcon _).mono ?_; rintro e w' ⟨rfl, rfl⟩)
  go_ret
  exact ⟨rfl, 0, _, by rw [alloc_eq_grow, alloc_eq_grow, grow_grow]; rfl⟩
theorem cmpLays32 (blk off size : Nat) (w : World) : CmpLays Try.prog 32 #[] encN 3 cmpN blk off size w :=
  fun _ _ _ _ x y => closure32 x y _
theorem ltN (x y : Int × Int × Int) : ltOf cmpN x y = decide (x.1 < y.1) := by
  unfold ltOf cmpN Lib.compareInt
  by_cases h1 : x.1 < y.1
  · simp [h1]
  · by_cases h2 : y.1 < x.1 <;> simp [h1, h2]
theorem swoN : SWO (ltOf cmpN) where
  irrefl x := by rw [ltN]; simp
  trans x y z h1 h2 := by rw [ltN] at *; simp at *; omega
  ntrans x y z h1 h2 := by rw [ltN] at *; simp at *; omega
set_option maxHeartbeats 1000000 in
theorem sort_any (blk off cap : Nat) (d : Array (Int × Int × Int)) (w : World) (hH : HoldsK encN 3 w blk off d) (hblk : blk < w.heap.size) (hsz : d.size < 4611686018427387904) :
    Calls Try.prog 31 #[.slice (some ⟨blk, off, none⟩) d.size cap, .func (.func 32) #[] #[]] w fun e w' => e = .returned (.tuple #[]) ∧ ∃ d' n os, PermIn 0 d.size d d' ∧ SortedIn (ltOf cmpN) 0 d.size d' ∧ w' = sortWorldK encN 3 w blk off n d' os := by
  have eg : ∀ args w, (callFunc 32 args).run Try.prog w = .ok (.enter 32 args) w := enters_of Try.func32 (by kernel_rfl) rfl
  have hcon := AnyQ.slices_SortFunc Try.sortTr 3 Try.isAgg68 Try.sizeOf68 encN (fun _ => rfl) (fun x v hv => by simp [encN] at hv; rcases hv with rfl | rfl | rfl <;> rfl) cmpN swoN 32 #[] blk off cap d w eg (cmpLays32 blk off d.size w) hH hblk hsz
  exact hcon
end Go.Proofs.Qxb6608903a
