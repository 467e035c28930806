/-
  AppendUint32 by a contract with its frame.
-/
import Derived.Test.Qxb6614154aHdr
import Derived.Maps.AppendAt
import Derived.OneCell
import Derived.Lib.Builder
namespace Go.Proofs.Qxb6614154a
open Go.ChangeShapes Go.WideShapes Go.ChangeAt Go.RowKit
set_option linter.unusedSimpArgs false
set_option linter.unusedVariables false

theorem info5 : (Try.prog.info? 5).map (fun i => (i.zero, i.size, i.bytes)) = some (some (.int .u8 0), 1, 1) := by kernel_rfl
theorem info3 : (Try.prog.info? 3).map (fun i => (i.zero, i.size, i.bytes)) = some (some (.int .i64 0), 1, 8) := by kernel_rfl

/-- the four bytes of a word, the greatest first -/
def be4 (W : Int) : List Int := [W / 16777216, W / 65536 % 256, W / 256 % 256, W % 256]
def B8 (l : List Int) : List Value := l.map (Value.int .u8)
def I64 (l : List Int) : List Value := l.map (Value.int .i64)

/-- where the new slice lies: in the old row or in a new block -/
def Lies (w : World) (v v' : Value) : Prop := v'.ownBlock = v.ownBlock ∨ ∃ g, v'.ownBlock = some g ∧ w.heap.size ≤ g

theorem cells_at {w : World} {g : Nat} {l : List Value} {t : TypeId} {fr : Nat × Nat} (h : w.heap[g]? = some (.cells l.toArray t fr)) : ∀ j u, l[j]? = some u → w.cell? ((⟨g, 0, none⟩ : Addr).add j) = some u := by
  intro j u hj
  have hadd : (⟨g, 0, none⟩ : Addr).add j = ⟨g, j, none⟩ := by unfold Addr.add; split <;> simp_all
  rw [hadd]
  simp [World.cell?, h, hj]
theorem cells_new1 (w : World) (o : Obj) (l : List Value) (t : TypeId) : ∀ j u, l[j]? = some u → ((w.alloc o).alloc (.cells l.toArray t)).cell? ((⟨w.heap.size + 1, 0, none⟩ : Addr).add j) = some u := by
  refine cells_at (t := t) (fr := (0, 0)) ?_
  have e : w.heap.size + 1 = (w.alloc o).heap.size := by simp
  rw [e]; exact heap_alloc_new _ _
theorem b8_one (l : List Int) : ∀ u ∈ B8 l, u.oneCell' = true := ints_oneCell _ _
theorem B8_append (a b : List Int) : B8 (a ++ b) = B8 a ++ B8 b := by simp [B8]
theorem I64_append (a b : List Int) : I64 (a ++ b) = I64 a ++ I64 b := by simp [I64]

set_option maxHeartbeats 1000000 in
theorem app32 (B n : Nat) (vd : Value) (xs : List Int) (W : Int) (h0 : 0 ≤ W) (h1 : W < 4294967296) (w : World) (hown : w.ownsRow B 5 1 vd n (B8 xs)) (hB : B ≤ w.heap.size) (hlim : n + 4 ≤ 1099511627776) :
    Calls Try.prog 35 #[.agg #[], vd, .int .u32 W] w fun e w' => ∃ v', e = .returned v' ∧ w'.ownsRow B 5 1 v' (n + 4) (B8 (xs ++ be4 W)) ∧ w.grownBy w' vd.ownBlock ∧ Lies w vd v' := by
  obtain ⟨i0, hi, hz0, hz1, hz2⟩ := info_parts info5
  have HO := hide hown
  clear hown
  go_enter Try.func35, Try.ntmps35
  go_wp2_with (at_builtin; refine wpList_append_own_at _ rfl (.tmp 7) (.tmp 19) 22 rfl B 5 i0 (.int .u8 0) 1 1 Try.underlying22 hi hz0 hz1 hz2 rfl (by decide) vd n (B8 xs) rfl (((unhide HO).alloc _).alloc _) ⟨w.heap.size + 1, 0, none⟩ 4 4 (B8 (be4 W)) rfl rfl (cells_new1 _ _ _ _) (b8_one _) (by unfold maxLen; omega) (by omega) (by simp; omega) ?_; intro v' w1 hown' hgrow hnil hat)
  clear hi hz0 hz1 hz2
  go_wp2
  go_ret
  refine ⟨v', rfl, by rw [B8_append]; exact hown', (World.grownBy_alloc _ _ _).trans ((World.grownBy_alloc _ _ _).trans hgrow), ?_⟩
  rcases hat with hat | hat
  · exact .inl hat
  · exact .inr ⟨_, hat, by simp; omega⟩
end Go.Proofs.Qxb6614154a
