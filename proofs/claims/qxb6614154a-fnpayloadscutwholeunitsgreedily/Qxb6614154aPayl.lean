/-
  (*h261Picture).payloads by a contract.
-/
import Derived.Test.Qxb6614154aPackW
namespace Go.Proofs.Qxb6614154a
open Go.ChangeShapes Go.WideShapes Go.ChangeAt Go.RowKit
set_option linter.unusedSimpArgs false
set_option linter.unusedVariables false

/-- the four variables that the closures capture -/
def boxed4 (w : World) (bb : Nat) (sv uv : Value) (mp : Int) : World := (((w.alloc (.cells #[.pointer (some ⟨bb, 0, none⟩)] 55)).alloc (.cells #[sv] 22)).alloc (.cells #[uv] 46)).alloc (.cells #[.int .i64 mp] 3)
theorem boxed4_upd (w : World) (bb : Nat) (sv uv : Value) (mp : Int) (X : Nat → Prop) : Upd X w (boxed4 w bb sv uv mp) := ((((Upd.refl X w).alloc _).alloc _).alloc _).alloc _
theorem boxed4_0 (w : World) (bb : Nat) (sv uv : Value) (mp : Int) : (boxed4 w bb sv uv mp).heap[w.heap.size]? = some (.cells #[.pointer (some ⟨bb, 0, none⟩)] 55 (0, 0)) := by
  show ((((w.heap.push _).push _).push _).push _)[w.heap.size]? = _
  simp only [Array.getElem?_push, Array.size_push]
  rw [if_neg (by omega), if_neg (by omega), if_neg (by omega), if_pos trivial]
theorem boxed4_1 (w : World) (bb : Nat) (sv uv : Value) (mp : Int) : (boxed4 w bb sv uv mp).heap[w.heap.size + 1]? = some (.cells #[sv] 22 (0, 0)) := by
  show ((((w.heap.push _).push _).push _).push _)[w.heap.size + 1]? = _
  simp only [Array.getElem?_push, Array.size_push]
  rw [if_neg (by omega), if_neg (by omega), if_pos trivial]
theorem boxed4_2 (w : World) (bb : Nat) (sv uv : Value) (mp : Int) : (boxed4 w bb sv uv mp).heap[w.heap.size + 1 + 1]? = some (.cells #[uv] 46 (0, 0)) := by
  show ((((w.heap.push _).push _).push _).push _)[w.heap.size + 1 + 1]? = _
  simp only [Array.getElem?_push, Array.size_push]
  rw [if_neg (by omega), if_pos trivial]
theorem boxed4_3 (w : World) (bb : Nat) (sv uv : Value) (mp : Int) : (boxed4 w bb sv uv mp).heap[w.heap.size + 1 + 1 + 1]? = some (.cells #[.int .i64 mp] 3 (0, 0)) := by
  show ((((w.heap.push _).push _).push _).push _)[w.heap.size + 1 + 1 + 1]? = _
  simp only [Array.getElem?_push, Array.size_push]
  rw [if_pos trivial]

theorem ErrIs.of_no {ok : Bool} {e : Ending} (h : ErrIs ok e) (hk : ok = false) : ∃ a, e = .returned (.iface 71 (.pointer (some a))) := by
  rcases h with ⟨h1, _⟩ | ⟨_, h2⟩
  · rw [hk] at h1; cases h1
  · exact h2
theorem ErrIs.of_yes {ok : Bool} {e : Ending} (h : ErrIs ok e) (hk : ok = true) : e = .returned .nilIface := by
  rcases h with ⟨_, h2⟩ | ⟨h1, _⟩
  · exact h2
  · rw [hk] at h1; cases h1

set_option maxHeartbeats 1000000 in
theorem packUnits_zero (b1 b2 : Array Value) (f3 : Value) (en : Int) (w : World) : Calls Try.prog 25 #[.int .i64 0, .func (.func 23) #[] b1, .int .i64 en, .func (.func 24) #[] b2, f3] w fun r w' => r = .returned .nilIface ∧ w.grownBy w' none := by
  go_enter Try.func25, Try.ntmps25
  go_wp2
  refine wp_loop_rounds 1 ?_
  rw [rounds_succ]
  go_wp2
  go_ret
  exact ⟨rfl, (World.grownBy_alloc _ _ _).trans ((World.grownBy_alloc _ _ _).trans (World.grownBy_alloc _ _ _))⟩

set_option maxHeartbeats 1000000 in
theorem payloads_zero (gu gp bb : Nat) (sv : Value) (hsv : sv = .slice none 0 0 ∨ ∃ a n c, sv = .slice (some a) n c) (en mp : Int) (w : World) (hp : ∃ c, w.heap[gp]? = some (.cells c 54 (0, 0)) ∧ c[2]? = some (.int .i64 en)) :
    Calls Try.prog 22 #[.pointer (some ⟨gp, 0, none⟩), .pointer (some ⟨bb, 0, none⟩), sv, .slice (some ⟨gu, 0, none⟩) 0 0, .int .i64 mp] w fun r w' => r = .returned .nilIface ∧ w.grownBy w' none := by
  obtain ⟨cp, hp1, hp2⟩ := hp
  have hgl : gp < w.heap.size := (Array.getElem?_eq_some_iff.1 hp1).1
  have hq : w.cell? ⟨gp, 2, none⟩ = some (.int .i64 en) := (Joins.cell_of_block hp1 2).trans hp2
  have g1 : gp < w.heap.size + 1 := by omega
  have g2 : gp < w.heap.size + 1 + 1 := by omega
  have g3 : gp < w.heap.size + 1 + 1 + 1 := by omega
  have HP := hide packUnits_zero
  clear hp1 hp2
  rcases hsv with rfl | ⟨a, n, c, rfl⟩
  all_goals
    go_enter Try.func22, Try.ntmps22
    go_wp2
    go_region_with (go_at_call 25; refine (unhide HP _ _ _ _ _).mono ?_; rintro r w1 ⟨rfl, hg⟩)
    all_goals go_wp2
    all_goals go_ret
    all_goals exact ⟨rfl, (World.grownBy_alloc _ _ _).trans ((World.grownBy_alloc _ _ _).trans ((World.grownBy_alloc _ _ _).trans ((World.grownBy_alloc _ _ _).trans ⟨hg.os, hg.tape, hg.output, hg.size, hg.block⟩)))⟩

set_option maxHeartbeats 1000000 in
theorem payloads_any (B bb gu cu gs cs gp en : Nat) (S : List Int) (L : List Un) (mp : Int) (M : Nat) (vd0 ve0 : Value) (D0 E0 : List Int) (w : World)
    (hU : Units w gu L) (hS : Bytes w gs S) (kS : ∃ c, w.heap[gs]? = some (.cells c 5 (0, 0))) (hp : ∃ c, w.heap[gp]? = some (.cells c 54 (0, 0)) ∧ c[2]? = some (.int .i64 (en : Int)))
    (hbuf : Buf w bb vd0 ve0) (hod : w.ownsRow B 5 1 vd0 D0.length (B8 D0)) (hoe : w.ownsRow B 3 1 ve0 E0.length (I64 E0)) (hB : B ≤ w.heap.size)
    (hgs : some gs ≠ vd0.ownBlock) (lie : Lie L en) (hen : (en + 7) / 8 ≤ S.length) (good : ∀ x ∈ L, x.good)
    (hcs : S.length ≤ cs) (hcl : cs ≤ 1099511627776) (hM : M ≤ 1000000000000) (hD : D0.length + L.length * (S.length + 4) ≤ M) (hE : E0.length + L.length ≤ M) (hSl : S.length ≤ 1000000000) :
    Calls Try.prog 22 #[.pointer (some ⟨gp, 0, none⟩), .pointer (some ⟨bb, 0, none⟩), .slice (some ⟨gs, 0, none⟩) S.length cs, .slice (some ⟨gu, 0, none⟩) L.length cu, .int .i64 mp] w fun r w' =>
      ErrIs (cutRun S L en (limI mp) L.length 0 D0 E0).2.2 r ∧ ∃ vd ve, Buf w' bb vd ve ∧ w'.ownsRow B 5 1 vd (cutRun S L en (limI mp) L.length 0 D0 E0).1.length (B8 (cutRun S L en (limI mp) L.length 0 D0 E0).1) ∧
        w'.ownsRow B 3 1 ve (cutRun S L en (limI mp) L.length 0 D0 E0).2.1.length (I64 (cutRun S L en (limI mp) L.length 0 D0 E0).2.1) ∧ Upd (Xs bb vd0 ve0) w w' := by
  obtain ⟨cp, hp1, hp2⟩ := hp
  have hgl : gp < w.heap.size := (Array.getElem?_eq_some_iff.1 hp1).1
  have hq : w.cell? ⟨gp, 2, none⟩ = some (.int .i64 (en : Int)) := (Joins.cell_of_block hp1 2).trans hp2
  have g1 : gp < w.heap.size + 1 := by omega
  have g2 : gp < w.heap.size + 1 + 1 := by omega
  have g3 : gp < w.heap.size + 1 + 1 + 1 := by omega
  have bl : bb < w.heap.size := (Array.getElem?_eq_some_iff.1 hbuf).1
  have U4 := boxed4_upd w bb (.slice (some ⟨gs, 0, none⟩) S.length cs) (.slice (some ⟨gu, 0, none⟩) L.length cu) mp (Xs bb vd0 ve0)
  have B4 := boxed4_upd w bb (.slice (some ⟨gs, 0, none⟩) S.length cs) (.slice (some ⟨gu, 0, none⟩) L.length cu) mp (fun _ => False)
  obtain ⟨c5, hc5⟩ := kS
  have kgs := B4.block gs (Array.getElem?_eq_some_iff.1 hc5).1 (fun h => h)
  have ENV : Env (boxed4 w bb (.slice (some ⟨gs, 0, none⟩) S.length cs) (.slice (some ⟨gu, 0, none⟩) L.length cu) mp).drew bb w.heap.size (w.heap.size + 1) (w.heap.size + 1 + 1) (w.heap.size + 1 + 1 + 1) gu cu gs cs S L mp :=
    ⟨boxed4_0 _ _ _ _ _, boxed4_1 _ _ _ _ _, boxed4_2 _ _ _ _ _, boxed4_3 _ _ _ _ _, (B4.block gu (Array.getElem?_eq_some_iff.1 hU).1 (fun h => h)).trans hU, hS.kept kgs, ⟨c5, kgs.trans hc5⟩⟩
  have HP := hide (packUnits_any B bb w.heap.size (w.heap.size + 1) (w.heap.size + 1 + 1) (w.heap.size + 1 + 1 + 1) gu cu gs cs en S L mp M vd0 ve0 D0 E0 _ ENV ((B4.block bb bl (fun h => h)).trans hbuf) (own_row_step hod B4.drew (fun _ _ h => h)) (own_row_step hoe B4.drew (fun _ _ h => h)) (Nat.le_trans hB U4.size) hgs
    (fun e => by have := (hoe.lt _ e.symm).2; omega) lie hen good hcs hcl hM hD hE hSl)
  have HU4 := hide U4
  clear hp1 hp2 hU hS hc5 hbuf hod hoe hgs lie good U4 B4 kgs ENV
  generalize cutRun S L en (limI mp) L.length 0 D0 E0 = F at *
  cases hF2 : F.2.2
  · go_enter Try.func22, Try.ntmps22
    go_wp2
    go_region_with (go_at_call 25; refine (unhide HP).mono ?_; rintro r w1 ⟨he, vd, ve, hb, hd, hoe, hu⟩; obtain ⟨a, rfl⟩ := he.of_no hF2)
    all_goals go_wp2
    all_goals go_ret
    all_goals exact ⟨ErrIs.no rfl a, vd, ve, hb, hd, hoe, (unhide HU4).drew.trans hu⟩
  · go_enter Try.func22, Try.ntmps22
    go_wp2
    go_region_with (go_at_call 25; refine (unhide HP).mono ?_; rintro r w1 ⟨he, vd, ve, hb, hd, hoe, hu⟩; obtain rfl := he.of_yes hF2)
    all_goals go_wp2
    all_goals go_ret
    all_goals exact ⟨ErrIs.yes rfl, vd, ve, hb, hd, hoe, (unhide HU4).drew.trans hu⟩
end Go.Proofs.Qxb6614154a
