import Derived.Test.Qxb6614154aZz
namespace Go.Proofs.Qxb6614154a
open Go.ChangeShapes Go.WideShapes Go.ChangeAt Go.RowKit
set_option linter.unusedSimpArgs false
set_option linter.unusedVariables false

theorem payl_zero_boxed (gu : Nat) (sv vd0 ve0 : Value) (hsv : sv = .slice none 0 0 ∨ ∃ a n c, sv = .slice (some a) n c) (en mp : Int) (w : World) (c : Array Value) (hc : c[2]? = some (.int .i64 en)) :
    Calls Try.prog 22 #[.pointer (some ⟨w.heap.size + 1, 0, none⟩), .pointer (some ⟨w.heap.size + 1 + 1, 0, none⟩), sv, .slice (some ⟨gu, 0, none⟩) 0 0, .int .i64 mp] (((w.alloc (.cells #[] 50)).alloc (.cells c 54)).alloc (.cells #[vd0, ve0] 57)) fun r w' =>
      r = .returned .nilIface ∧ w'.cell? ⟨w.heap.size + 1 + 1, 0, none⟩ = some vd0 ∧ w'.cell? ⟨w.heap.size + 1 + 1, 1, none⟩ = some ve0 ∧ Hid (Upd (fun _ => False) w w') := by
  have e1 : w.heap.size + 1 = (w.alloc (.cells #[] 50)).heap.size := by simp
  have e2 : w.heap.size + 1 + 1 = ((w.alloc (.cells #[] 50)).alloc (.cells c 54)).heap.size := by simp
  have hb : (((w.alloc (.cells #[] 50)).alloc (.cells c 54)).alloc (.cells #[vd0, ve0] 57)).heap[w.heap.size + 1 + 1]? = some (.cells #[vd0, ve0] 57 (0, 0)) := by rw [e2]; exact heap_alloc_new _ _
  have hp : (((w.alloc (.cells #[] 50)).alloc (.cells c 54)).alloc (.cells #[vd0, ve0] 57)).heap[w.heap.size + 1]? = some (.cells c 54 (0, 0)) := by
    rw [Below.heap_alloc _ _ _ (by simp)]
    rw [e1]; exact heap_alloc_new _ _
  refine (payloads_zero gu (w.heap.size + 1) (w.heap.size + 1 + 1) sv hsv en mp _ ⟨c, hp, hc⟩).mono ?_
  rintro r w' ⟨rfl, hg⟩
  have U : Upd (fun _ => False) w w' := ((((Upd.refl _ w).alloc _).alloc _).alloc _).trans ((Upd.of_grown hg).mono (fun k hk h => by simp at h))
  have hk := (hg.block (w.heap.size + 1 + 1) (by simp) (by simp)).trans hb
  exact ⟨rfl, Joins.cell_of_block hk 0, Joins.cell_of_block hk 1, hide U⟩

set_option maxRecDepth 8000 in
set_option maxHeartbeats 2000000 in
theorem zz_zero (B : Nat) (en mp : Int) (xd xe xs x1 x2 x3 x4 x5 x6 x7 : Option Addr) (cd ce ns cs c1 c2 c3 c4 c5 c6 c7 : Nat) (D0 E0 : List Int) (S : List Int) (e : Nat) (w : World) (hs : xs = none → ns = 0 ∧ cs = 0)
    (hod : w.ownsRow B 5 1 (.slice xd D0.length cd) D0.length (B8 D0)) (hoe : w.ownsRow B 3 1 (.slice xe E0.length ce) E0.length (I64 E0)) :
    Calls Try.prog 16 #[.int .i64 en, .slice xd D0.length cd, .slice xe E0.length ce, .slice xs ns cs, .slice x1 0 c1, .slice x2 0 c2, .slice x3 0 c3, .slice x4 0 c4, .slice x5 0 c5, .slice x6 0 c6, .slice x7 0 c7, .int .i64 mp] w (ZzPost B (cutRun S [] e (limI mp) ([] : List Un).length 0 D0 E0) (.slice xd D0.length cd) (.slice xe E0.length ce) w) := by
  have HOD := hide hod
  have HOE := hide hoe
  have hsv : (Value.slice xs ns cs = .slice none 0 0) ∨ ∃ a n c, Value.slice xs ns cs = .slice (some a) n c := by
    cases xs with
    | none => obtain ⟨rfl, rfl⟩ := hs rfl; exact .inl rfl
    | some a => exact .inr ⟨_, _, _, rfl⟩
  have HP := hide (fun (c : Array Value) (hc : c[2]? = some (.int .i64 en)) => payl_zero_boxed w.heap.size (.slice xs ns cs) (.slice xd D0.length cd) (.slice xe E0.length ce) hsv en mp w c hc)
  clear hod hoe hs hsv
  obtain ⟨i0, hi, hz0, hz1, hz2⟩ := info_parts info50
  have hmk : (Instr.makeSlice 46 (.int .i64 0) (.int .i64 0)).run Try.prog w = .ok (.slice (some ⟨w.heap.size, 0, none⟩) 0 0) (w.alloc (.cells #[] 50)) := by
    have h := run_make (P := Try.prog) (w := w) 46 50 i0 _ Try.underlying46 hi hz0 .i64 .i64 0 0 (by omega) (by omega) (by simp) (by omega)
    rw [show madeCells (Value.agg #[.int .i64 0, .int .u8 0, .int .u8 0, .bool false, .bool false, .int .u8 0, .int .u8 0, .int .u8 0, .int .i8 0, .int .i8 0]).cells (Int.toNat 0 * i0.size) = #[] from Array.eq_empty_of_size_eq_zero (by simp [madeCells])] at h
    exact h
  clear hi hz0 hz1 hz2
  go_enter Try.func16, Try.ntmps16
  go_wp2
  go_loop [37] (fun i => i = .int .i64 0) (fun _ => 0)
  case atStart => rfl
  case round =>
  subst hrel
  go_wp2_with (go_at_call 22; refine (unhide HP _ (by rfl)).mono ?_; rintro r w1 ⟨rfl, hc0, hc1, HG⟩)
  go_quiet (fail)
  all_goals go_wp2
  all_goals go_ret3
  all_goals
    have U := unhide HG
    exact ⟨_, _, _, rfl, ErrIs.yes rfl, own_row_step (unhide HOD) (U.drewN _) (fun _ _ h => h), own_row_step (unhide HOE) (U.drewN _) (fun _ _ h => h), (U.mono (fun _ _ h => h.elim)).drewN _⟩
end Go.Proofs.Qxb6614154a
