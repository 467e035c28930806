/-
  The law 'same into a used buffer': its walk.
-/
import Derived.Test.Qxb6614154aTl
import Derived.Deep.CutRange
import Derived.Deep.DeepCutAuto
namespace Go.Proofs.Qxb6614154a
open Go.ChangeShapes Go.WideShapes Go.ChangeAt Go.RowKit
set_option linter.unusedSimpArgs false
set_option linter.unusedVariables false
def TrueP (w : World) (r : Ending) (w' : World) : Prop := r = .returned (.bool true) ∧ Upd (fun _ => False) w w'
theorem TrueP.mk {w w' : World} (h : Upd (fun _ => False) w w') : TrueP w (.returned (.bool true)) w' := ⟨rfl, h⟩
theorem InV.form {w : World} {v : Value} {vs : List Value} (h : InV w v vs) : ∃ x c, v = .slice x vs.length c := by
  rcases h with ⟨rfl, rfl⟩ | ⟨x, c, h, _⟩
  · exact ⟨none, 0, rfl⟩
  · exact ⟨some x, c, h⟩
theorem upd_new {w w2 : World} {o : Obj} (h : Upd (fun k => k = w.heap.size) (w.alloc o) w2) : Upd (fun _ => False) w w2 :=
  ⟨h.os, h.tape, h.output, by have := h.size; simp at this; omega, fun k hk _ => (h.block k (by simp; omega) (by omega)).trans (Below.heap_alloc w o k hk)⟩
theorem own_slice2 {w : World} {B : Nat} {e : TypeId} {v : Value} {n : Nat} {xs : List Value} (h : w.ownsRow B e 1 v n xs) : ∃ x c m, v = .slice x m c ∧ Hid (m = n) := by
  obtain ⟨x, c, h⟩ := own_slice h
  exact ⟨x, c, n, h, rfl⟩

set_option maxRecDepth 20000 in
set_option maxHeartbeats 8000000 in
theorem law6_walk (en mp : Int) (v1 v2 v3 v4 v5 v6 v7 v8 v9 v10 : Value) (V1 V2 V3 V4 V5 V6 V7 V8 V9 V10 : List Value) (D0 E0 S A G Mb Q H V : List Int) (I : List Bool) (w : World)
    (E1 : Hid (V1 = B8 D0)) (E2 : Hid (V2 = I64 E0)) (E3 : Hid (V3 = B8 S)) (E4 : Hid (V4 = I64 A)) (E5 : Hid (V5 = B8 G)) (E6 : Hid (V6 = B8 Mb)) (E7 : Hid (V7 = B8 Q)) (E8 : Hid (V8 = I8 H)) (E9 : Hid (V9 = I8 V)) (E10 : Hid (V10 = Bo I)) (GOOD : Hid (∀ k, k < A.length → 0 ≤ G.getD k 0 ∧ 0 ≤ Mb.getD k 0 ∧ 0 ≤ Q.getD k 0))
    (h1 : InV w v1 V1) (h2 : InV w v2 V2) (h3 : InV w v3 V3) (o3 : ∀ u ∈ V3, u.oneCell' = true) (h4 : InV w v4 V4) (o4 : ∀ u ∈ V4, u.oneCell' = true) (h5 : InV w v5 V5) (o5 : ∀ u ∈ V5, u.oneCell' = true) (h6 : InV w v6 V6) (o6 : ∀ u ∈ V6, u.oneCell' = true) (h7 : InV w v7 V7) (o7 : ∀ u ∈ V7, u.oneCell' = true) (h8 : InV w v8 V8) (o8 : ∀ u ∈ V8, u.oneCell' = true) (h9 : InV w v9 V9) (o9 : ∀ u ∈ V9, u.oneCell' = true) (h10 : InV w v10 V10) (o10 : ∀ u ∈ V10, u.oneCell' = true) :
    Calls Try.prog 6 #[.int .i64 en, v1, v2, v3, v4, v5, v6, v7, v8, v9, v10, .int .i64 mp] w (TrueP w) := by
  obtain ⟨x1, c1, rfl⟩ := h1.form
  obtain ⟨x2, c2, rfl⟩ := h2.form
  obtain ⟨x3, c3, rfl⟩ := h3.form
  obtain ⟨x4, c4, rfl⟩ := h4.form
  obtain ⟨x5, c5, rfl⟩ := h5.form
  obtain ⟨x6, c6, rfl⟩ := h6.form
  obtain ⟨x7, c7, rfl⟩ := h7.form
  obtain ⟨x8, c8, rfl⟩ := h8.form
  obtain ⟨x9, c9, rfl⟩ := h9.form
  obtain ⟨x10, c10, rfl⟩ := h10.form
  have HZ := hide (fun W => zb20 en mp x1 x2 x3 x4 x5 x6 x7 x8 x9 x10 V1.length V2.length V3.length V4.length V5.length V6.length V7.length V8.length V9.length V10.length c1 c2 c3 c4 c5 c6 c7 c8 c9 c10 W)
  have H1 := hide h1
  have H2 := hide h2
  have H3 := hide h3
  have H4 := hide h4
  have H5 := hide h5
  have H6 := hide h6
  have H7 := hide h7
  have H8 := hide h8
  have H9 := hide h9
  have H10 := hide h10
  have O3 := hide o3
  have O4 := hide o4
  have O5 := hide o5
  have O6 := hide o6
  have O7 := hide o7
  have O8 := hide o8
  have O9 := hide o9
  have O10 := hide o10
  clear h1 h2 h3 h4 h5 h6 h7 h8 h9 h10 o3 o4 o5 o6 o7 o8 o9 o10
  have qn22 : ∀ (w : World) (a : Option Addr) (n c n' c' : Nat), (binOp .neq 22 (.slice a n c) (.slice none n' c')).run Try.prog w = .ok (.bool (!a.isNone)) w := fun w a n c n' c' => run_neq_slice_nil_any w _ _ a n c n' c' Try.underlying22
  have qn29 : ∀ (w : World) (a : Option Addr) (n c n' c' : Nat), (binOp .neq 29 (.slice a n c) (.slice none n' c')).run Try.prog w = .ok (.bool (!a.isNone)) w := fun w a n c n' c' => run_neq_slice_nil_any w _ _ a n c n' c' Try.underlying29
  have qn30 : ∀ (w : World) (a : Option Addr) (n c n' c' : Nat), (binOp .neq 30 (.slice a n c) (.slice none n' c')).run Try.prog w = .ok (.bool (!a.isNone)) w := fun w a n c n' c' => run_neq_slice_nil_any w _ _ a n c n' c' Try.underlying30
  have qn31 : ∀ (w : World) (a : Option Addr) (n c n' c' : Nat), (binOp .neq 31 (.slice a n c) (.slice none n' c')).run Try.prog w = .ok (.bool (!a.isNone)) w := fun w a n c n' c' => run_neq_slice_nil_any w _ _ a n c n' c' Try.underlying31
  go_enter Try.func6, Try.ntmps6
  go_upto_if 96 with (go_at_call 20; refine (unhide HZ _).mono ?_; rintro r w1 ⟨b, rfl, hw⟩; have hw' := hw.symm; clear hw; subst hw'; cases b)
  all_goals try (go_ret; exact TrueP.mk (Upd.refl _ _))
  have U2 : Hid (Upd (fun _ => False) w w) := hide (Upd.refl _ _)
  go_cut [3] from 1 to 0 (fun v wx => Hid (wx.ownsRow w.heap.size 5 1 v V3.length V3 ∧ Upd (fun _ => False) w wx ∧ ∀ x n c, v = Value.slice x n c → c = n))
  case first => as_aux_lemma =>
    rcases unhide H3 with ⟨h, h0⟩ | ⟨x, c, h, hc, hx⟩
    · obtain ⟨rfl, h01, rfl⟩ : x3 = none ∧ V3.length = 0 ∧ c3 = 0 := by simpa using h
      have HR : Hid (w.ownsRow w.heap.size 5 1 (.slice none V3.length 0) V3.length V3 ∧ Upd (fun _ => False) w w ∧ ∀ x n c, Value.slice none V3.length 0 = Value.slice x n c → c = n) := hide ⟨⟨by omega, .inl ⟨by rw [h01], h01⟩⟩, Upd.refl _ _, fun x n c e => by simp at e; omega⟩
      go_wp2
      go_meet
      case rel => exact HR
    · obtain ⟨rfl, rfl⟩ : x3 = some x ∧ c3 = c := by simpa using h
      obtain ⟨i0, hi, hz0, hz1, hz2⟩ := info_parts info5
      have HX : Hid (∀ j u, V3[j]? = some u → (w.alloc (.cells (Array.replicate V3.length (Value.int .u8 0)) 5)).cell? (x.add j) = some u) := hide (fun j u hj => cell_upd ((unhide U2).alloc _) (hx j u hj))
      clear h hx
      obtain ⟨w2, hcp, hb2, hu2⟩ := run_copy_new (P := Try.prog) (w.alloc (.cells (Array.replicate V3.length (Value.int .u8 0)) 5)) 22 22 3 5 Try.underlying22 size5 w.heap.size V3.length V3.length x c3 V3 (Array.replicate V3.length (Value.int .u8 0)) rfl (by simp) (heap_alloc_new _ _) (unhide HX) (unhide O3)
      have HB2 := hide hb2
      have HU2 := hide hu2
      clear hb2 hu2 HX
      go_wp2_with (at_make; refine wpList_make_alloc _ rfl (.tmp 98) (.tmp 98) 22 rfl 5 i0 _ 1 Try.underlying22 hi hz0 hz1 .i64 .i64 V3.length rfl rfl (by rw [hz2]; omega) (by unfold maxLen; omega) (List.replicate V3.length (Value.int .u8 0)) (by rw [Nat.mul_one]; exact toList_madeCells_one _ _) ?_)
      go_meet
      case rel => exact hide ⟨own_new (unhide U2).size rfl (by unfold maxLen; omega) (unhide HB2), upd_new (unhide HU2), fun x n c e => by simp at e; omega⟩
  as_aux_lemma =>
  obtain ⟨w3, hwc⟩ : ∃ x, x = wc := ⟨_, rfl⟩
  subst hwc
  obtain ⟨y3, d3, rfl⟩ := own_slice (unhide hcut).1
  have R3 := hcut
  have k3 : Hid (d3 = V3.length) := hide ((unhide hcut).2.2 _ _ _ rfl)
  have U3 : Hid (Upd (fun _ => False) w w3) := hide ((unhide U2).trans (unhide hcut).2.1)
  clear hcut
  go_upto_if 105 with fail
  go_cut [4] from 1 to 0 (fun v wx => Hid (wx.ownsRow w.heap.size 3 1 v V4.length V4 ∧ Upd (fun _ => False) w3 wx ∧ ∀ x n c, v = Value.slice x n c → c = n))
  case first => as_aux_lemma =>
    rcases unhide H4 with ⟨h, h0⟩ | ⟨x, c, h, hc, hx⟩
    · obtain ⟨rfl, h01, rfl⟩ : x4 = none ∧ V4.length = 0 ∧ c4 = 0 := by simpa using h
      have HR : Hid (w3.ownsRow w.heap.size 3 1 (.slice none V4.length 0) V4.length V4 ∧ Upd (fun _ => False) w3 w3 ∧ ∀ x n c, Value.slice none V4.length 0 = Value.slice x n c → c = n) := hide ⟨⟨by omega, .inl ⟨by rw [h01], h01⟩⟩, Upd.refl _ _, fun x n c e => by simp at e; omega⟩
      go_wp2
      go_meet
      case rel => exact HR
    · obtain ⟨rfl, rfl⟩ : x4 = some x ∧ c4 = c := by simpa using h
      obtain ⟨i0, hi, hz0, hz1, hz2⟩ := info_parts info3
      have HX : Hid (∀ j u, V4[j]? = some u → (w3.alloc (.cells (Array.replicate V4.length (Value.int .i64 0)) 3)).cell? (x.add j) = some u) := hide (fun j u hj => cell_upd ((unhide U3).alloc _) (hx j u hj))
      clear h hx
      obtain ⟨w2, hcp, hb2, hu2⟩ := run_copy_new (P := Try.prog) (w3.alloc (.cells (Array.replicate V4.length (Value.int .i64 0)) 3)) 29 29 3 3 Try.underlying29 size3 w3.heap.size V4.length V4.length x c4 V4 (Array.replicate V4.length (Value.int .i64 0)) rfl (by simp) (heap_alloc_new _ _) (unhide HX) (unhide O4)
      have HB2 := hide hb2
      have HU2 := hide hu2
      clear hb2 hu2 HX
      go_wp2_with (at_make; refine wpList_make_alloc _ rfl (.tmp 107) (.tmp 107) 29 rfl 3 i0 _ 1 Try.underlying29 hi hz0 hz1 .i64 .i64 V4.length rfl rfl (by rw [hz2]; omega) (by unfold maxLen; omega) (List.replicate V4.length (Value.int .i64 0)) (by rw [Nat.mul_one]; exact toList_madeCells_one _ _) ?_)
      go_meet
      case rel => exact hide ⟨own_new (unhide U3).size rfl (by unfold maxLen; omega) (unhide HB2), upd_new (unhide HU2), fun x n c e => by simp at e; omega⟩
  as_aux_lemma =>
  obtain ⟨w4, hwc⟩ : ∃ x, x = wc := ⟨_, rfl⟩
  subst hwc
  obtain ⟨y4, d4, rfl⟩ := own_slice (unhide hcut).1
  have R4 := hcut
  have k4 : Hid (d4 = V4.length) := hide ((unhide hcut).2.2 _ _ _ rfl)
  have U4 : Hid (Upd (fun _ => False) w w4) := hide ((unhide U3).trans (unhide hcut).2.1)
  clear hcut
  go_upto_if 114 with fail
  go_cut [5] from 1 to 0 (fun v wx => Hid (wx.ownsRow w.heap.size 5 1 v V5.length V5 ∧ Upd (fun _ => False) w4 wx ∧ ∀ x n c, v = Value.slice x n c → c = n))
  case first => as_aux_lemma =>
    rcases unhide H5 with ⟨h, h0⟩ | ⟨x, c, h, hc, hx⟩
    · obtain ⟨rfl, h01, rfl⟩ : x5 = none ∧ V5.length = 0 ∧ c5 = 0 := by simpa using h
      have HR : Hid (w4.ownsRow w.heap.size 5 1 (.slice none V5.length 0) V5.length V5 ∧ Upd (fun _ => False) w4 w4 ∧ ∀ x n c, Value.slice none V5.length 0 = Value.slice x n c → c = n) := hide ⟨⟨by omega, .inl ⟨by rw [h01], h01⟩⟩, Upd.refl _ _, fun x n c e => by simp at e; omega⟩
      go_wp2
      go_meet
      case rel => exact HR
    · obtain ⟨rfl, rfl⟩ : x5 = some x ∧ c5 = c := by simpa using h
      obtain ⟨i0, hi, hz0, hz1, hz2⟩ := info_parts info5
      have HX : Hid (∀ j u, V5[j]? = some u → (w4.alloc (.cells (Array.replicate V5.length (Value.int .u8 0)) 5)).cell? (x.add j) = some u) := hide (fun j u hj => cell_upd ((unhide U4).alloc _) (hx j u hj))
      clear h hx
      obtain ⟨w2, hcp, hb2, hu2⟩ := run_copy_new (P := Try.prog) (w4.alloc (.cells (Array.replicate V5.length (Value.int .u8 0)) 5)) 22 22 3 5 Try.underlying22 size5 w4.heap.size V5.length V5.length x c5 V5 (Array.replicate V5.length (Value.int .u8 0)) rfl (by simp) (heap_alloc_new _ _) (unhide HX) (unhide O5)
      have HB2 := hide hb2
      have HU2 := hide hu2
      clear hb2 hu2 HX
      go_wp2_with (at_make; refine wpList_make_alloc _ rfl (.tmp 116) (.tmp 116) 22 rfl 5 i0 _ 1 Try.underlying22 hi hz0 hz1 .i64 .i64 V5.length rfl rfl (by rw [hz2]; omega) (by unfold maxLen; omega) (List.replicate V5.length (Value.int .u8 0)) (by rw [Nat.mul_one]; exact toList_madeCells_one _ _) ?_)
      go_meet
      case rel => exact hide ⟨own_new (unhide U4).size rfl (by unfold maxLen; omega) (unhide HB2), upd_new (unhide HU2), fun x n c e => by simp at e; omega⟩
  as_aux_lemma =>
  obtain ⟨w5, hwc⟩ : ∃ x, x = wc := ⟨_, rfl⟩
  subst hwc
  obtain ⟨y5, d5, rfl⟩ := own_slice (unhide hcut).1
  have R5 := hcut
  have k5 : Hid (d5 = V5.length) := hide ((unhide hcut).2.2 _ _ _ rfl)
  have U5 : Hid (Upd (fun _ => False) w w5) := hide ((unhide U4).trans (unhide hcut).2.1)
  clear hcut
  go_upto_if 123 with fail
  go_cut [6] from 1 to 0 (fun v wx => Hid (wx.ownsRow w.heap.size 5 1 v V6.length V6 ∧ Upd (fun _ => False) w5 wx ∧ ∀ x n c, v = Value.slice x n c → c = n))
  case first => as_aux_lemma =>
    rcases unhide H6 with ⟨h, h0⟩ | ⟨x, c, h, hc, hx⟩
    · obtain ⟨rfl, h01, rfl⟩ : x6 = none ∧ V6.length = 0 ∧ c6 = 0 := by simpa using h
      have HR : Hid (w5.ownsRow w.heap.size 5 1 (.slice none V6.length 0) V6.length V6 ∧ Upd (fun _ => False) w5 w5 ∧ ∀ x n c, Value.slice none V6.length 0 = Value.slice x n c → c = n) := hide ⟨⟨by omega, .inl ⟨by rw [h01], h01⟩⟩, Upd.refl _ _, fun x n c e => by simp at e; omega⟩
      go_wp2
      go_meet
      case rel => exact HR
    · obtain ⟨rfl, rfl⟩ : x6 = some x ∧ c6 = c := by simpa using h
      obtain ⟨i0, hi, hz0, hz1, hz2⟩ := info_parts info5
      have HX : Hid (∀ j u, V6[j]? = some u → (w5.alloc (.cells (Array.replicate V6.length (Value.int .u8 0)) 5)).cell? (x.add j) = some u) := hide (fun j u hj => cell_upd ((unhide U5).alloc _) (hx j u hj))
      clear h hx
      obtain ⟨w2, hcp, hb2, hu2⟩ := run_copy_new (P := Try.prog) (w5.alloc (.cells (Array.replicate V6.length (Value.int .u8 0)) 5)) 22 22 3 5 Try.underlying22 size5 w5.heap.size V6.length V6.length x c6 V6 (Array.replicate V6.length (Value.int .u8 0)) rfl (by simp) (heap_alloc_new _ _) (unhide HX) (unhide O6)
      have HB2 := hide hb2
      have HU2 := hide hu2
      clear hb2 hu2 HX
      go_wp2_with (at_make; refine wpList_make_alloc _ rfl (.tmp 125) (.tmp 125) 22 rfl 5 i0 _ 1 Try.underlying22 hi hz0 hz1 .i64 .i64 V6.length rfl rfl (by rw [hz2]; omega) (by unfold maxLen; omega) (List.replicate V6.length (Value.int .u8 0)) (by rw [Nat.mul_one]; exact toList_madeCells_one _ _) ?_)
      go_meet
      case rel => exact hide ⟨own_new (unhide U5).size rfl (by unfold maxLen; omega) (unhide HB2), upd_new (unhide HU2), fun x n c e => by simp at e; omega⟩
  as_aux_lemma =>
  obtain ⟨w6, hwc⟩ : ∃ x, x = wc := ⟨_, rfl⟩
  subst hwc
  obtain ⟨y6, d6, rfl⟩ := own_slice (unhide hcut).1
  have R6 := hcut
  have k6 : Hid (d6 = V6.length) := hide ((unhide hcut).2.2 _ _ _ rfl)
  have U6 : Hid (Upd (fun _ => False) w w6) := hide ((unhide U5).trans (unhide hcut).2.1)
  clear hcut
  go_upto_if 132 with fail
  go_cut [7] from 1 to 0 (fun v wx => Hid (wx.ownsRow w.heap.size 5 1 v V7.length V7 ∧ Upd (fun _ => False) w6 wx ∧ ∀ x n c, v = Value.slice x n c → c = n))
  case first => as_aux_lemma =>
    rcases unhide H7 with ⟨h, h0⟩ | ⟨x, c, h, hc, hx⟩
    · obtain ⟨rfl, h01, rfl⟩ : x7 = none ∧ V7.length = 0 ∧ c7 = 0 := by simpa using h
      have HR : Hid (w6.ownsRow w.heap.size 5 1 (.slice none V7.length 0) V7.length V7 ∧ Upd (fun _ => False) w6 w6 ∧ ∀ x n c, Value.slice none V7.length 0 = Value.slice x n c → c = n) := hide ⟨⟨by omega, .inl ⟨by rw [h01], h01⟩⟩, Upd.refl _ _, fun x n c e => by simp at e; omega⟩
      go_wp2
      go_meet
      case rel => exact HR
    · obtain ⟨rfl, rfl⟩ : x7 = some x ∧ c7 = c := by simpa using h
      obtain ⟨i0, hi, hz0, hz1, hz2⟩ := info_parts info5
      have HX : Hid (∀ j u, V7[j]? = some u → (w6.alloc (.cells (Array.replicate V7.length (Value.int .u8 0)) 5)).cell? (x.add j) = some u) := hide (fun j u hj => cell_upd ((unhide U6).alloc _) (hx j u hj))
      clear h hx
      obtain ⟨w2, hcp, hb2, hu2⟩ := run_copy_new (P := Try.prog) (w6.alloc (.cells (Array.replicate V7.length (Value.int .u8 0)) 5)) 22 22 3 5 Try.underlying22 size5 w6.heap.size V7.length V7.length x c7 V7 (Array.replicate V7.length (Value.int .u8 0)) rfl (by simp) (heap_alloc_new _ _) (unhide HX) (unhide O7)
      have HB2 := hide hb2
      have HU2 := hide hu2
      clear hb2 hu2 HX
      go_wp2_with (at_make; refine wpList_make_alloc _ rfl (.tmp 134) (.tmp 134) 22 rfl 5 i0 _ 1 Try.underlying22 hi hz0 hz1 .i64 .i64 V7.length rfl rfl (by rw [hz2]; omega) (by unfold maxLen; omega) (List.replicate V7.length (Value.int .u8 0)) (by rw [Nat.mul_one]; exact toList_madeCells_one _ _) ?_)
      go_meet
      case rel => exact hide ⟨own_new (unhide U6).size rfl (by unfold maxLen; omega) (unhide HB2), upd_new (unhide HU2), fun x n c e => by simp at e; omega⟩
  as_aux_lemma =>
  obtain ⟨w7, hwc⟩ : ∃ x, x = wc := ⟨_, rfl⟩
  subst hwc
  obtain ⟨y7, d7, rfl⟩ := own_slice (unhide hcut).1
  have R7 := hcut
  have k7 : Hid (d7 = V7.length) := hide ((unhide hcut).2.2 _ _ _ rfl)
  have U7 : Hid (Upd (fun _ => False) w w7) := hide ((unhide U6).trans (unhide hcut).2.1)
  clear hcut
  go_upto_if 141 with fail
  go_cut [8] from 1 to 0 (fun v wx => Hid (wx.ownsRow w.heap.size 41 1 v V8.length V8 ∧ Upd (fun _ => False) w7 wx ∧ ∀ x n c, v = Value.slice x n c → c = n))
  case first => as_aux_lemma =>
    rcases unhide H8 with ⟨h, h0⟩ | ⟨x, c, h, hc, hx⟩
    · obtain ⟨rfl, h01, rfl⟩ : x8 = none ∧ V8.length = 0 ∧ c8 = 0 := by simpa using h
      have HR : Hid (w7.ownsRow w.heap.size 41 1 (.slice none V8.length 0) V8.length V8 ∧ Upd (fun _ => False) w7 w7 ∧ ∀ x n c, Value.slice none V8.length 0 = Value.slice x n c → c = n) := hide ⟨⟨by omega, .inl ⟨by rw [h01], h01⟩⟩, Upd.refl _ _, fun x n c e => by simp at e; omega⟩
      go_wp2
      go_meet
      case rel => exact HR
    · obtain ⟨rfl, rfl⟩ : x8 = some x ∧ c8 = c := by simpa using h
      obtain ⟨i0, hi, hz0, hz1, hz2⟩ := info_parts info41
      have HX : Hid (∀ j u, V8[j]? = some u → (w7.alloc (.cells (Array.replicate V8.length (Value.int .i8 0)) 41)).cell? (x.add j) = some u) := hide (fun j u hj => cell_upd ((unhide U7).alloc _) (hx j u hj))
      clear h hx
      obtain ⟨w2, hcp, hb2, hu2⟩ := run_copy_new (P := Try.prog) (w7.alloc (.cells (Array.replicate V8.length (Value.int .i8 0)) 41)) 30 30 3 41 Try.underlying30 size41 w7.heap.size V8.length V8.length x c8 V8 (Array.replicate V8.length (Value.int .i8 0)) rfl (by simp) (heap_alloc_new _ _) (unhide HX) (unhide O8)
      have HB2 := hide hb2
      have HU2 := hide hu2
      clear hb2 hu2 HX
      go_wp2_with (at_make; refine wpList_make_alloc _ rfl (.tmp 143) (.tmp 143) 30 rfl 41 i0 _ 1 Try.underlying30 hi hz0 hz1 .i64 .i64 V8.length rfl rfl (by rw [hz2]; omega) (by unfold maxLen; omega) (List.replicate V8.length (Value.int .i8 0)) (by rw [Nat.mul_one]; exact toList_madeCells_one _ _) ?_)
      go_meet
      case rel => exact hide ⟨own_new (unhide U7).size rfl (by unfold maxLen; omega) (unhide HB2), upd_new (unhide HU2), fun x n c e => by simp at e; omega⟩
  as_aux_lemma =>
  obtain ⟨w8, hwc⟩ : ∃ x, x = wc := ⟨_, rfl⟩
  subst hwc
  obtain ⟨y8, d8, rfl⟩ := own_slice (unhide hcut).1
  have R8 := hcut
  have k8 : Hid (d8 = V8.length) := hide ((unhide hcut).2.2 _ _ _ rfl)
  have U8 : Hid (Upd (fun _ => False) w w8) := hide ((unhide U7).trans (unhide hcut).2.1)
  clear hcut
  go_upto_if 150 with fail
  go_cut [9] from 1 to 0 (fun v wx => Hid (wx.ownsRow w.heap.size 41 1 v V9.length V9 ∧ Upd (fun _ => False) w8 wx ∧ ∀ x n c, v = Value.slice x n c → c = n))
  case first => as_aux_lemma =>
    rcases unhide H9 with ⟨h, h0⟩ | ⟨x, c, h, hc, hx⟩
    · obtain ⟨rfl, h01, rfl⟩ : x9 = none ∧ V9.length = 0 ∧ c9 = 0 := by simpa using h
      have HR : Hid (w8.ownsRow w.heap.size 41 1 (.slice none V9.length 0) V9.length V9 ∧ Upd (fun _ => False) w8 w8 ∧ ∀ x n c, Value.slice none V9.length 0 = Value.slice x n c → c = n) := hide ⟨⟨by omega, .inl ⟨by rw [h01], h01⟩⟩, Upd.refl _ _, fun x n c e => by simp at e; omega⟩
      go_wp2
      go_meet
      case rel => exact HR
    · obtain ⟨rfl, rfl⟩ : x9 = some x ∧ c9 = c := by simpa using h
      obtain ⟨i0, hi, hz0, hz1, hz2⟩ := info_parts info41
      have HX : Hid (∀ j u, V9[j]? = some u → (w8.alloc (.cells (Array.replicate V9.length (Value.int .i8 0)) 41)).cell? (x.add j) = some u) := hide (fun j u hj => cell_upd ((unhide U8).alloc _) (hx j u hj))
      clear h hx
      obtain ⟨w2, hcp, hb2, hu2⟩ := run_copy_new (P := Try.prog) (w8.alloc (.cells (Array.replicate V9.length (Value.int .i8 0)) 41)) 30 30 3 41 Try.underlying30 size41 w8.heap.size V9.length V9.length x c9 V9 (Array.replicate V9.length (Value.int .i8 0)) rfl (by simp) (heap_alloc_new _ _) (unhide HX) (unhide O9)
      have HB2 := hide hb2
      have HU2 := hide hu2
      clear hb2 hu2 HX
      go_wp2_with (at_make; refine wpList_make_alloc _ rfl (.tmp 152) (.tmp 152) 30 rfl 41 i0 _ 1 Try.underlying30 hi hz0 hz1 .i64 .i64 V9.length rfl rfl (by rw [hz2]; omega) (by unfold maxLen; omega) (List.replicate V9.length (Value.int .i8 0)) (by rw [Nat.mul_one]; exact toList_madeCells_one _ _) ?_)
      go_meet
      case rel => exact hide ⟨own_new (unhide U8).size rfl (by unfold maxLen; omega) (unhide HB2), upd_new (unhide HU2), fun x n c e => by simp at e; omega⟩
  as_aux_lemma =>
  obtain ⟨w9, hwc⟩ : ∃ x, x = wc := ⟨_, rfl⟩
  subst hwc
  obtain ⟨y9, d9, rfl⟩ := own_slice (unhide hcut).1
  have R9 := hcut
  have k9 : Hid (d9 = V9.length) := hide ((unhide hcut).2.2 _ _ _ rfl)
  have U9 : Hid (Upd (fun _ => False) w w9) := hide ((unhide U8).trans (unhide hcut).2.1)
  clear hcut
  go_upto_if 159 with fail
  go_cut [10] from 1 to 0 (fun v wx => Hid (wx.ownsRow w.heap.size 4 1 v V10.length V10 ∧ Upd (fun _ => False) w9 wx ∧ ∀ x n c, v = Value.slice x n c → c = n))
  case first => as_aux_lemma =>
    rcases unhide H10 with ⟨h, h0⟩ | ⟨x, c, h, hc, hx⟩
    · obtain ⟨rfl, h01, rfl⟩ : x10 = none ∧ V10.length = 0 ∧ c10 = 0 := by simpa using h
      have HR : Hid (w9.ownsRow w.heap.size 4 1 (.slice none V10.length 0) V10.length V10 ∧ Upd (fun _ => False) w9 w9 ∧ ∀ x n c, Value.slice none V10.length 0 = Value.slice x n c → c = n) := hide ⟨⟨by omega, .inl ⟨by rw [h01], h01⟩⟩, Upd.refl _ _, fun x n c e => by simp at e; omega⟩
      go_wp2
      go_meet
      case rel => exact HR
    · obtain ⟨rfl, rfl⟩ : x10 = some x ∧ c10 = c := by simpa using h
      obtain ⟨i0, hi, hz0, hz1, hz2⟩ := info_parts info4
      have HX : Hid (∀ j u, V10[j]? = some u → (w9.alloc (.cells (Array.replicate V10.length (Value.bool false)) 4)).cell? (x.add j) = some u) := hide (fun j u hj => cell_upd ((unhide U9).alloc _) (hx j u hj))
      clear h hx
      obtain ⟨w2, hcp, hb2, hu2⟩ := run_copy_new (P := Try.prog) (w9.alloc (.cells (Array.replicate V10.length (Value.bool false)) 4)) 31 31 3 4 Try.underlying31 size4 w9.heap.size V10.length V10.length x c10 V10 (Array.replicate V10.length (Value.bool false)) rfl (by simp) (heap_alloc_new _ _) (unhide HX) (unhide O10)
      have HB2 := hide hb2
      have HU2 := hide hu2
      clear hb2 hu2 HX
      go_wp2_with (at_make; refine wpList_make_alloc _ rfl (.tmp 161) (.tmp 161) 31 rfl 4 i0 _ 1 Try.underlying31 hi hz0 hz1 .i64 .i64 V10.length rfl rfl (by rw [hz2]; omega) (by unfold maxLen; omega) (List.replicate V10.length (Value.bool false)) (by rw [Nat.mul_one]; exact toList_madeCells_one _ _) ?_)
      go_meet
      case rel => exact hide ⟨own_new (unhide U9).size rfl (by unfold maxLen; omega) (unhide HB2), upd_new (unhide HU2), fun x n c e => by simp at e; omega⟩
  as_aux_lemma =>
  obtain ⟨w10, hwc⟩ : ∃ x, x = wc := ⟨_, rfl⟩
  subst hwc
  obtain ⟨y10, d10, rfl⟩ := own_slice (unhide hcut).1
  have R10 := hcut
  have k10 : Hid (d10 = V10.length) := hide ((unhide hcut).2.2 _ _ _ rfl)
  have U10 : Hid (Upd (fun _ => False) w w10) := hide ((unhide U9).trans (unhide hcut).2.1)
  clear hcut
  by_cases hq : V5.length = V4.length ∧ V6.length = V4.length ∧ V7.length = V4.length ∧ V8.length = V4.length ∧ V9.length = V4.length ∧ V10.length = V4.length
  rotate_left
  · as_aux_lemma =>
    go_upto_if 202 with fail
    all_goals first
      | (exfalso; omega)
      | (go_wp2; go_ret; exact TrueP.mk (unhide U10))
  as_aux_lemma =>
  obtain ⟨q5, q6, q7, q8, q9, q10⟩ := hq
  have l1 : V1.length = D0.length := by rw [unhide E1, B8_len]
  have l2 : V2.length = E0.length := by rw [unhide E2, I64_len]
  have l3 : V3.length = S.length := by rw [unhide E3, B8_len]
  have l4 : V4.length = A.length := by rw [unhide E4, I64_len]
  have b1 : D0.length ≤ 65536 := by omega
  have b2 : E0.length ≤ 8192 := by omega
  have b3 : S.length ≤ 262144 := by omega
  have b4 : A.length ≤ 8192 := by omega
  have b5 : d3 ≤ 1099511627776 := by have := unhide k3; omega
  clear k3 k4 k5 k6 k7 k8 k9 k10
  have T10 : Upd (fun _ => False) w10 w10 := Upd.refl _ _
  have T9 := (unhide R10).2.1.trans T10
  have T8 := (unhide R9).2.1.trans T9
  have T7 := (unhide R8).2.1.trans T8
  have T6 := (unhide R7).2.1.trans T7
  have T5 := (unhide R6).2.1.trans T6
  have T4 := (unhide R5).2.1.trans T5
  have T3 := (unhide R4).2.1.trans T4
  have RR : Rows8 w10 w.heap.size S A G Mb Q H V I (.slice y3 S.length d3) (.slice y4 A.length d4) (.slice y5 A.length d5) (.slice y6 A.length d6) (.slice y7 A.length d7) (.slice y8 A.length d8) (.slice y9 A.length d9) (.slice y10 A.length d10) :=
    ⟨by have h := own_row_step (unhide R3).1 T3 (fun _ _ h => h); rw [l3, unhide E3] at h; exact h,
     by have h := own_row_step (unhide R4).1 T4 (fun _ _ h => h); rw [l4, unhide E4] at h; exact h,
     by have h := own_row_step (unhide R5).1 T5 (fun _ _ h => h); rw [q5, l4, unhide E5] at h; exact h,
     by have h := own_row_step (unhide R6).1 T6 (fun _ _ h => h); rw [q6, l4, unhide E6] at h; exact h,
     by have h := own_row_step (unhide R7).1 T7 (fun _ _ h => h); rw [q7, l4, unhide E7] at h; exact h,
     by have h := own_row_step (unhide R8).1 T8 (fun _ _ h => h); rw [q8, l4, unhide E8] at h; exact h,
     by have h := own_row_step (unhide R9).1 T9 (fun _ _ h => h); rw [q9, l4, unhide E9] at h; exact h,
     by have h := own_row_step (unhide R10).1 T10 (fun _ _ h => h); rw [q10, l4, unhide E10] at h; exact h⟩
  have H13 := hide (units_both w.heap.size en S A G Mb Q H V I _ _ _ _ _ _ _ _ w10 RR b3 b4)
  have HRR := hide RR
  have HI1 : Hid (InV w (.slice x1 D0.length c1) (B8 D0)) := by have h := unhide H1; rw [l1, unhide E1] at h; exact h
  have HI2 : Hid (InV w (.slice x2 E0.length c2) (I64 E0)) := by have h := unhide H2; rw [l2, unhide E2] at h; exact h
  clear RR T10 T9 T8 T7 T6 T5 T4 T3 R3 R4 R5 R6 R7 R8 R9 R10 U3 U4 U5 U6 U7 U8 U9 H1 H2 H3 H4 H5 H6 H7 H8 H9 H10 O3 O4 O5 O6 O7 O8 O9 O10 qn22 qn29 qn30 qn31 HZ
  rw [q5, q6, q7, q8, q9, q10, l1, l2, l3, l4]
  clear q5 q6 q7 q8 q9 q10 l1 l2 l3 l4 E1 E2 E3 E4 E5 E6 E7 E8 E9 E10
  go_upto_if 207 with (go_at_call 13; refine (unhide H13).mono ?_; rintro r w11 ⟨b, rfl, hb, hu⟩; have HF := hide hb; have HU := hide hu; clear hb hu; cases b)
  · as_aux_lemma =>
    go_wp2
    go_ret
    exact TrueP.mk ((unhide U10).trans (unhide HU))
  as_aux_lemma =>
  have HF1 : Hid (0 < A.length → Fits A en S.length) := hide ((unhide HF) trivial)
  have U11 : Hid (Upd (fun _ => False) w w11) := hide ((unhide U10).trans (unhide HU))
  have H14 := hide (cloneBytes_any _ D0 w11 ((unhide HI1).kept (unhide U11)) (by omega))
  have H15 : Hid (∀ W, Upd (fun _ => False) w W → Calls Try.prog 15 #[.slice x2 E0.length c2] W fun r w' => ∃ v', r = .returned v' ∧ w'.ownsRow W.heap.size 3 1 v' E0.length (I64 E0) ∧ Upd (fun _ => False) W w') := hide (fun W h => cloneInts_any _ E0 W ((unhide HI2).kept h) (by omega))
  have H16 : Hid (∀ (B : Nat) (D E : List Int) (vd ve : Value) (W : World), Upd (fun _ => False) w11 W → W.ownsRow B 5 1 vd D.length (B8 D) → W.ownsRow B 3 1 ve E.length (I64 E) → w11.heap.size ≤ B → B ≤ W.heap.size → D.length ≤ 65536 → E.length ≤ 8192 →
      Calls Try.prog 16 #[.int .i64 en, vd, ve, .slice y3 S.length d3, .slice y4 A.length d4, .slice y5 A.length d5, .slice y6 A.length d6, .slice y7 A.length d7, .slice y8 A.length d8, .slice y9 A.length d9, .slice y10 A.length d10, .int .i64 mp] W (ZzPost B (cutRun S (mkL A G Mb Q H V I) en.toNat (limI mp) (mkL A G Mb Q H V I).length 0 D E) vd ve W)) := hide (fun B D E vd ve W h hd he hB1 hB2 hD hE => by
    have R11 := (unhide HRR).kept (unhide HU)
    exact zz_both B w.heap.size en mp S A G Mb Q H V D E I _ _ _ _ _ _ _ _ vd ve W (R11.kept h) hd he hB2 (fun g hg => by have := (R11.r3.lt g hg).2; omega) (unhide HF1) (unhide GOOD) hD hE b3 b4 (fun x c e => by simp at e; omega))
  clear HF H13
  generalize hL : mkL A G Mb Q H V I = L at H16
  have HL := hide hL
  clear hL
  as_aux_lemma =>
  go_wp2_with fail
  refine (unhide H14).mono ?_
  rintro r w12 ⟨v', rfl, ho, hu⟩
  obtain ⟨xd, cd, rfl⟩ := own_slice ho
  have HOd := hide ho
  have HUd := hide hu
  clear ho hu
  as_aux_lemma =>
  go_wp2_with fail
  refine (unhide H15 w12 ((unhide U11).trans (unhide HUd))).mono ?_
  rintro r w13 ⟨v', rfl, ho, hu⟩
  obtain ⟨xe, ce, rfl⟩ := own_slice ho
  have HOe := hide ho
  have HUe := hide hu
  clear ho hu
  as_aux_lemma =>
  go_wp2_with fail
  refine (unhide H16 w11.heap.size D0 E0 (.slice xd D0.length cd) (.slice xe E0.length ce) w13 ((unhide HUd).trans (unhide HUe)) (own_row_step (unhide HOd) (unhide HUe) (fun _ _ h => h)) (own_base (unhide HOe) (unhide HUd).size) (Nat.le_refl _) (Nat.le_trans (unhide HUd).size (unhide HUe).size) b1 b2).mono ?_
  rintro r w14 ⟨vda, vea, era, rfl, hea, hda, hxa, hua⟩
  obtain ⟨xda, cda, nda, rfl, hnda⟩ := own_slice2 hda
  obtain ⟨xea, cea, nea, rfl, hnea⟩ := own_slice2 hxa
  have UA : Hid (Upd (fun _ => False) w11 w14) := hide (Ran.upd_a ((unhide HUd).trans (unhide HUe)) (fun g hg => ((unhide HOd).lt g hg).1) (fun g hg => Nat.le_trans (unhide HUd).size ((unhide HOe).lt g hg).1) hua)
  have PA := hide (And.intro hea (And.intro hda (And.intro hxa hua)))
  clear hea hda hxa hua
  as_aux_lemma =>
  go_wp2_with fail
  refine (unhide H16 w14.heap.size [] [] (.slice none 0 0) (.slice none 0 0) w14 (unhide UA) (own_nil _ _ _) (own_nil _ _ _) (unhide UA).size (Nat.le_refl _) (by simp) (by simp)).mono ?_
  rintro r w15 ⟨vdb, veb, erb, rfl, heb, hdb, hxb, hub⟩
  obtain ⟨xdb, cdb, ndb, rfl, hndb⟩ := own_slice2 hdb
  obtain ⟨xeb, ceb, neb, rfl, hneb⟩ := own_slice2 hxb
  have PB := hide (And.intro heb (And.intro hdb (And.intro hxb hub)))
  clear heb hdb hxb hub
  as_aux_lemma =>
  go_wp2_with fail
  have UB : Hid (Upd (fun _ => False) w14 w15) := hide ((unhide PB).2.2.2.mono (fun k _ h => by simp [Value.ownBlock] at h))
  have RN := hide (ran_of (w0 := w11) ((unhide HUd).trans (unhide HUe)) (fun g hg => ((unhide HOd).lt g hg).1) (fun g hg => Nat.le_trans (unhide HUd).size ((unhide HOe).lt g hg).1) (unhide PA).1 (unhide PA).2.1 (unhide PA).2.2.1 (unhide PA).2.2.2 (unhide PB).1 (unhide PB).2.1 (unhide PB).2.2.1 (unhide PB).2.2.2)
  have UW : Hid (Upd (fun _ => False) w w15) := hide ((unhide U11).trans (unhide RN).up)
  have HD : Hid (InV w15 (.slice x1 D0.length c1) (B8 D0)) := hide ((unhide HI1).kept (unhide UW))
  have HE : Hid (InV w15 (.slice x2 E0.length c2) (I64 E0)) := hide ((unhide HI2).kept (unhide UW))
  have HA : Hid (InV w15 (.slice y4 A.length d4) (I64 A)) := hide (own_inV ((unhide HRR).kept ((unhide HU).trans (unhide RN).up)).r4)
  have na := hide ((unhide hnda).trans (congrArg List.length (congrArg Prod.fst (cutRun_onto S L en.toNat (limI mp) D0 E0 L.length 0))))
  have nx := hide ((unhide hnea).trans (congrArg (fun F => F.2.1.length) (cutRun_onto S L en.toNat (limI mp) D0 E0 L.length 0)))
  clear PA PB UA UB HUd HUe HOd HOe H14 H15 H16 HI1 HI2 HRR HU U10 U11 hnda hnea
  generalize hF : cutRun S L en.toNat (limI mp) L.length 0 [] [] = F at RN na nx hndb hneb
  have HFF := hide hF
  clear hF
  as_aux_lemma =>
  have RI : Hid (InV w15 (.slice xda nda cda) (B8 (D0 ++ F.1)) ∧ InV w15 (.slice xea nea cea) (I64 (E0 ++ F.2.1.map (· + (D0.length : Int)))) ∧ InV w15 (.slice xdb ndb cdb) (B8 F.1) ∧ InV w15 (.slice xeb neb ceb) (I64 F.2.1)) := hide (by
    obtain ⟨_, h1⟩ := (unhide RN).da
    obtain ⟨_, h2⟩ := (unhide RN).xa
    obtain ⟨_, h3⟩ := (unhide RN).db
    obtain ⟨_, h4⟩ := (unhide RN).xb
    exact ⟨own_inV h1, own_inV h2, own_inV h3, own_inV h4⟩)
  have hL2 : Hid (A.length = L.length) := hide (by rw [← unhide HL, mkL_len])
  obtain ⟨rest, post, fin, fe1, fe2, fchk, fok, fbad⟩ := cutRun_chk S L en.toNat (limI mp) L.length 0 [] [] (by omega) (by omega)
  rw [unhide HFF] at fe1 fe2 fok fbad
  simp only [List.nil_append, List.length_nil] at fe1 fe2 fchk
  rw [← fe1, ← fe2] at fchk
  have CHK := hide fchk
  have FOK := hide fok
  clear fe1 fe2 fchk fok fbad rest post
  have NN : Hid (nda = D0.length + ndb ∧ ndb = F.1.length ∧ nea = E0.length + neb ∧ neb = F.2.1.length ∧ nda ≤ maxLen ∧ nea ≤ maxLen) := hide (by
    have h1 := (unhide RI).1.len; have h2 := (unhide RI).2.1.len; have h3 := (unhide RI).2.2.1.len; have h4 := (unhide RI).2.2.2.len
    rw [B8_len] at h1 h3; rw [I64_len] at h2 h4
    obtain ⟨_, m1⟩ := (unhide RN).da
    obtain ⟨_, m2⟩ := (unhide RN).xa
    have m1 := own_max m1
    have m2 := own_max m2
    simp only [List.length_append, List.length_map] at *
    omega)
  have NI : (nda : Int) = (D0.length : Int) + (ndb : Int) ∧ (nea : Int) = (E0.length : Int) + (neb : Int) ∧ (nda : Int) < 9223372036854775808 ∧ (nea : Int) < 9223372036854775808 := by
    have := unhide NN; unfold maxLen at this; omega
  obtain ⟨ni1, ni2, ni3, ni4⟩ := NI
  have bd : (D0.length : Int) ≤ 65536 := by omega
  have be : (E0.length : Int) ≤ 8192 := by omega
  have bn : (0 : Int) ≤ (ndb : Int) := by omega
  have bm : (0 : Int) ≤ (neb : Int) := by omega
  have ER : Hid (ErrIs F.2.2 (.returned era) ∧ ErrIs F.2.2 (.returned erb)) := hide ⟨(unhide RN).ea, (unhide RN).eb⟩
  clear na nx hndb hneb RN
  go_cut [248] from 1 to 0 (fun v wx => v = .bool false ∧ Hid (Upd (fun _ => False) w15 wx))
  case first => as_aux_lemma =>
    rcases unhide ER with ⟨h1, h2⟩
    rcases hb : F.2.2 with _ | _
    · obtain ⟨a, ha⟩ := h1.of_no hb
      obtain ⟨b, hb⟩ := h2.of_no hb
      obtain rfl : era = .iface 71 (.pointer (some a)) := by simpa using ha
      obtain rfl : erb = .iface 71 (.pointer (some b)) := by simpa using hb
      clear h1 h2 ha hb
      go_quiet (fail)
      go_wp2
      go_meet
      case rel => exact ⟨rfl, hide ((Upd.refl _ _).drewN _)⟩
    · obtain rfl : era = .nilIface := by simpa using h1.of_yes hb
      obtain rfl : erb = .nilIface := by simpa using h2.of_yes hb
      clear h1 h2 hb
      go_quiet (fail)
      go_wp2
      go_meet
      case rel => exact ⟨rfl, hide ((Upd.refl _ _).drewN _)⟩
  obtain ⟨rfl, UC⟩ := hcut
  obtain ⟨w16, hwc⟩ : ∃ x, x = wc := ⟨_, rfl⟩
  subst hwc
  go_wp2
  go_loopw [42] (fun i wr => ∃ k : Nat, i = .int .i64 (k : Int) ∧ k ≤ D0.length ∧ Hid (Upd (fun _ => False) w15 wr)) (fun i _ => D0.length - (intOf i).toNat)
  case atStart => exact ⟨0, by go_num, by omega, UC⟩
  case round =>
  clear UC
  obtain ⟨k, rfl, hk, UR⟩ := hrel
  have hkb : (k : Int) ≤ 65536 := by omega
  by_cases hkl : k < D0.length
  · as_aux_lemma =>
    have hl1 : (k : Int) < (D0.length : Int) := by omega
    have hl2 : (k : Int) < (nda : Int) := by omega
    obtain ⟨ga, oa, rfl, hc1⟩ := row8 ((unhide RI).1.kept (unhide UR)) (k := k) (by simp; omega)
    obtain ⟨gd, od, rfl, hc2⟩ := row8 ((unhide HD).kept (unhide UR)) hkl
    rw [getD_app_left hkl] at hc1
    generalize D0.getD k 0 = z at hc1 hc2
    go_wp2
    go_quiet (fail)
    all_goals go_wp2
    all_goals go_roundw
    case rel => exact ⟨k + 1, by go_num, by omega, hide ((unhide UR).drewN _)⟩
    case measure => simp [intOf]; omega
  as_aux_lemma =>
  have hl1 : ¬ (k : Int) < (D0.length : Int) := by omega
  clear hk hkl
  go_wp2
  go_loopw [43] (fun i wr => ∃ k : Nat, i = .int .i64 (k : Int) ∧ k ≤ ndb ∧ Hid (Upd (fun _ => False) w15 wr)) (fun i _ => ndb - (intOf i).toNat)
  case atStart => exact ⟨0, by go_num, by omega, UR⟩
  case round =>
  clear UR hl1 hkb
  obtain ⟨k, rfl, hk, UR⟩ := hrel
  have hkb : (k : Int) ≤ (ndb : Int) := by omega
  by_cases hkl : k < ndb
  · as_aux_lemma =>
    have hl1 : (k : Int) < (ndb : Int) := by omega
    have hl2 : (D0.length : Int) + (k : Int) < (nda : Int) := by omega
    have hl3 : ((D0.length : Int) + (k : Int)).toNat = D0.length + k := by omega
    have hl4 : k < F.1.length := by have := (unhide NN).2.1; omega
    obtain ⟨ga, oa, rfl, hc1⟩ := row8 ((unhide RI).1.kept (unhide UR)) (k := D0.length + k) (by simp; omega)
    obtain ⟨gd, od, rfl, hc2⟩ := row8 ((unhide RI).2.2.1.kept (unhide UR)) hl4
    rw [getD_app_right] at hc1
    generalize F.1.getD k 0 = z at hc1 hc2
    clear hl4
    go_wp2
    go_quiet (fail)
    all_goals go_wp2
    all_goals go_roundw
    case rel => exact ⟨k + 1, by go_num, by omega, hide ((unhide UR).drewN _)⟩
    case measure => simp [intOf]; omega
  as_aux_lemma =>
  have hl1 : ¬ (k : Int) < (ndb : Int) := by omega
  clear hk hkl
  go_wp2
  go_loopw [44] (fun i wr => ∃ k : Nat, i = .int .i64 (k : Int) ∧ k ≤ E0.length ∧ Hid (Upd (fun _ => False) w15 wr)) (fun i _ => E0.length - (intOf i).toNat)
  case atStart => exact ⟨0, by go_num, by omega, UR⟩
  case round =>
  clear UR hl1 hkb
  obtain ⟨k, rfl, hk, UR⟩ := hrel
  have hkb : (k : Int) ≤ 8192 := by omega
  by_cases hkl : k < E0.length
  · as_aux_lemma =>
    have hl1 : (k : Int) < (E0.length : Int) := by omega
    have hl2 : (k : Int) < (nea : Int) := by omega
    obtain ⟨ga, oa, rfl, hc1⟩ := row64 ((unhide RI).2.1.kept (unhide UR)) (k := k) (by simp; omega)
    obtain ⟨gd, od, rfl, hc2⟩ := row64 ((unhide HE).kept (unhide UR)) hkl
    rw [getD_app_left hkl] at hc1
    generalize E0.getD k 0 = z at hc1 hc2
    go_wp2
    go_quiet (fail)
    all_goals go_wp2
    all_goals go_roundw
    case rel => exact ⟨k + 1, by go_num, by omega, hide ((unhide UR).drewN _)⟩
    case measure => simp [intOf]; omega
  as_aux_lemma =>
  have hl1 : ¬ (k : Int) < (E0.length : Int) := by omega
  clear hk hkl
  go_wp2
  go_loopw [45] (fun i wr => ∃ k : Nat, i = .int .i64 (k : Int) ∧ k ≤ neb ∧ Hid (Upd (fun _ => False) w15 wr)) (fun i _ => neb - (intOf i).toNat)
  case atStart => exact ⟨0, by go_num, by omega, UR⟩
  case round =>
  clear UR hl1 hkb
  obtain ⟨k, rfl, hk, UR⟩ := hrel
  have hkb : (k : Int) ≤ (neb : Int) := by omega
  by_cases hkl : k < neb
  · as_aux_lemma =>
    have hl1 : (k : Int) < (neb : Int) := by omega
    have hl2 : (E0.length : Int) + (k : Int) < (nea : Int) := by omega
    have hl3 : ((E0.length : Int) + (k : Int)).toNat = E0.length + k := by omega
    have hl4 : k < F.2.1.length := by have := (unhide NN).2.2.2.1; omega
    have hz := (unhide CHK).mem (F.2.1.getD k 0) (by simp only [List.getD_eq_getElem?_getD, List.getElem?_eq_getElem hl4, Option.getD_some]; exact List.getElem_mem hl4)
    have hnf : (F.1.length : Int) = (ndb : Int) := by have := (unhide NN).2.1; omega
    obtain ⟨ga, oa, rfl, hc1⟩ := row64 ((unhide RI).2.1.kept (unhide UR)) (k := E0.length + k) (by simp; omega)
    obtain ⟨gd, od, rfl, hc2⟩ := row64 ((unhide RI).2.2.2.kept (unhide UR)) hl4
    rw [getD_app_right, getD_map_add hl4] at hc1
    generalize F.2.1.getD k 0 = z at hc1 hc2 hz
    rw [hnf] at hz
    obtain ⟨hz1, hz2⟩ := hz
    clear hl4 hnf
    go_wp2
    go_quiet (fail)
    all_goals go_wp2
    all_goals go_roundw
    case rel => exact ⟨k + 1, by go_num, by omega, hide ((unhide UR).drewN _)⟩
    case measure => simp [intOf]; omega
  as_aux_lemma =>
  have hl1 : ¬ (k : Int) < (neb : Int) := by omega
  clear hk hkl
  by_cases hA0 : A.length = 0
  · as_aux_lemma =>
    obtain ⟨z1, z2⟩ : ndb = 0 ∧ neb = 0 := by
      have hl := unhide hL2
      have hF := unhide HFF
      have hL0 : L = [] := List.length_eq_zero_iff.1 (by omega)
      rw [hL0] at hF
      have e : F = ([], [], true) := by rw [← hF]; rfl
      have h1 := (unhide NN).2.1
      have h2 := (unhide NN).2.2.2.1
      rw [e] at h1 h2
      exact ⟨h1, h2⟩
    have hb : ((A.length : Int) == 0) = true := by rw [hA0]; rfl
    have hz1 : ((ndb : Int) == 0) = true := by rw [z1]; rfl
    have hz2 : ((neb : Int) == 0) = true := by rw [z2]; rfl
    clear z1 z2 hA0
    go_wp2
    go_ret
    exact TrueP.mk ((unhide UW).trans (unhide UR))
  have hne : ((A.length : Int) == 0) = false := beq_eq_false_iff_ne.2 (by omega)
  rcases hb : F.2.2 with _ | _
  · as_aux_lemma =>
    obtain ⟨a, ha⟩ := (unhide ER).2.of_no hb
    obtain rfl : erb = .iface 71 (.pointer (some a)) := by simpa using ha
    clear ha hb
    go_wp2
    all_goals go_ret
    all_goals exact TrueP.mk ((unhide UW).trans (unhide UR))
  as_aux_lemma =>
  obtain rfl : erb = .nilIface := by simpa using (unhide ER).2.of_yes hb
  have FIN : Hid (fin = L.length) := hide (unhide FOK hb)
  have NE : 0 < neb := by
    have h1 := unhide NN
    have h2 := (unhide CHK).ne (by rw [unhide FIN, ← unhide hL2]; omega)
    omega
  have hne2 : ((neb : Int) == 0) = false := beq_eq_false_iff_ne.2 (by omega)
  have FT := unhide HF1 (by omega)
  have lie : Lie L en.toNat := by rw [← unhide HL]; exact mkL_lie FT
  have gd : ∀ (j : Nat) (y : Un), L[j]? = some y → y.good := by
    rw [← unhide HL]
    intro j y hy
    obtain ⟨h1, h2⟩ := mkL_get hy
    subst h2
    exact unhide GOOD j h1
  have hA : A[0]? = some (A.getD 0 0) := get_some rfl (by omega)
  have hA1 := FT.nonneg 0 _ hA
  have hA2 := FT.lt_en (A.length - 1) 0 _ (by omega) hA
  have hA3 := FT.en
  have hu0 : (uu L en.toNat 0 : Int) = A.getD 0 0 := by
    have hx : L[0]? = some (mkUn A G Mb Q H V I 0) := by rw [← unhide HL, mkL, List.getElem?_map, List.getElem?_range (by omega)]; rfl
    rw [(uu_ua (en := en.toNat) hx).1]
    show (((A.getD 0 0).toNat : Nat) : Int) = _
    omega
  have hc0 := row64 (unhide HA) (k := 0) (by omega)
  clear FT hA
  obtain ⟨eN, heN⟩ : ∃ eN : Nat, eN = en.toNat := ⟨_, rfl⟩
  rw [← heN] at lie hu0
  have hen : (eN : Int) = en := by omega
  have hen2 : (eN + 7) / 8 ≤ S.length := by omega
  have CHK2 : Hid (Chk S L eN (limI mp) F.1 0 0 F.2.1 fin) := hide (by rw [heN]; exact unhide CHK)
  obtain ⟨s0, hs0⟩ : ∃ s : Nat, s = uu L eN 0 := ⟨_, rfl⟩
  rw [← hs0] at hu0
  obtain ⟨ga0, oa0, rfl, hca⟩ := hc0
  rw [← hu0] at hca
  have hs1 : s0 ≤ eN := by omega
  have HP := hide (And.intro lie (And.intro gd (And.intro hen2 hs0)))
  have heb : (eN : Int) ≤ 2097152 := by omega
  clear lie gd hu0 hA1 hA2 hA3 CHK heN hs0 hb FOK HF1 GOOD HFF hen2
  have hend : Hid ((eN : Int) = en) := hide hen
  subst hen
  go_wp2
  go_loopw [46, 47, 48] (fun a b c wr => ∃ (k p i u : Nat) (d : Int), a = .int .i64 (p : Int) ∧ b = .int .i64 d ∧ c = .int .i64 (k : Int) ∧ k ≤ neb ∧ p ≤ ndb ∧ 0 ≤ d ∧ d ≤ 2097152 ∧ Hid (d = (u : Int) - (s0 : Int) ∧ u = uu L eN i ∧ Chk S L eN (limI mp) F.1 p i (F.2.1.drop k) fin) ∧ Hid (Upd (fun _ => False) w15 wr)) (fun _ _ c _ => neb - (intOf c).toNat)
  case atStart => exact ⟨0, 0, 0, s0, 0, by go_num, by go_num, by go_num, by omega, by omega, by omega, by omega, hide ⟨by omega, (unhide HP).2.2.2, by simpa using unhide CHK2⟩, UR⟩
  case round =>
  clear UR hl1 hkb
  obtain ⟨k, p, i, u, d, rfl, rfl, rfl, hk, hp, hd1, hd2, HI, UR⟩ := hrel
  have hkb : (k : Int) ≤ (neb : Int) := by omega
  by_cases hkl : k < neb
  · as_aux_lemma =>
    have hl1 : (k : Int) < (neb : Int) := by omega
    have hl4 : k < F.2.1.length := by have := (unhide NN).2.2.2.1; omega
    obtain ⟨e, x, hx, hok, hE, he1, he2, next, hW, hB, hbits, hlen, pre, post, hDD, hpre⟩ := (unhide HI).2.2.step hl4 (unhide HP).2.1 (unhide HP).1 (unhide HP).2.2.1
    have hnf : ndb = F.1.length := (unhide NN).2.1
    rw [← hnf] at he2
    obtain ⟨ge, oe, rfl, hce⟩ := row64 ((unhide RI).2.2.2.kept (unhide UR)) hl4
    rw [hE] at hce
    obtain ⟨gd, od, rfl, left, hcap, hcd⟩ := ((unhide RI).2.2.1.kept (unhide UR)).at (by rw [B8_len]; omega)
    have hc0 := hcd p _ (B8_get (n := F.1.length) rfl (by omega))
    have hc1 := hcd (p + 1) _ (B8_get (n := F.1.length) rfl (by omega))
    have hc2 := hcd (p + 2) _ (B8_get (n := F.1.length) rfl (by omega))
    have hc3 := hcd (p + 3) _ (B8_get (n := F.1.length) rfl (by omega))
    rw [hB.1] at hc0
    rw [hB.2.1] at hc1
    rw [hB.2.2.1] at hc2
    rw [hB.2.2.2] at hc3
    have hng := nxt_gt L eN (limI mp) i
    have hnl := nxt_le L eN (limI mp) i (List.getElem?_eq_some_iff.1 hx).1
    have hub := (unhide HP).1.ue_bd (i := i) (k := nxt L eN (limI mp) i - 1) (by omega) (by omega)
    rw [uu_ue (by omega), (uu_ua (en := eN) hx).2, ← (uu_ua (en := eN) hx).1, ← (unhide HI).2.1] at hub
    rw [← (unhide HI).2.1] at hbits
    have hdu := (unhide HI).1
    obtain ⟨W, hWW⟩ : ∃ W, W = hdrW L eN (limI mp) i x := ⟨_, rfl⟩
    obtain ⟨u', huu⟩ : ∃ u', u' = uu L eN (nxt L eN (limI mp) i) := ⟨_, rfl⟩
    rw [← hWW] at hW hc0 hc1 hc2 hc3 hbits
    rw [← huu] at hbits hub
    have H18 : Hid (Calls Try.prog 18 #[.slice (some ⟨gd, od + p, none⟩) (e - p) (cdb - p)] wr fun r w' => r = .returned (.int .u32 W) ∧ Upd (fun _ => False) wr w') := hide (by
      have bb := be4_bd W hW.1 hW.2
      have h := hword_any gd (od + p) (e - p) (cdb - p) _ _ _ _ wr (by omega) hc0 (by rw [Nat.add_assoc]; exact hc1) (by rw [Nat.add_assoc]; exact hc2) (by rw [Nat.add_assoc]; exact hc3) bb.1.1 bb.1.2 bb.2.1.1 bb.2.1.2 bb.2.2.1.1 bb.2.2.1.2 bb.2.2.2.1 bb.2.2.2.2
      rw [be4_word W hW.1 hW.2] at h
      exact h)
    have he3 : (p : Int) + 4 ≤ (e : Int) := by omega
    have he4 : (e : Int) ≤ (ndb : Int) := by omega
    have he5 : (e : Int) ≤ (cdb : Int) := by omega
    have he6 : (p : Int) ≤ (e : Int) := by omega
    have HNX : Hid (Chk S L eN (limI mp) F.1 e (nxt L eN (limI mp) i) (F.2.1.drop (k + 1)) fin ∧ u' = uu L eN (nxt L eN (limI mp) i)) := hide ⟨next, huu⟩
    have HBT : Hid (8 * ((e : Int) - (p : Int) - 4) - W / 536870912 % 8 - W / 67108864 % 8 = (u' : Int) - (u : Int) ∧ d = (u : Int) - (s0 : Int) ∧ u < u' ∧ u' ≤ eN) := hide ⟨hbits, hdu, hub.1, hub.2⟩
    obtain ⟨hW0, hW1⟩ := hW
    clear next huu hng hnl hub hdu hDD hpre hlen hc0 hc1 hc2 hc3 hcd hbits hB hE hok hx hWW hl4 HI hnf he1 he2 hcap left pre post
    have hf1 : ¬ ((e : Int) < (p : Int) + 4) := by omega
    have hf2 : ¬ ((ndb : Int) < (e : Int)) := by omega
    go_wp2_with (go_at_call 18; refine (unhide H18).mono ?_; rintro r w17 ⟨rfl, hu⟩; have UR2 : Hid (Upd (fun _ => False) w15 w17) := hide ((unhide UR).trans hu); clear hu; have a29 : bits .and .u32 (W / 536870912) 7 = W / 536870912 % 8 := and7 _ (by omega) (by omega); have a26 : bits .and .u32 (W / 67108864) 7 = W / 67108864 % 8 := and7 _ (by omega) (by omega))
    have hh := unhide HBT
    obtain ⟨hh1, hh2, hh3, hh4⟩ := hh
    have hw : wrap64 (d + wrap64 (wrap64 (wrap64 (8 * ((e : Int) - (p : Int) - 4)) - W / 536870912 % 8) - W / 67108864 % 8)) = (u' : Int) - (s0 : Int) := by
      unfold wrap64
      omega
    rw [hw]
    refine ⟨⟨k + 1, e, nxt L eN (limI mp) i, u', (u' : Int) - (s0 : Int), rfl, rfl, by go_num, by omega, by omega, by omega, by omega, hide ⟨rfl, (unhide HNX).2, (unhide HNX).1⟩, UR2⟩, ?_⟩
    simp [intOf]; omega
  as_aux_lemma =>
  have hl1 : ¬ (k : Int) < (neb : Int) := by omega
  obtain ⟨hd, hu, hchk⟩ := unhide HI
  rw [List.drop_eq_nil_of_le (by have := (unhide NN).2.2.2.1; omega)] at hchk
  obtain ⟨hp1, hf⟩ := hchk.fin_nil
  have hp2 : p = ndb := by have := (unhide NN).2.1; omega
  have hd3 : d = (eN : Int) - (s0 : Int) := by rw [hd, hu, ← hf, unhide FIN, uu_end]
  have hcz := cell_upd (unhide UR) hca
  rw [Nat.add_zero] at hcz
  have hap : (0 : Int) < (A.length : Int) := by omega
  clear hd hu hchk hp1 hf hca HI
  subst hp2 hd3
  go_wp2
  go_ret
  exact TrueP.mk ((unhide UW).trans (unhide UR))
end Go.Proofs.Qxb6614154a
