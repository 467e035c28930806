/-
  The law 'same into a used buffer': its walk.
-/
import Derived.Test.Qxb6614154aP5
import Derived.Deep.CutRange
import Derived.Deep.DeepCutAuto
namespace Go.Proofs.Qxb6614154a
open Go.ChangeShapes Go.WideShapes Go.ChangeAt Go.RowKit
set_option linter.unusedSimpArgs false
set_option linter.unusedVariables false
def TrueP (w : World) (r : Ending) (w' : World) : Prop := r = .returned (.bool true) ∧ Upd (fun _ => False) w w'
theorem TrueP.mk {w w' : World} (h : Upd (fun _ => False) w w') : TrueP w (.returned (.bool true)) w' := ⟨rfl, h⟩
theorem InV.form {w : World} {v : Value} {vs : List Value} (h : InV w v vs) : ∃ x c, v = .slice x vs.length c := by
  rcases h with ⟨rfl, rfl⟩ | ⟨x, c, h, _⟩
  · exact ⟨none, 0, rfl⟩
  · exact ⟨some x, c, h⟩
theorem upd_new {w w2 : World} {o : Obj} (h : Upd (fun k => k = w.heap.size) (w.alloc o) w2) : Upd (fun _ => False) w w2 :=
  ⟨h.os, h.tape, h.output, by have := h.size; simp at this; omega, fun k hk _ => (h.block k (by simp; omega) (by omega)).trans (Below.heap_alloc w o k hk)⟩
theorem own_slice2 {w : World} {B : Nat} {e : TypeId} {v : Value} {n : Nat} {xs : List Value} (h : w.ownsRow B e 1 v n xs) : ∃ x c m, v = .slice x m c ∧ Hid (m = n) := by
  obtain ⟨x, c, h⟩ := own_slice h
  exact ⟨x, c, n, h, rfl⟩

set_option maxRecDepth 20000 in
set_option maxHeartbeats 8000000 in
theorem law5_walk (en mp : Int) (v1 v2 v3 v4 v5 v6 v7 v8 v9 v10 : Value) (V1 V2 V3 V4 V5 V6 V7 V8 V9 V10 : List Value) (D0 E0 S A G Mb Q H V : List Int) (I : List Bool) (w : World)
    (E1 : Hid (V1 = B8 D0)) (E2 : Hid (V2 = I64 E0)) (E3 : Hid (V3 = B8 S)) (E4 : Hid (V4 = I64 A)) (E5 : Hid (V5 = B8 G)) (E6 : Hid (V6 = B8 Mb)) (E7 : Hid (V7 = B8 Q)) (E8 : Hid (V8 = I8 H)) (E9 : Hid (V9 = I8 V)) (E10 : Hid (V10 = Bo I)) (GOOD : Hid (∀ k, k < A.length → 0 ≤ G.getD k 0 ∧ 0 ≤ Mb.getD k 0 ∧ 0 ≤ Q.getD k 0))
    (h1 : InV w v1 V1) (h2 : InV w v2 V2) (h3 : InV w v3 V3) (o3 : ∀ u ∈ V3, u.oneCell' = true) (h4 : InV w v4 V4) (o4 : ∀ u ∈ V4, u.oneCell' = true) (h5 : InV w v5 V5) (o5 : ∀ u ∈ V5, u.oneCell' = true) (h6 : InV w v6 V6) (o6 : ∀ u ∈ V6, u.oneCell' = true) (h7 : InV w v7 V7) (o7 : ∀ u ∈ V7, u.oneCell' = true) (h8 : InV w v8 V8) (o8 : ∀ u ∈ V8, u.oneCell' = true) (h9 : InV w v9 V9) (o9 : ∀ u ∈ V9, u.oneCell' = true) (h10 : InV w v10 V10) (o10 : ∀ u ∈ V10, u.oneCell' = true) :
    Calls Try.prog 5 #[.int .i64 en, v1, v2, v3, v4, v5, v6, v7, v8, v9, v10, .int .i64 mp] w (TrueP w) := by
  obtain ⟨x1, c1, rfl⟩ := h1.form
  obtain ⟨x2, c2, rfl⟩ := h2.form
  obtain ⟨x3, c3, rfl⟩ := h3.form
  obtain ⟨x4, c4, rfl⟩ := h4.form
  obtain ⟨x5, c5, rfl⟩ := h5.form
  obtain ⟨x6, c6, rfl⟩ := h6.form
  obtain ⟨x7, c7, rfl⟩ := h7.form
  obtain ⟨x8, c8, rfl⟩ := h8.form
  obtain ⟨x9, c9, rfl⟩ := h9.form
  obtain ⟨x10, c10, rfl⟩ := h10.form
  have HZ := hide (fun W => zb12 en mp x1 x2 x3 x4 x5 x6 x7 x8 x9 x10 V1.length V2.length V3.length V4.length V5.length V6.length V7.length V8.length V9.length V10.length c1 c2 c3 c4 c5 c6 c7 c8 c9 c10 W)
  have H1 := hide h1
  have H2 := hide h2
  have H3 := hide h3
  have H4 := hide h4
  have H5 := hide h5
  have H6 := hide h6
  have H7 := hide h7
  have H8 := hide h8
  have H9 := hide h9
  have H10 := hide h10
  have O3 := hide o3
  have O4 := hide o4
  have O5 := hide o5
  have O6 := hide o6
  have O7 := hide o7
  have O8 := hide o8
  have O9 := hide o9
  have O10 := hide o10
  clear h1 h2 h3 h4 h5 h6 h7 h8 h9 h10 o3 o4 o5 o6 o7 o8 o9 o10
  have qn22 : ∀ (w : World) (a : Option Addr) (n c n' c' : Nat), (binOp .neq 22 (.slice a n c) (.slice none n' c')).run Try.prog w = .ok (.bool (!a.isNone)) w := fun w a n c n' c' => run_neq_slice_nil_any w _ _ a n c n' c' Try.underlying22
  have qn29 : ∀ (w : World) (a : Option Addr) (n c n' c' : Nat), (binOp .neq 29 (.slice a n c) (.slice none n' c')).run Try.prog w = .ok (.bool (!a.isNone)) w := fun w a n c n' c' => run_neq_slice_nil_any w _ _ a n c n' c' Try.underlying29
  have qn30 : ∀ (w : World) (a : Option Addr) (n c n' c' : Nat), (binOp .neq 30 (.slice a n c) (.slice none n' c')).run Try.prog w = .ok (.bool (!a.isNone)) w := fun w a n c n' c' => run_neq_slice_nil_any w _ _ a n c n' c' Try.underlying30
  have qn31 : ∀ (w : World) (a : Option Addr) (n c n' c' : Nat), (binOp .neq 31 (.slice a n c) (.slice none n' c')).run Try.prog w = .ok (.bool (!a.isNone)) w := fun w a n c n' c' => run_neq_slice_nil_any w _ _ a n c n' c' Try.underlying31
  go_enter Try.func5, Try.ntmps5
  go_upto_if 103 with (go_at_call 12; refine (unhide HZ _).mono ?_; rintro r w1 ⟨b, rfl, hw⟩; have hw' := hw.symm; clear hw; subst hw'; cases b)
  all_goals try (go_ret; exact TrueP.mk (Upd.refl _ _))
  have U2 : Hid (Upd (fun _ => False) w w) := hide (Upd.refl _ _)
  go_cut [3] from 1 to 0 (fun v wx => Hid (wx.ownsRow w.heap.size 5 1 v V3.length V3 ∧ Upd (fun _ => False) w wx ∧ ∀ x n c, v = Value.slice x n c → c = n))
  case first => as_aux_lemma =>
    rcases unhide H3 with ⟨h, h0⟩ | ⟨x, c, h, hc, hx⟩
    · obtain ⟨rfl, h01, rfl⟩ : x3 = none ∧ V3.length = 0 ∧ c3 = 0 := by simpa using h
      have HR : Hid (w.ownsRow w.heap.size 5 1 (.slice none V3.length 0) V3.length V3 ∧ Upd (fun _ => False) w w ∧ ∀ x n c, Value.slice none V3.length 0 = Value.slice x n c → c = n) := hide ⟨⟨by omega, .inl ⟨by rw [h01], h01⟩⟩, Upd.refl _ _, fun x n c e => by simp at e; omega⟩
      go_wp2
      go_meet
      case rel => exact HR
    · obtain ⟨rfl, rfl⟩ : x3 = some x ∧ c3 = c := by simpa using h
      obtain ⟨i0, hi, hz0, hz1, hz2⟩ := info_parts info5
      have HX : Hid (∀ j u, V3[j]? = some u → (w.alloc (.cells (Array.replicate V3.length (Value.int .u8 0)) 5)).cell? (x.add j) = some u) := hide (fun j u hj => cell_upd ((unhide U2).alloc _) (hx j u hj))
      clear h hx
      obtain ⟨w2, hcp, hb2, hu2⟩ := run_copy_new (P := Try.prog) (w.alloc (.cells (Array.replicate V3.length (Value.int .u8 0)) 5)) 22 22 3 5 Try.underlying22 size5 w.heap.size V3.length V3.length x c3 V3 (Array.replicate V3.length (Value.int .u8 0)) rfl (by simp) (heap_alloc_new _ _) (unhide HX) (unhide O3)
      have HB2 := hide hb2
      have HU2 := hide hu2
      clear hb2 hu2 HX
      go_wp2_with (at_make; refine wpList_make_alloc _ rfl (.tmp 105) (.tmp 105) 22 rfl 5 i0 _ 1 Try.underlying22 hi hz0 hz1 .i64 .i64 V3.length rfl rfl (by rw [hz2]; omega) (by unfold maxLen; omega) (List.replicate V3.length (Value.int .u8 0)) (by rw [Nat.mul_one]; exact toList_madeCells_one _ _) ?_)
      go_meet
      case rel => exact hide ⟨own_new (unhide U2).size rfl (by unfold maxLen; omega) (unhide HB2), upd_new (unhide HU2), fun x n c e => by simp at e; omega⟩
  as_aux_lemma =>
  obtain ⟨w3, hwc⟩ : ∃ x, x = wc := ⟨_, rfl⟩
  subst hwc
  obtain ⟨y3, d3, rfl⟩ := own_slice (unhide hcut).1
  have R3 := hcut
  have k3 : Hid (d3 = V3.length) := hide ((unhide hcut).2.2 _ _ _ rfl)
  have U3 : Hid (Upd (fun _ => False) w w3) := hide ((unhide U2).trans (unhide hcut).2.1)
  clear hcut
  go_upto_if 112 with fail
  go_cut [4] from 1 to 0 (fun v wx => Hid (wx.ownsRow w.heap.size 3 1 v V4.length V4 ∧ Upd (fun _ => False) w3 wx ∧ ∀ x n c, v = Value.slice x n c → c = n))
  case first => as_aux_lemma =>
    rcases unhide H4 with ⟨h, h0⟩ | ⟨x, c, h, hc, hx⟩
    · obtain ⟨rfl, h01, rfl⟩ : x4 = none ∧ V4.length = 0 ∧ c4 = 0 := by simpa using h
      have HR : Hid (w3.ownsRow w.heap.size 3 1 (.slice none V4.length 0) V4.length V4 ∧ Upd (fun _ => False) w3 w3 ∧ ∀ x n c, Value.slice none V4.length 0 = Value.slice x n c → c = n) := hide ⟨⟨by omega, .inl ⟨by rw [h01], h01⟩⟩, Upd.refl _ _, fun x n c e => by simp at e; omega⟩
      go_wp2
      go_meet
      case rel => exact HR
    · obtain ⟨rfl, rfl⟩ : x4 = some x ∧ c4 = c := by simpa using h
      obtain ⟨i0, hi, hz0, hz1, hz2⟩ := info_parts info3
      have HX : Hid (∀ j u, V4[j]? = some u → (w3.alloc (.cells (Array.replicate V4.length (Value.int .i64 0)) 3)).cell? (x.add j) = some u) := hide (fun j u hj => cell_upd ((unhide U3).alloc _) (hx j u hj))
      clear h hx
      obtain ⟨w2, hcp, hb2, hu2⟩ := run_copy_new (P := Try.prog) (w3.alloc (.cells (Array.replicate V4.length (Value.int .i64 0)) 3)) 29 29 3 3 Try.underlying29 size3 w3.heap.size V4.length V4.length x c4 V4 (Array.replicate V4.length (Value.int .i64 0)) rfl (by simp) (heap_alloc_new _ _) (unhide HX) (unhide O4)
      have HB2 := hide hb2
      have HU2 := hide hu2
      clear hb2 hu2 HX
      go_wp2_with (at_make; refine wpList_make_alloc _ rfl (.tmp 114) (.tmp 114) 29 rfl 3 i0 _ 1 Try.underlying29 hi hz0 hz1 .i64 .i64 V4.length rfl rfl (by rw [hz2]; omega) (by unfold maxLen; omega) (List.replicate V4.length (Value.int .i64 0)) (by rw [Nat.mul_one]; exact toList_madeCells_one _ _) ?_)
      go_meet
      case rel => exact hide ⟨own_new (unhide U3).size rfl (by unfold maxLen; omega) (unhide HB2), upd_new (unhide HU2), fun x n c e => by simp at e; omega⟩
  as_aux_lemma =>
  obtain ⟨w4, hwc⟩ : ∃ x, x = wc := ⟨_, rfl⟩
  subst hwc
  obtain ⟨y4, d4, rfl⟩ := own_slice (unhide hcut).1
  have R4 := hcut
  have k4 : Hid (d4 = V4.length) := hide ((unhide hcut).2.2 _ _ _ rfl)
  have U4 : Hid (Upd (fun _ => False) w w4) := hide ((unhide U3).trans (unhide hcut).2.1)
  clear hcut
  go_upto_if 121 with fail
  go_cut [5] from 1 to 0 (fun v wx => Hid (wx.ownsRow w.heap.size 5 1 v V5.length V5 ∧ Upd (fun _ => False) w4 wx ∧ ∀ x n c, v = Value.slice x n c → c = n))
  case first => as_aux_lemma =>
    rcases unhide H5 with ⟨h, h0⟩ | ⟨x, c, h, hc, hx⟩
    · obtain ⟨rfl, h01, rfl⟩ : x5 = none ∧ V5.length = 0 ∧ c5 = 0 := by simpa using h
      have HR : Hid (w4.ownsRow w.heap.size 5 1 (.slice none V5.length 0) V5.length V5 ∧ Upd (fun _ => False) w4 w4 ∧ ∀ x n c, Value.slice none V5.length 0 = Value.slice x n c → c = n) := hide ⟨⟨by omega, .inl ⟨by rw [h01], h01⟩⟩, Upd.refl _ _, fun x n c e => by simp at e; omega⟩
      go_wp2
      go_meet
      case rel => exact HR
    · obtain ⟨rfl, rfl⟩ : x5 = some x ∧ c5 = c := by simpa using h
      obtain ⟨i0, hi, hz0, hz1, hz2⟩ := info_parts info5
      have HX : Hid (∀ j u, V5[j]? = some u → (w4.alloc (.cells (Array.replicate V5.length (Value.int .u8 0)) 5)).cell? (x.add j) = some u) := hide (fun j u hj => cell_upd ((unhide U4).alloc _) (hx j u hj))
      clear h hx
      obtain ⟨w2, hcp, hb2, hu2⟩ := run_copy_new (P := Try.prog) (w4.alloc (.cells (Array.replicate V5.length (Value.int .u8 0)) 5)) 22 22 3 5 Try.underlying22 size5 w4.heap.size V5.length V5.length x c5 V5 (Array.replicate V5.length (Value.int .u8 0)) rfl (by simp) (heap_alloc_new _ _) (unhide HX) (unhide O5)
      have HB2 := hide hb2
      have HU2 := hide hu2
      clear hb2 hu2 HX
      go_wp2_with (at_make; refine wpList_make_alloc _ rfl (.tmp 123) (.tmp 123) 22 rfl 5 i0 _ 1 Try.underlying22 hi hz0 hz1 .i64 .i64 V5.length rfl rfl (by rw [hz2]; omega) (by unfold maxLen; omega) (List.replicate V5.length (Value.int .u8 0)) (by rw [Nat.mul_one]; exact toList_madeCells_one _ _) ?_)
      go_meet
      case rel => exact hide ⟨own_new (unhide U4).size rfl (by unfold maxLen; omega) (unhide HB2), upd_new (unhide HU2), fun x n c e => by simp at e; omega⟩
  as_aux_lemma =>
  obtain ⟨w5, hwc⟩ : ∃ x, x = wc := ⟨_, rfl⟩
  subst hwc
  obtain ⟨y5, d5, rfl⟩ := own_slice (unhide hcut).1
  have R5 := hcut
  have k5 : Hid (d5 = V5.length) := hide ((unhide hcut).2.2 _ _ _ rfl)
  have U5 : Hid (Upd (fun _ => False) w w5) := hide ((unhide U4).trans (unhide hcut).2.1)
  clear hcut
  go_upto_if 130 with fail
  go_cut [6] from 1 to 0 (fun v wx => Hid (wx.ownsRow w.heap.size 5 1 v V6.length V6 ∧ Upd (fun _ => False) w5 wx ∧ ∀ x n c, v = Value.slice x n c → c = n))
  case first => as_aux_lemma =>
    rcases unhide H6 with ⟨h, h0⟩ | ⟨x, c, h, hc, hx⟩
    · obtain ⟨rfl, h01, rfl⟩ : x6 = none ∧ V6.length = 0 ∧ c6 = 0 := by simpa using h
      have HR : Hid (w5.ownsRow w.heap.size 5 1 (.slice none V6.length 0) V6.length V6 ∧ Upd (fun _ => False) w5 w5 ∧ ∀ x n c, Value.slice none V6.length 0 = Value.slice x n c → c = n) := hide ⟨⟨by omega, .inl ⟨by rw [h01], h01⟩⟩, Upd.refl _ _, fun x n c e => by simp at e; omega⟩
      go_wp2
      go_meet
      case rel => exact HR
    · obtain ⟨rfl, rfl⟩ : x6 = some x ∧ c6 = c := by simpa using h
      obtain ⟨i0, hi, hz0, hz1, hz2⟩ := info_parts info5
      have HX : Hid (∀ j u, V6[j]? = some u → (w5.alloc (.cells (Array.replicate V6.length (Value.int .u8 0)) 5)).cell? (x.add j) = some u) := hide (fun j u hj => cell_upd ((unhide U5).alloc _) (hx j u hj))
      clear h hx
      obtain ⟨w2, hcp, hb2, hu2⟩ := run_copy_new (P := Try.prog) (w5.alloc (.cells (Array.replicate V6.length (Value.int .u8 0)) 5)) 22 22 3 5 Try.underlying22 size5 w5.heap.size V6.length V6.length x c6 V6 (Array.replicate V6.length (Value.int .u8 0)) rfl (by simp) (heap_alloc_new _ _) (unhide HX) (unhide O6)
      have HB2 := hide hb2
      have HU2 := hide hu2
      clear hb2 hu2 HX
      go_wp2_with (at_make; refine wpList_make_alloc _ rfl (.tmp 132) (.tmp 132) 22 rfl 5 i0 _ 1 Try.underlying22 hi hz0 hz1 .i64 .i64 V6.length rfl rfl (by rw [hz2]; omega) (by unfold maxLen; omega) (List.replicate V6.length (Value.int .u8 0)) (by rw [Nat.mul_one]; exact toList_madeCells_one _ _) ?_)
      go_meet
      case rel => exact hide ⟨own_new (unhide U5).size rfl (by unfold maxLen; omega) (unhide HB2), upd_new (unhide HU2), fun x n c e => by simp at e; omega⟩
  as_aux_lemma =>
  obtain ⟨w6, hwc⟩ : ∃ x, x = wc := ⟨_, rfl⟩
  subst hwc
  obtain ⟨y6, d6, rfl⟩ := own_slice (unhide hcut).1
  have R6 := hcut
  have k6 : Hid (d6 = V6.length) := hide ((unhide hcut).2.2 _ _ _ rfl)
  have U6 : Hid (Upd (fun _ => False) w w6) := hide ((unhide U5).trans (unhide hcut).2.1)
  clear hcut
  go_upto_if 139 with fail
  go_cut [7] from 1 to 0 (fun v wx => Hid (wx.ownsRow w.heap.size 5 1 v V7.length V7 ∧ Upd (fun _ => False) w6 wx ∧ ∀ x n c, v = Value.slice x n c → c = n))
  case first => as_aux_lemma =>
    rcases unhide H7 with ⟨h, h0⟩ | ⟨x, c, h, hc, hx⟩
    · obtain ⟨rfl, h01, rfl⟩ : x7 = none ∧ V7.length = 0 ∧ c7 = 0 := by simpa using h
      have HR : Hid (w6.ownsRow w.heap.size 5 1 (.slice none V7.length 0) V7.length V7 ∧ Upd (fun _ => False) w6 w6 ∧ ∀ x n c, Value.slice none V7.length 0 = Value.slice x n c → c = n) := hide ⟨⟨by omega, .inl ⟨by rw [h01], h01⟩⟩, Upd.refl _ _, fun x n c e => by simp at e; omega⟩
      go_wp2
      go_meet
      case rel => exact HR
    · obtain ⟨rfl, rfl⟩ : x7 = some x ∧ c7 = c := by simpa using h
      obtain ⟨i0, hi, hz0, hz1, hz2⟩ := info_parts info5
      have HX : Hid (∀ j u, V7[j]? = some u → (w6.alloc (.cells (Array.replicate V7.length (Value.int .u8 0)) 5)).cell? (x.add j) = some u) := hide (fun j u hj => cell_upd ((unhide U6).alloc _) (hx j u hj))
      clear h hx
      obtain ⟨w2, hcp, hb2, hu2⟩ := run_copy_new (P := Try.prog) (w6.alloc (.cells (Array.replicate V7.length (Value.int .u8 0)) 5)) 22 22 3 5 Try.underlying22 size5 w6.heap.size V7.length V7.length x c7 V7 (Array.replicate V7.length (Value.int .u8 0)) rfl (by simp) (heap_alloc_new _ _) (unhide HX) (unhide O7)
      have HB2 := hide hb2
      have HU2 := hide hu2
      clear hb2 hu2 HX
      go_wp2_with (at_make; refine wpList_make_alloc _ rfl (.tmp 141) (.tmp 141) 22 rfl 5 i0 _ 1 Try.underlying22 hi hz0 hz1 .i64 .i64 V7.length rfl rfl (by rw [hz2]; omega) (by unfold maxLen; omega) (List.replicate V7.length (Value.int .u8 0)) (by rw [Nat.mul_one]; exact toList_madeCells_one _ _) ?_)
      go_meet
      case rel => exact hide ⟨own_new (unhide U6).size rfl (by unfold maxLen; omega) (unhide HB2), upd_new (unhide HU2), fun x n c e => by simp at e; omega⟩
  as_aux_lemma =>
  obtain ⟨w7, hwc⟩ : ∃ x, x = wc := ⟨_, rfl⟩
  subst hwc
  obtain ⟨y7, d7, rfl⟩ := own_slice (unhide hcut).1
  have R7 := hcut
  have k7 : Hid (d7 = V7.length) := hide ((unhide hcut).2.2 _ _ _ rfl)
  have U7 : Hid (Upd (fun _ => False) w w7) := hide ((unhide U6).trans (unhide hcut).2.1)
  clear hcut
  go_upto_if 148 with fail
  go_cut [8] from 1 to 0 (fun v wx => Hid (wx.ownsRow w.heap.size 41 1 v V8.length V8 ∧ Upd (fun _ => False) w7 wx ∧ ∀ x n c, v = Value.slice x n c → c = n))
  case first => as_aux_lemma =>
    rcases unhide H8 with ⟨h, h0⟩ | ⟨x, c, h, hc, hx⟩
    · obtain ⟨rfl, h01, rfl⟩ : x8 = none ∧ V8.length = 0 ∧ c8 = 0 := by simpa using h
      have HR : Hid (w7.ownsRow w.heap.size 41 1 (.slice none V8.length 0) V8.length V8 ∧ Upd (fun _ => False) w7 w7 ∧ ∀ x n c, Value.slice none V8.length 0 = Value.slice x n c → c = n) := hide ⟨⟨by omega, .inl ⟨by rw [h01], h01⟩⟩, Upd.refl _ _, fun x n c e => by simp at e; omega⟩
      go_wp2
      go_meet
      case rel => exact HR
    · obtain ⟨rfl, rfl⟩ : x8 = some x ∧ c8 = c := by simpa using h
      obtain ⟨i0, hi, hz0, hz1, hz2⟩ := info_parts info41
      have HX : Hid (∀ j u, V8[j]? = some u → (w7.alloc (.cells (Array.replicate V8.length (Value.int .i8 0)) 41)).cell? (x.add j) = some u) := hide (fun j u hj => cell_upd ((unhide U7).alloc _) (hx j u hj))
      clear h hx
      obtain ⟨w2, hcp, hb2, hu2⟩ := run_copy_new (P := Try.prog) (w7.alloc (.cells (Array.replicate V8.length (Value.int .i8 0)) 41)) 30 30 3 41 Try.underlying30 size41 w7.heap.size V8.length V8.length x c8 V8 (Array.replicate V8.length (Value.int .i8 0)) rfl (by simp) (heap_alloc_new _ _) (unhide HX) (unhide O8)
      have HB2 := hide hb2
      have HU2 := hide hu2
      clear hb2 hu2 HX
      go_wp2_with (at_make; refine wpList_make_alloc _ rfl (.tmp 150) (.tmp 150) 30 rfl 41 i0 _ 1 Try.underlying30 hi hz0 hz1 .i64 .i64 V8.length rfl rfl (by rw [hz2]; omega) (by unfold maxLen; omega) (List.replicate V8.length (Value.int .i8 0)) (by rw [Nat.mul_one]; exact toList_madeCells_one _ _) ?_)
      go_meet
      case rel => exact hide ⟨own_new (unhide U7).size rfl (by unfold maxLen; omega) (unhide HB2), upd_new (unhide HU2), fun x n c e => by simp at e; omega⟩
  as_aux_lemma =>
  obtain ⟨w8, hwc⟩ : ∃ x, x = wc := ⟨_, rfl⟩
  subst hwc
  obtain ⟨y8, d8, rfl⟩ := own_slice (unhide hcut).1
  have R8 := hcut
  have k8 : Hid (d8 = V8.length) := hide ((unhide hcut).2.2 _ _ _ rfl)
  have U8 : Hid (Upd (fun _ => False) w w8) := hide ((unhide U7).trans (unhide hcut).2.1)
  clear hcut
  go_upto_if 157 with fail
  go_cut [9] from 1 to 0 (fun v wx => Hid (wx.ownsRow w.heap.size 41 1 v V9.length V9 ∧ Upd (fun _ => False) w8 wx ∧ ∀ x n c, v = Value.slice x n c → c = n))
  case first => as_aux_lemma =>
    rcases unhide H9 with ⟨h, h0⟩ | ⟨x, c, h, hc, hx⟩
    · obtain ⟨rfl, h01, rfl⟩ : x9 = none ∧ V9.length = 0 ∧ c9 = 0 := by simpa using h
      have HR : Hid (w8.ownsRow w.heap.size 41 1 (.slice none V9.length 0) V9.length V9 ∧ Upd (fun _ => False) w8 w8 ∧ ∀ x n c, Value.slice none V9.length 0 = Value.slice x n c → c = n) := hide ⟨⟨by omega, .inl ⟨by rw [h01], h01⟩⟩, Upd.refl _ _, fun x n c e => by simp at e; omega⟩
      go_wp2
      go_meet
      case rel => exact HR
    · obtain ⟨rfl, rfl⟩ : x9 = some x ∧ c9 = c := by simpa using h
      obtain ⟨i0, hi, hz0, hz1, hz2⟩ := info_parts info41
      have HX : Hid (∀ j u, V9[j]? = some u → (w8.alloc (.cells (Array.replicate V9.length (Value.int .i8 0)) 41)).cell? (x.add j) = some u) := hide (fun j u hj => cell_upd ((unhide U8).alloc _) (hx j u hj))
      clear h hx
      obtain ⟨w2, hcp, hb2, hu2⟩ := run_copy_new (P := Try.prog) (w8.alloc (.cells (Array.replicate V9.length (Value.int .i8 0)) 41)) 30 30 3 41 Try.underlying30 size41 w8.heap.size V9.length V9.length x c9 V9 (Array.replicate V9.length (Value.int .i8 0)) rfl (by simp) (heap_alloc_new _ _) (unhide HX) (unhide O9)
      have HB2 := hide hb2
      have HU2 := hide hu2
      clear hb2 hu2 HX
      go_wp2_with (at_make; refine wpList_make_alloc _ rfl (.tmp 159) (.tmp 159) 30 rfl 41 i0 _ 1 Try.underlying30 hi hz0 hz1 .i64 .i64 V9.length rfl rfl (by rw [hz2]; omega) (by unfold maxLen; omega) (List.replicate V9.length (Value.int .i8 0)) (by rw [Nat.mul_one]; exact toList_madeCells_one _ _) ?_)
      go_meet
      case rel => exact hide ⟨own_new (unhide U8).size rfl (by unfold maxLen; omega) (unhide HB2), upd_new (unhide HU2), fun x n c e => by simp at e; omega⟩
  as_aux_lemma =>
  obtain ⟨w9, hwc⟩ : ∃ x, x = wc := ⟨_, rfl⟩
  subst hwc
  obtain ⟨y9, d9, rfl⟩ := own_slice (unhide hcut).1
  have R9 := hcut
  have k9 : Hid (d9 = V9.length) := hide ((unhide hcut).2.2 _ _ _ rfl)
  have U9 : Hid (Upd (fun _ => False) w w9) := hide ((unhide U8).trans (unhide hcut).2.1)
  clear hcut
  go_upto_if 166 with fail
  go_cut [10] from 1 to 0 (fun v wx => Hid (wx.ownsRow w.heap.size 4 1 v V10.length V10 ∧ Upd (fun _ => False) w9 wx ∧ ∀ x n c, v = Value.slice x n c → c = n))
  case first => as_aux_lemma =>
    rcases unhide H10 with ⟨h, h0⟩ | ⟨x, c, h, hc, hx⟩
    · obtain ⟨rfl, h01, rfl⟩ : x10 = none ∧ V10.length = 0 ∧ c10 = 0 := by simpa using h
      have HR : Hid (w9.ownsRow w.heap.size 4 1 (.slice none V10.length 0) V10.length V10 ∧ Upd (fun _ => False) w9 w9 ∧ ∀ x n c, Value.slice none V10.length 0 = Value.slice x n c → c = n) := hide ⟨⟨by omega, .inl ⟨by rw [h01], h01⟩⟩, Upd.refl _ _, fun x n c e => by simp at e; omega⟩
      go_wp2
      go_meet
      case rel => exact HR
    · obtain ⟨rfl, rfl⟩ : x10 = some x ∧ c10 = c := by simpa using h
      obtain ⟨i0, hi, hz0, hz1, hz2⟩ := info_parts info4
      have HX : Hid (∀ j u, V10[j]? = some u → (w9.alloc (.cells (Array.replicate V10.length (Value.bool false)) 4)).cell? (x.add j) = some u) := hide (fun j u hj => cell_upd ((unhide U9).alloc _) (hx j u hj))
      clear h hx
      obtain ⟨w2, hcp, hb2, hu2⟩ := run_copy_new (P := Try.prog) (w9.alloc (.cells (Array.replicate V10.length (Value.bool false)) 4)) 31 31 3 4 Try.underlying31 size4 w9.heap.size V10.length V10.length x c10 V10 (Array.replicate V10.length (Value.bool false)) rfl (by simp) (heap_alloc_new _ _) (unhide HX) (unhide O10)
      have HB2 := hide hb2
      have HU2 := hide hu2
      clear hb2 hu2 HX
      go_wp2_with (at_make; refine wpList_make_alloc _ rfl (.tmp 168) (.tmp 168) 31 rfl 4 i0 _ 1 Try.underlying31 hi hz0 hz1 .i64 .i64 V10.length rfl rfl (by rw [hz2]; omega) (by unfold maxLen; omega) (List.replicate V10.length (Value.bool false)) (by rw [Nat.mul_one]; exact toList_madeCells_one _ _) ?_)
      go_meet
      case rel => exact hide ⟨own_new (unhide U9).size rfl (by unfold maxLen; omega) (unhide HB2), upd_new (unhide HU2), fun x n c e => by simp at e; omega⟩
  as_aux_lemma =>
  obtain ⟨w10, hwc⟩ : ∃ x, x = wc := ⟨_, rfl⟩
  subst hwc
  obtain ⟨y10, d10, rfl⟩ := own_slice (unhide hcut).1
  have R10 := hcut
  have k10 : Hid (d10 = V10.length) := hide ((unhide hcut).2.2 _ _ _ rfl)
  have U10 : Hid (Upd (fun _ => False) w w10) := hide ((unhide U9).trans (unhide hcut).2.1)
  clear hcut
  by_cases hq : V5.length = V4.length ∧ V6.length = V4.length ∧ V7.length = V4.length ∧ V8.length = V4.length ∧ V9.length = V4.length ∧ V10.length = V4.length
  rotate_left
  · as_aux_lemma =>
    go_upto_if 209 with fail
    all_goals first
      | (exfalso; omega)
      | (go_wp2; go_ret; exact TrueP.mk (unhide U10))
  as_aux_lemma =>
  obtain ⟨q5, q6, q7, q8, q9, q10⟩ := hq
  have l1 : V1.length = D0.length := by rw [unhide E1, B8_len]
  have l2 : V2.length = E0.length := by rw [unhide E2, I64_len]
  have l3 : V3.length = S.length := by rw [unhide E3, B8_len]
  have l4 : V4.length = A.length := by rw [unhide E4, I64_len]
  have b1 : D0.length ≤ 65536 := by omega
  have b2 : E0.length ≤ 8192 := by omega
  have b3 : S.length ≤ 262144 := by omega
  have b4 : A.length ≤ 8192 := by omega
  have b5 : d3 ≤ 1099511627776 := by have := unhide k3; omega
  clear k3 k4 k5 k6 k7 k8 k9 k10
  have T10 : Upd (fun _ => False) w10 w10 := Upd.refl _ _
  have T9 := (unhide R10).2.1.trans T10
  have T8 := (unhide R9).2.1.trans T9
  have T7 := (unhide R8).2.1.trans T8
  have T6 := (unhide R7).2.1.trans T7
  have T5 := (unhide R6).2.1.trans T6
  have T4 := (unhide R5).2.1.trans T5
  have T3 := (unhide R4).2.1.trans T4
  have RR : Rows8 w10 w.heap.size S A G Mb Q H V I (.slice y3 S.length d3) (.slice y4 A.length d4) (.slice y5 A.length d5) (.slice y6 A.length d6) (.slice y7 A.length d7) (.slice y8 A.length d8) (.slice y9 A.length d9) (.slice y10 A.length d10) :=
    ⟨by have h := own_row_step (unhide R3).1 T3 (fun _ _ h => h); rw [l3, unhide E3] at h; exact h,
     by have h := own_row_step (unhide R4).1 T4 (fun _ _ h => h); rw [l4, unhide E4] at h; exact h,
     by have h := own_row_step (unhide R5).1 T5 (fun _ _ h => h); rw [q5, l4, unhide E5] at h; exact h,
     by have h := own_row_step (unhide R6).1 T6 (fun _ _ h => h); rw [q6, l4, unhide E6] at h; exact h,
     by have h := own_row_step (unhide R7).1 T7 (fun _ _ h => h); rw [q7, l4, unhide E7] at h; exact h,
     by have h := own_row_step (unhide R8).1 T8 (fun _ _ h => h); rw [q8, l4, unhide E8] at h; exact h,
     by have h := own_row_step (unhide R9).1 T9 (fun _ _ h => h); rw [q9, l4, unhide E9] at h; exact h,
     by have h := own_row_step (unhide R10).1 T10 (fun _ _ h => h); rw [q10, l4, unhide E10] at h; exact h⟩
  have H13 := hide (units_both w.heap.size en S A G Mb Q H V I _ _ _ _ _ _ _ _ w10 RR b3 b4)
  have HRR := hide RR
  have HI1 : Hid (InV w (.slice x1 D0.length c1) (B8 D0)) := by have h := unhide H1; rw [l1, unhide E1] at h; exact h
  have HI2 : Hid (InV w (.slice x2 E0.length c2) (I64 E0)) := by have h := unhide H2; rw [l2, unhide E2] at h; exact h
  clear RR T10 T9 T8 T7 T6 T5 T4 T3 R3 R4 R5 R6 R7 R8 R9 R10 U3 U4 U5 U6 U7 U8 U9 H1 H2 H3 H4 H5 H6 H7 H8 H9 H10 O3 O4 O5 O6 O7 O8 O9 O10 qn22 qn29 qn30 qn31 HZ
  rw [q5, q6, q7, q8, q9, q10, l1, l2, l3, l4]
  clear q5 q6 q7 q8 q9 q10 l1 l2 l3 l4 E1 E2 E3 E4 E5 E6 E7 E8 E9 E10
  go_upto_if 214 with (go_at_call 13; refine (unhide H13).mono ?_; rintro r w11 ⟨b, rfl, hb, hu⟩; have HF := hide hb; have HU := hide hu; clear hb hu; cases b)
  · as_aux_lemma =>
    go_wp2
    go_ret
    exact TrueP.mk ((unhide U10).trans (unhide HU))
  as_aux_lemma =>
  have HF1 : Hid (0 < A.length → Fits A en S.length) := hide ((unhide HF) trivial)
  have U11 : Hid (Upd (fun _ => False) w w11) := hide ((unhide U10).trans (unhide HU))
  have H14 := hide (cloneBytes_any _ D0 w11 ((unhide HI1).kept (unhide U11)) (by omega))
  have H15 : Hid (∀ W, Upd (fun _ => False) w W → Calls Try.prog 15 #[.slice x2 E0.length c2] W fun r w' => ∃ v', r = .returned v' ∧ w'.ownsRow W.heap.size 3 1 v' E0.length (I64 E0) ∧ Upd (fun _ => False) W w') := hide (fun W h => cloneInts_any _ E0 W ((unhide HI2).kept h) (by omega))
  have H16 : Hid (∀ (B : Nat) (D E : List Int) (vd ve : Value) (W : World), Upd (fun _ => False) w11 W → W.ownsRow B 5 1 vd D.length (B8 D) → W.ownsRow B 3 1 ve E.length (I64 E) → w11.heap.size ≤ B → B ≤ W.heap.size → D.length ≤ 65536 → E.length ≤ 8192 →
      Calls Try.prog 16 #[.int .i64 en, vd, ve, .slice y3 S.length d3, .slice y4 A.length d4, .slice y5 A.length d5, .slice y6 A.length d6, .slice y7 A.length d7, .slice y8 A.length d8, .slice y9 A.length d9, .slice y10 A.length d10, .int .i64 mp] W (ZzPost B (cutRun S (mkL A G Mb Q H V I) en.toNat (limI mp) (mkL A G Mb Q H V I).length 0 D E) vd ve W)) := hide (fun B D E vd ve W h hd he hB1 hB2 hD hE => by
    have R11 := (unhide HRR).kept (unhide HU)
    exact zz_both B w.heap.size en mp S A G Mb Q H V D E I _ _ _ _ _ _ _ _ vd ve W (R11.kept h) hd he hB2 (fun g hg => by have := (R11.r3.lt g hg).2; omega) (unhide HF1) (unhide GOOD) hD hE b3 b4 (fun x c e => by simp at e; omega))
  clear HF H13
  generalize hL : mkL A G Mb Q H V I = L at H16
  have HL := hide hL
  clear hL
  as_aux_lemma =>
  go_wp2_with fail
  refine (unhide H14).mono ?_
  rintro r w12 ⟨v', rfl, ho, hu⟩
  obtain ⟨xd, cd, rfl⟩ := own_slice ho
  have HOd := hide ho
  have HUd := hide hu
  clear ho hu
  as_aux_lemma =>
  go_wp2_with fail
  refine (unhide H15 w12 ((unhide U11).trans (unhide HUd))).mono ?_
  rintro r w13 ⟨v', rfl, ho, hu⟩
  obtain ⟨xe, ce, rfl⟩ := own_slice ho
  have HOe := hide ho
  have HUe := hide hu
  clear ho hu
  as_aux_lemma =>
  go_wp2_with fail
  refine (unhide H16 w11.heap.size D0 E0 (.slice xd D0.length cd) (.slice xe E0.length ce) w13 ((unhide HUd).trans (unhide HUe)) (own_row_step (unhide HOd) (unhide HUe) (fun _ _ h => h)) (own_base (unhide HOe) (unhide HUd).size) (Nat.le_refl _) (Nat.le_trans (unhide HUd).size (unhide HUe).size) b1 b2).mono ?_
  rintro r w14 ⟨vda, vea, era, rfl, hea, hda, hxa, hua⟩
  obtain ⟨xda, cda, nda, rfl, hnda⟩ := own_slice2 hda
  obtain ⟨xea, cea, nea, rfl, hnea⟩ := own_slice2 hxa
  have UA : Hid (Upd (fun _ => False) w11 w14) := hide (Ran.upd_a ((unhide HUd).trans (unhide HUe)) (fun g hg => ((unhide HOd).lt g hg).1) (fun g hg => Nat.le_trans (unhide HUd).size ((unhide HOe).lt g hg).1) hua)
  have PA := hide (And.intro hea (And.intro hda (And.intro hxa hua)))
  clear hea hda hxa hua
  as_aux_lemma =>
  have UW : Hid (Upd (fun _ => False) w w14) := hide ((unhide U11).trans (unhide UA))
  have HD : Hid (InV w14 (.slice x1 D0.length c1) (B8 D0)) := hide ((unhide HI1).kept (unhide UW))
  have HE : Hid (InV w14 (.slice x2 E0.length c2) (I64 E0)) := hide ((unhide HI2).kept (unhide UW))
  have R8 := hide ((unhide HRR).kept ((unhide HU).trans (unhide UA)))
  clear H14 H15 H16 HUd HUe HOd HOe HI1 HI2 HRR HU U10 U11 UA
  generalize hF : cutRun S L en.toNat (limI mp) L.length 0 D0 E0 = F at PA hnda hnea
  have HFF := hide hF
  clear hF
  as_aux_lemma =>
  dsimp only
  have RI : Hid (InV w14 (.slice xda nda cda) (B8 F.1) ∧ InV w14 (.slice xea nea cea) (I64 F.2.1)) := hide ⟨own_inV (unhide PA).2.1, own_inV (unhide PA).2.2.1⟩
  have hL2 : Hid (A.length = L.length) := hide (by rw [← unhide HL, mkL_len])
  obtain ⟨rest, post, fin, fe1, fe2, fchk, fok, fbad⟩ := cutRun_chk S L en.toNat (limI mp) L.length 0 D0 E0 (by omega) (by omega)
  rw [unhide HFF] at fe1 fe2 fok fbad
  have CHK : Hid (Chk S L en.toNat (limI mp) F.1 D0.length 0 (F.2.1.drop E0.length) fin) := hide (by rw [fe1, fe2, List.drop_left' rfl]; exact fchk)
  have FE : Hid (F.1 = D0 ++ post ∧ F.2.1 = E0 ++ rest) := hide ⟨fe1, fe2⟩
  have FOK := hide (And.intro fok fbad)
  have ER := hide (unhide PA).1
  have NN : Hid (nda = F.1.length ∧ nea = F.2.1.length ∧ D0.length ≤ nda ∧ E0.length ≤ nea ∧ nda ≤ maxLen ∧ nea ≤ maxLen) := hide (by
    have h1 := (unhide RI).1.len; have h2 := (unhide RI).2.len
    rw [B8_len] at h1; rw [I64_len] at h2
    have m1 := own_max (unhide PA).2.1
    have m2 := own_max (unhide PA).2.2.1
    have e1 := congrArg List.length fe1
    have e2 := congrArg List.length fe2
    simp only [List.length_append] at e1 e2
    omega)
  clear fe1 fe2 fchk fok fbad PA hnda hnea
  obtain ⟨ni1, ni2, ni3, ni4⟩ : (D0.length : Int) ≤ (nda : Int) ∧ (E0.length : Int) ≤ (nea : Int) ∧ (nda : Int) < 9223372036854775808 ∧ (nea : Int) < 9223372036854775808 := by
    have := unhide NN; unfold maxLen at this; omega
  have nf1 : ¬ (nda : Int) < (D0.length : Int) := by omega
  have nf2 : ¬ (nea : Int) < (E0.length : Int) := by omega
  have bd : (D0.length : Int) ≤ 65536 := by omega
  have be : (E0.length : Int) ≤ 8192 := by omega
  have bA : (A.length : Int) ≤ 8192 := by omega
  have bS : (S.length : Int) ≤ 262144 := by omega
  repeat (first | go_values | go_skip | go_guarded | go_step | go_upon)
  go_loopw [39] (fun i wr => ∃ k : Nat, i = .int .i64 (k : Int) ∧ k ≤ D0.length ∧ Hid (Upd (fun _ => False) w14 wr)) (fun i _ => D0.length - (intOf i).toNat)
  case atStart => exact ⟨0, by go_num, by omega, hide (Upd.refl _ _)⟩
  case round =>
  obtain ⟨k, rfl, hk, UR⟩ := hrel
  have hkb : (k : Int) ≤ 65536 := by omega
  by_cases hkl : k < D0.length
  · as_aux_lemma =>
    have hl1 : (k : Int) < (D0.length : Int) := by omega
    have hl2 : (k : Int) < (nda : Int) := by omega
    obtain ⟨ga, oa, rfl, hc1⟩ := row8 ((unhide RI).1.kept (unhide UR)) (k := k) (by have := unhide NN; omega)
    obtain ⟨gd, od, rfl, hc2⟩ := row8 ((unhide HD).kept (unhide UR)) hkl
    rw [(unhide FE).1, getD_app_left hkl] at hc1
    generalize D0.getD k 0 = z at hc1 hc2
    repeat (first | go_values | go_skip | go_guarded | go_step | go_upon)
    go_quiet (fail)
    all_goals repeat (first | go_values | go_skip | go_guarded | go_step | go_upon)
    all_goals go_roundw
    case rel => exact ⟨k + 1, by go_num, by omega, hide ((unhide UR).drewN _)⟩
    case measure => simp [intOf]; omega
  as_aux_lemma =>
  have hl1 : ¬ (k : Int) < (D0.length : Int) := by omega
  clear hk hkl
  repeat (first | go_values | go_skip | go_guarded | go_step | go_upon)
  go_loopw [40] (fun i wr => ∃ k : Nat, i = .int .i64 (k : Int) ∧ k ≤ E0.length ∧ Hid (Upd (fun _ => False) w14 wr)) (fun i _ => E0.length - (intOf i).toNat)
  case atStart => exact ⟨0, by go_num, by omega, UR⟩
  case round =>
  clear UR hl1 hkb
  obtain ⟨k, rfl, hk, UR⟩ := hrel
  have hkb : (k : Int) ≤ 8192 := by omega
  by_cases hkl : k < E0.length
  · as_aux_lemma =>
    have hl1 : (k : Int) < (E0.length : Int) := by omega
    have hl2 : (k : Int) < (nea : Int) := by omega
    obtain ⟨ga, oa, rfl, hc1⟩ := row64 ((unhide RI).2.kept (unhide UR)) (k := k) (by have := unhide NN; omega)
    obtain ⟨gd, od, rfl, hc2⟩ := row64 ((unhide HE).kept (unhide UR)) hkl
    rw [(unhide FE).2, getD_app_left hkl] at hc1
    generalize E0.getD k 0 = z at hc1 hc2
    repeat (first | go_values | go_skip | go_guarded | go_step | go_upon)
    go_quiet (fail)
    all_goals repeat (first | go_values | go_skip | go_guarded | go_step | go_upon)
    all_goals go_roundw
    case rel => exact ⟨k + 1, by go_num, by omega, hide ((unhide UR).drewN _)⟩
    case measure => simp [intOf]; omega
  as_aux_lemma =>
  have hl1 : ¬ (k : Int) < (E0.length : Int) := by omega
  clear hk hkl
  repeat (first | go_values | go_skip | go_guarded | go_step | go_upon)
  as_aux_lemma =>
  have CHK2 : Hid (Chk S L en.toNat (wrap64 (mp - 4)) F.1 D0.length 0 (F.2.1.drop E0.length) fin) := CHK
  clear CHK hl1 hkb HFF
  generalize wrap64 (mp - 4) = lim at CHK2 ⊢
  go_loopw [42, 43, 44] (fun a b c wr => ∃ p i k : Nat, a = .int .i64 (p : Int) ∧ b = .int .i64 (i : Int) ∧ c = .int .i64 (k : Int) ∧ E0.length ≤ k ∧ k ≤ nea ∧ p ≤ nda ∧ i ≤ A.length ∧ Hid (Chk S L en.toNat lim F.1 p i (F.2.1.drop k) fin) ∧ Hid (Upd (fun _ => False) w14 wr)) (fun _ _ c _ => nea - (intOf c).toNat)
  case atStart => exact ⟨D0.length, 0, E0.length, by go_num, by go_num, by go_num, by omega, by omega, by omega, by omega, CHK2, UR⟩
  case round =>
  as_aux_lemma =>
  clear UR CHK2
  obtain ⟨p, i, kk, rfl, rfl, rfl, hk0, hk, hp, hi, HC, UR⟩ := hrel
  by_cases hkl : kk < nea
  · as_aux_lemma =>
    have hl1 : (kk : Int) < (nea : Int) := by omega
    have hl4 : kk < F.2.1.length := by have := (unhide NN).2.1; omega
    have hiL := (unhide HC).pos (by simp; omega)
    have hiA : i < A.length := by have := unhide hL2; omega
    have FT := unhide HF1 (by omega)
    have lie : Lie L en.toNat := by rw [← unhide HL]; exact mkL_lie FT
    have gd : ∀ (j : Nat) (y : Un), L[j]? = some y → y.good := by
      rw [← unhide HL]
      intro j y hy
      obtain ⟨h1, h2⟩ := mkL_get hy
      subst h2
      exact unhide GOOD j h1
    have hA : A[0]? = some (A.getD 0 0) := get_some rfl (by omega)
    have hA1 := FT.nonneg 0 _ hA
    have hA2 := FT.lt_en (A.length - 1) 0 _ (by omega) hA
    have hA3 := FT.en
    have hen : (en.toNat : Int) = en := by omega
    have hen2 : (en.toNat + 7) / 8 ≤ S.length := by omega
    have heb : en ≤ 2097152 := by omega
    obtain ⟨e, dl, s0, sb, eb, st, j, x, W, ST⟩ := (unhide HC).step5 hl4 gd lie hen2
    have hxx : x = mkUn A G Mb Q H V I i := by have h := ST.hx; rw [← unhide HL] at h; exact (mkL_get h).2
    have LIE := hide lie
    have FTH := hide FT
    have HST := hide ST
    have HXX := hide hxx
    have HEN := hide hen
    obtain ⟨ge, oe, rfl, hce⟩ := row64 ((unhide RI).2.kept (unhide UR)) hl4
    rw [ST.he] at hce
    have nd := (unhide NN).1
    obtain ⟨e1, e2, e3⟩ : (p : Int) + 4 ≤ (e : Int) ∧ (e : Int) ≤ (nda : Int) ∧ (p : Int) ≤ (nda : Int) := by have := ST.hdl; have := ST.heD; omega
    have hf1 : ¬ (A.length : Int) ≤ (i : Int) := by omega
    have hf2 : ¬ (e : Int) < (p : Int) + 4 := by omega
    have hf3 : ¬ (nda : Int) < (e : Int) := by omega
    have hib : (i : Int) ≤ 8192 := by omega
    have hin : (i : Int) < (A.length : Int) := by omega
    have hkb : (kk : Int) < 9223372036854775808 := by omega
    clear lie gd hA hA1 hA2 hA3 hen hen2 ST hxx FT nd hl4 hiL HC GOOD HF1
    repeat (first | go_values | go_skip | go_guarded | go_step | go_upon)
    as_aux_lemma =>
    have hx := (unhide HST).hx
    have HK : Hid (x.ok = true ∧ x.good ∧ x.g = G.getD i 0 ∧ x.m = Mb.getD i 0 ∧ x.q = Q.getD i 0 ∧ x.h = H.getD i 0 ∧ x.u = V.getD i 0 ∧ x.i = I.getD i false ∧ A.getD i 0 = (s0 : Int)) := hide (by
      have h1 := (unhide HST).hs0
      have h2 := (unhide FTH).nonneg i _ (get_some rfl hiA)
      rw [unhide HXX] at h1
      refine ⟨(unhide HST).ok, (unhide HST).good, by rw [unhide HXX]; rfl, by rw [unhide HXX]; rfl, by rw [unhide HXX]; rfl, by rw [unhide HXX]; rfl, by rw [unhide HXX]; rfl, by rw [unhide HXX]; rfl, ?_⟩
      have : s0 = (A.getD i 0).toNat := h1
      omega)
    clear hx
    go_cut [330] from 1 to 0 (fun v wx => v = .bool false ∧ Hid (Upd (fun _ => False) w14 wx))
    case first => as_aux_lemma =>
      have RK := (unhide R8).kept (unhide UR)
      obtain ⟨hok, hgood, k1, k2, k3, k4, k5, k6, k7⟩ := unhide HK
      obtain ⟨g5, o5, rfl, h5⟩ := row8 (own_inV RK.r5) (k := i) (by have := RK.r5.1; rw [B8_len] at this; omega)
      obtain ⟨g6, o6, rfl, h6⟩ := row8 (own_inV RK.r6) (k := i) (by have := RK.r6.1; rw [B8_len] at this; omega)
      obtain ⟨g7, o7, rfl, h7⟩ := row8 (own_inV RK.r7) (k := i) (by have := RK.r7.1; rw [B8_len] at this; omega)
      obtain ⟨g8, o8, rfl, h8⟩ := rowI8 (own_inV RK.r8) (k := i) (by have := RK.r8.1; rw [I8_len] at this; omega)
      obtain ⟨g9, o9, rfl, h9⟩ := rowI8 (own_inV RK.r9) (k := i) (by have := RK.r9.1; rw [I8_len] at this; omega)
      rw [← k1] at h5
      rw [← k2] at h6
      rw [← k3] at h7
      rw [← k4] at h8
      rw [← k5] at h9
      have H17 : Hid (∀ W, Calls Try.prog 17 #[.int .u8 x.g, .int .u8 x.m, .int .u8 x.q, .int .i8 x.h, .int .i8 x.u] W fun r w' => r = .returned (.bool true) ∧ w' = W) := hide (fun W => by
        have h := state_any x.g x.m x.q x.h x.u W hgood.1 hgood.2.1 hgood.2.2
        have e : okSt x.g x.m x.q x.h x.u = true := hok
        rw [e] at h
        exact h)
      clear RK hok hgood k1 k2 k3 k4 k5 k6 k7
      generalize x.g = xg at *
      generalize x.m = xm at *
      generalize x.q = xq at *
      generalize x.h = xh at *
      generalize x.u = xu at *
      go_quiet (first | (go_at_call 17; exact Calls.quiet_of_same (unhide H17 _)))
      repeat (first | go_values | go_skip | go_guarded | go_step | go_upon)
      go_meet
      case rel => exact ⟨rfl, hide ((unhide UR).drewN _)⟩
    obtain ⟨rfl, UC⟩ := hcut
    obtain ⟨w16, hwc⟩ : ∃ x, x = wc := ⟨_, rfl⟩
    subst hwc
    clear UR
    as_aux_lemma =>
    obtain ⟨gd, od, rfl, hcd1, hcap, hcd⟩ := ((unhide RI).1.kept (unhide UC)).at (by rw [B8_len]; have := (unhide NN).1; omega)
    have H18 : Hid (Calls Try.prog 18 #[.slice (some ⟨gd, od + p, none⟩) (e - p) (cda - p)] w16 fun r w' => r = .returned (.int .u32 W) ∧ Upd (fun _ => False) w16 w') := hide (by
      have hT := unhide HST
      have hn := (unhide NN).1
      have hc0 := hcd p _ (B8_get (n := F.1.length) rfl (by omega))
      have hc1 := hcd (p + 1) _ (B8_get (n := F.1.length) rfl (by omega))
      have hc2 := hcd (p + 2) _ (B8_get (n := F.1.length) rfl (by omega))
      have hc3 := hcd (p + 3) _ (B8_get (n := F.1.length) rfl (by omega))
      rw [hT.b0] at hc0
      rw [hT.b1] at hc1
      rw [hT.b2] at hc2
      rw [hT.b3] at hc3
      have bb := be4_bd W hT.w0 hT.w1
      have h := hword_any gd (od + p) (e - p) (cda - p) _ _ _ _ w16 (by omega) hc0 (by rw [Nat.add_assoc]; exact hc1) (by rw [Nat.add_assoc]; exact hc2) (by rw [Nat.add_assoc]; exact hc3) bb.1.1 bb.1.2 bb.2.1.1 bb.2.1.2 bb.2.2.1.1 bb.2.2.1.2 bb.2.2.2.1 bb.2.2.2.2
      rw [be4_word W hT.w0 hT.w1] at h
      exact h)
    have he5 : (e : Int) ≤ (cda : Int) := by omega
    have he6 : (p : Int) ≤ (e : Int) := by omega
    clear hcd1 hcap hcd
    repeat (first | go_values | go_skip | go_guarded | go_step | go_upon)
    refine (unhide H18).mono ?_
    rintro r w17 ⟨rfl, hu⟩
    dsimp only
    have UR : Hid (Upd (fun _ => False) w14 w17) := hide ((unhide UC).trans hu)
    clear hu UC H18
    obtain ⟨W0, W1⟩ : 0 ≤ W ∧ W < 4294967296 := ⟨(unhide HST).w0, (unhide HST).w1⟩
    have a29 : bits .and .u32 (W / 536870912) 7 = (sb : Int) := by rw [← (unhide HST).f1]; exact and7 _ (by omega) (by omega)
    have a26 : bits .and .u32 (W / 67108864) 7 = (eb : Int) := by rw [← (unhide HST).f2]; exact and7 _ (by omega) (by omega)
    have a24 : bits .and .u32 (W / 16777216) 1 = 1 := (and1 _ (by omega) (by omega)).trans (unhide HST).f3
    have sb8 : (sb : Int) < 8 := by have := (unhide HST).sbv; omega
    have eb8 : (eb : Int) < 8 := by have := (unhide HST).eb8; omega
    go_upto_region 91 with fail
    as_aux_lemma =>
    clear a24
    have HW5 : Hid (bits .and .u32 (W / 33554432) 1 = flagI x.i ∧ bits .and .u32 (W / 1048576) 15 = x.g ∧ bits .and .u32 (W / 32768) 31 = x.m ∧ bits .and .u32 (W / 1024) 31 = x.q ∧ bits .and .u32 (W / 32) 31 = x.h % 32 ∧ bits .and .u32 W 31 = x.u % 32) := hide
      ⟨(and1 _ (by omega) (by omega)).trans (unhide HST).f4, (and15 _ (by omega) (by omega)).trans (unhide HST).f5, (and31p _ (by omega) (by omega)).trans (unhide HST).f6, (and31p _ (by omega) (by omega)).trans (unhide HST).f7, (and31p _ (by omega) (by omega)).trans (unhide HST).f8, (and31p _ (by omega) (by omega)).trans (unhide HST).f9⟩
    go_cut [356] from 1 to 0 (fun v wx => v = .bool false ∧ Hid (Upd (fun _ => False) w14 wx))
    case first => as_aux_lemma =>
      have RK := (unhide R8).kept (unhide UR)
      obtain ⟨hok, hgood, k1, k2, k3, k4, k5, k6, k7⟩ := unhide HK
      obtain ⟨g10, o10, rfl, h10⟩ := rowBo (own_inV RK.r10) (k := i) (by have := RK.r10.1; rw [Bo_len] at this; omega)
      rw [← k6] at h10
      have a25 := (unhide HW5).1
      clear RK hok hgood k1 k2 k3 k4 k5 k6 k7
      cases hxi : x.i with
      | false =>
        rw [hxi] at a25 h10
        have a25 : bits .and .u32 (W / 33554432) 1 = 0 := a25
        clear hxi
        repeat (first | go_values | go_skip | go_guarded | go_step | go_upon)
        go_meet
        case rel => exact ⟨rfl, UR⟩
      | true =>
        rw [hxi] at a25 h10
        have a25 : bits .and .u32 (W / 33554432) 1 = 1 := a25
        clear hxi
        repeat (first | go_values | go_skip | go_guarded | go_step | go_upon)
        go_meet
        case rel => exact ⟨rfl, UR⟩
    obtain ⟨rfl, UC⟩ := hcut
    obtain ⟨w18, hwc⟩ : ∃ x, x = wc := ⟨_, rfl⟩
    subst hwc
    clear UR
    as_aux_lemma =>
    go_upto_region 93 with fail
    go_cut [387] from 1 to 0 (fun v wx => v = .bool false ∧ Hid (Upd (fun _ => False) w14 wx))
    case first => as_aux_lemma =>
      have RK := (unhide R8).kept (unhide UC)
      obtain ⟨hok, hgood, k1, k2, k3, k4, k5, k6, k7⟩ := unhide HK
      obtain ⟨g5, o5, rfl, h5⟩ := row8 (own_inV RK.r5) (k := i) (by have := RK.r5.1; rw [B8_len] at this; omega)
      obtain ⟨g6, o6, rfl, h6⟩ := row8 (own_inV RK.r6) (k := i) (by have := RK.r6.1; rw [B8_len] at this; omega)
      obtain ⟨g7, o7, rfl, h7⟩ := row8 (own_inV RK.r7) (k := i) (by have := RK.r7.1; rw [B8_len] at this; omega)
      rw [← k1] at h5
      rw [← k2] at h6
      rw [← k3] at h7
      obtain ⟨_, b1, b2, b3, _, _⟩ := unhide HW5
      have hk2 := of_decide_eq_true hok
      obtain ⟨c1, c2, c3⟩ := hgood
      have d1 : x.g ≤ 12 := hk2.1
      have d2 : x.m ≤ 31 := hk2.2.1
      have d3 : x.q ≤ 31 := hk2.2.2.1
      clear RK hok k1 k2 k3 k4 k5 k6 k7 hk2
      generalize x.g = xg at *
      generalize x.m = xm at *
      generalize x.q = xq at *
      repeat (first | go_values | go_skip | go_guarded | go_step | go_upon)
      go_meet
      case rel => exact ⟨rfl, UC⟩
    obtain ⟨rfl, UR⟩ := hcut
    obtain ⟨w19, hwc⟩ : ∃ x, x = wc := ⟨_, rfl⟩
    subst hwc
    clear UC
    as_aux_lemma =>
    repeat (first | go_values | go_skip | go_guarded | go_step | go_upon)
    go_cut [408] from 1 to 0 (fun v wx => v = .bool false ∧ Hid (Upd (fun _ => False) w14 wx))
    case first => as_aux_lemma =>
      have RK := (unhide R8).kept (unhide UR)
      obtain ⟨hok, hgood, k1, k2, k3, k4, k5, k6, k7⟩ := unhide HK
      obtain ⟨g8, o8, rfl, h8⟩ := rowI8 (own_inV RK.r8) (k := i) (by have := RK.r8.1; rw [I8_len] at this; omega)
      obtain ⟨g9, o9, rfl, h9⟩ := rowI8 (own_inV RK.r9) (k := i) (by have := RK.r9.1; rw [I8_len] at this; omega)
      rw [← k4] at h8
      rw [← k5] at h9
      obtain ⟨_, _, _, _, b4, b5⟩ := unhide HW5
      have hk2 := of_decide_eq_true hok
      have d1 : -15 ≤ x.h := hk2.2.2.2.1
      have d2 : x.h ≤ 15 := hk2.2.2.2.2.1
      have d3 : -15 ≤ x.u := hk2.2.2.2.2.2.1
      have d4 : x.u ≤ 15 := hk2.2.2.2.2.2.2.1
      clear RK hok hgood k1 k2 k3 k4 k5 k6 k7 hk2
      obtain ⟨xh, hxh⟩ : ∃ y, y = x.h := ⟨_, rfl⟩
      obtain ⟨xu, hxu⟩ : ∃ y, y = x.u := ⟨_, rfl⟩
      rw [← hxh] at b4 d1 d2 h8
      rw [← hxu] at b5 d3 d4 h9
      clear hxh hxu
      have H19 : Hid (∀ (y : Int) (W : World), -15 ≤ y → y ≤ 15 → Calls Try.prog 19 #[.int .u32 (y % 32)] W fun r w' => r = .returned (.int .i64 y) ∧ w' = W) := hide (fun y W h1 h2 => sext_any y W h1 h2)
      go_quiet (first | (exact Calls.quiet_of_same (unhide H19 _ _ (by assumption) (by assumption))))
      repeat (first | go_values | go_skip | go_guarded | go_step | go_upon)
      go_meet
      case rel => exact ⟨rfl, hide ((unhide UR).drewN _)⟩
    obtain ⟨rfl, UC⟩ := hcut
    obtain ⟨w20, hwc⟩ : ∃ x, x = wc := ⟨_, rfl⟩
    subst hwc
    clear UR HW5 W0 W1 a29 a26
    as_aux_lemma =>
    obtain ⟨c, hc⟩ : ∃ c : Nat, c = st - s0 := ⟨_, rfl⟩
    obtain ⟨off, hoff⟩ : ∃ o : Nat, o = s0 / 8 := ⟨_, rfl⟩
    have q1 : (e : Int) - (p : Int) - 4 = (dl : Int) := by have := (unhide HST).hdl; omega
    have q2 : 8 * (dl : Int) - (sb : Int) - (eb : Int) = (c : Int) := by have := (unhide HST).cnt; have := (unhide HST).lt; omega
    have q3 : ¬ (c : Int) ≤ 0 := by have := (unhide HST).lt; omega
    have q3b : ¬ c = 0 := by omega
    have q4 : ¬ (s0 : Int) < (sb : Int) := by have := (unhide HST).sbv; omega
    have q5 : ((s0 : Int) - (sb : Int)).tmod 8 = 0 := by have := (unhide HST).sbv; have h : (s0 : Int) - (sb : Int) = 8 * ((s0 / 8 : Nat) : Int) := by omega
                                                         rw [h]; exact Int.mul_tmod_right _ _
    have q6 : ((s0 : Int) - (sb : Int)).tdiv 8 = (off : Int) := by
      have := (unhide HST).sbv
      have h : (s0 : Int) - (sb : Int) = ((s0 / 8 : Nat) : Int) * 8 := by omega
      rw [h, hoff]; exact Int.mul_tdiv_cancel _ (by omega)
    have q7 : ¬ (S.length : Int) < (off : Int) + (dl : Int) := by have := (unhide HST).room; omega
    have q8 : (dl : Int) ≤ 262144 := by have := (unhide HST).room; omega
    have q9 : (s0 : Int) ≤ 2097152 := by have := (unhide HST).lt; have := (unhide HST).sten; have := unhide HEN; omega
    have q10 : (off : Int) ≤ 262144 := by omega
    have q11 : (s0 : Int) + (c : Int) = (st : Int) := by have := (unhide HST).lt; omega
    have q12 : (c : Int) ≤ 2097152 := by omega
    have q13 : (st : Int) ≤ 2097152 := by have := (unhide HST).sten; have := unhide HEN; omega
    have hA : A[i]? = some (A.getD i 0) := get_some rfl hiA
    obtain ⟨ga, oa, rfl, hca⟩ := row64 (own_inV ((unhide R8).kept (unhide UC)).r4) hiA
    rw [(unhide HK).2.2.2.2.2.2.2.2] at hca
    have HOF := hide hoff
    have HCC := hide hc
    clear hA hoff hc
    repeat (first | go_values | go_skip | go_guarded | go_step | go_upon)
    as_aux_lemma =>
    go_loopw [53] (fun b wr => ∃ t : Nat, b = .int .i64 (t : Int) ∧ t ≤ dl ∧ Hid (Upd (fun _ => False) w14 wr)) (fun b _ => dl - (intOf b).toNat)
    case atStart => exact ⟨0, by go_num, by omega, UC⟩
    case round =>
    clear UC hca
    obtain ⟨t, rfl, ht, UR⟩ := hrel
    have htb : (t : Int) ≤ 262144 := by omega
    by_cases htl : t < dl
    · as_aux_lemma =>
      have hl2 : (t : Int) < (dl : Int) := by omega
      have hl3 : (p : Int) + 4 + (t : Int) < (nda : Int) := by omega
      have hl4 : ((p : Int) + 4 + (t : Int)).toNat = p + 4 + t := by omega
      have hl5 : (off : Int) + (t : Int) < (S.length : Int) := by omega
      have hl6 : ((off : Int) + (t : Int)).toNat = off + t := by omega
      have hc1 := row8k ((unhide RI).1.kept (unhide UR)) (k := p + 4 + t) (by have := (unhide NN).1; omega)
      obtain ⟨gs, os, rfl, hc2⟩ := row8 (own_inV ((unhide R8).kept (unhide UR)).r3) (k := off + t) (by omega)
      rw [(unhide HST).same t htl, ← unhide HOF] at hc1
      generalize S.getD (off + t) 0 = z at hc1 hc2
      repeat (first | go_values | go_skip | go_guarded | go_step | go_upon)
      go_quiet (fail)
      repeat (first | go_values | go_skip | go_guarded | go_step | go_upon)
      go_roundw
      case rel => exact ⟨t + 1, by go_num, by omega, hide ((unhide UR).drewN _)⟩
      case measure => simp [intOf]; omega
    as_aux_lemma =>
    have hl2 : ¬ (t : Int) < (dl : Int) := by omega
    clear ht htl
    repeat (first | go_values | go_skip | go_guarded | go_step | go_upon)
    go_loopw [55] (fun b wr => ∃ r : Nat, b = .int .i64 (r : Int) ∧ i + 1 ≤ r ∧ r ≤ j ∧ Hid (Upd (fun _ => False) w14 wr)) (fun b _ => j - (intOf b).toNat)
    case atStart => exact ⟨i + 1, by go_num, by omega, (unhide HST).ij, UR⟩
    case round =>
    clear UR hl2 htb
    obtain ⟨r, rfl, hr1, hr2, UR⟩ := hrel
    have hjA : j ≤ A.length := by have := (unhide HST).jn; have := unhide hL2; omega
    have hrb : (r : Int) ≤ 8192 := by omega
    have HUA : Hid (∀ m, m < A.length → (ua L m : Int) = A.getD m 0) := hide (fun m hm => by rw [← unhide HL]; exact mkL_ua hm ((unhide FTH).nonneg m _ (get_some rfl hm)))
    by_cases hrl : r < j
    · as_aux_lemma =>
      have hl2 : (r : Int) < (A.length : Int) := by omega
      have hc1 := row64k (own_inV ((unhide R8).kept (unhide UR)).r4) (k := r) (by omega)
      have hz : A.getD r 0 < (st : Int) := by
        have h1 := uu_lt (unhide LIE) hrl (unhide HST).jn
        rw [← (unhide HST).hst] at h1
        have h2 := unhide HUA r (by omega)
        omega
      generalize A.getD r 0 = z at hc1 hz
      repeat (first | go_values | go_skip | go_guarded | go_step | go_upon)
      go_roundw
      case rel => exact ⟨r + 1, by go_num, by omega, by omega, UR⟩
      case measure => simp [intOf]; omega
    as_aux_lemma =>
    obtain rfl : r = j := by omega
    clear hrl hr2
    have hi2 : (i : Int) + 1 ≤ (r : Int) := by omega
    by_cases hjn : r < A.length
    · as_aux_lemma =>
      have hl2 : (r : Int) < (A.length : Int) := by omega
      have hc1 := row64k (own_inV ((unhide R8).kept (unhide UR)).r4) (k := r) hjn
      rw [← unhide HUA r hjn, ← uu_at (en := en.toNat) (by have := unhide hL2; omega), ← (unhide HST).hst] at hc1
      go_upto_region 119 with fail
      go_cut [503] from 1 to 0 (fun v wx => v = .bool false ∧ wx = wr)
      case first => as_aux_lemma =>
        have hsm := (unhide HST).small
        by_cases h1 : i + 1 < r
        · have h2 : (1 : Int) < (r : Int) - (i : Int) := by omega
          have h3 : ¬ lim < (dl : Int) := by have := hsm h1; omega
          clear hsm
          repeat (first | go_values | go_skip | go_guarded | go_step | go_upon)
          go_meet
          case rel => exact ⟨rfl, rfl⟩
        · have h2 : ¬ (1 : Int) < (r : Int) - (i : Int) := by omega
          clear hsm
          repeat (first | go_values | go_skip | go_guarded | go_step | go_upon)
          go_meet
          case rel => exact ⟨rfl, rfl⟩
      obtain ⟨rfl, hwc⟩ := hcut
      subst hwc
      as_aux_lemma =>
      go_upto_if 511 with fail
      go_cut [57, 511] from 1 to 0 (fun v _ wx => v = .int .i64 ((ue L en.toNat r : Nat) : Int) ∧ wx = wc)
      case first => as_aux_lemma =>
        by_cases h1 : r + 1 < A.length
        · have h2 : (r : Int) + 1 < (A.length : Int) := by omega
          have h3 : ((r : Int) + 1).toNat = r + 1 := by omega
          have hc2 := row64k (own_inV ((unhide R8).kept (unhide UR)).r4) (k := r + 1) h1
          rw [← unhide HUA (r + 1) h1, ← uu_at (en := en.toNat) (by have := unhide hL2; omega), ← ue_uu] at hc2
          rw [decide_eq_true h2]
          repeat (first | go_values | go_skip | go_guarded | go_step | go_upon)
          go_meet
          case rel => exact ⟨rfl, rfl⟩
        · have h2 : ¬ (r : Int) + 1 < (A.length : Int) := by omega
          have h4 : ((ue L en.toNat r : Nat) : Int) = en := by
            have e : r + 1 = L.length := by have := unhide hL2; omega
            have e2 : ue L en.toNat r = en.toNat := by rw [ue_uu, e, uu_end]
            rw [e2]
            exact unhide HEN
          have H4 := hide h4
          clear h4
          rw [decide_eq_false h2]
          repeat (first | go_values | go_skip | go_guarded | go_step | go_upon)
          go_meet
          case rel => exact ⟨by rw [unhide H4], rfl⟩
      obtain ⟨rfl, hwc2⟩ := hcut
      subst hwc2
      as_aux_lemma =>
      obtain ⟨nx, hnx⟩ : ∃ nx, nx = ue L en.toNat r := ⟨_, rfl⟩
      rw [← hnx]
      have hbig := (unhide HST).big (by have := unhide hL2; omega)
      rw [← hnx] at hbig
      have hnb : (nx : Int) ≤ 2097152 := by
        have h1 := ((unhide LIE).ue_bd (i := i) (k := r) (by omega) (by have := unhide hL2; omega)).2
        have h2 := unhide HEN
        rw [← hnx] at h1
        omega
      obtain ⟨n1, hn1⟩ : ∃ n1 : Nat, n1 = (nx + 7) / 8 := ⟨_, rfl⟩
      have t1 : ((nx : Int) + 7).tdiv 8 = (n1 : Int) := by
        rw [hn1, Int.tdiv_eq_ediv_of_nonneg (by omega)]
        omega
      have t2 : (s0 : Int).tdiv 8 = (off : Int) := by
        rw [unhide HOF, Int.tdiv_eq_ediv_of_nonneg (by omega)]
        omega
      have t3 : ¬ (n1 : Int) - (off : Int) ≤ lim := by
        rw [hn1, unhide HOF]
        omega
      have t4 : (n1 : Int) ≤ 262145 := by omega
      clear hnx hbig hn1
      repeat (first | go_values | go_skip | go_guarded | go_step | go_upon)
      go_roundw
      case rel => exact ⟨e, r, kk + 1, by go_num, by go_num, by go_num, by omega, by omega, by omega, by omega, hide (unhide HST).next, UR⟩
      case measure => simp [intOf]; omega
    as_aux_lemma =>
    have hl2 : ¬ (r : Int) < (A.length : Int) := by omega
    have hse : en = (st : Int) := by
      rw [← unhide HEN, (unhide HST).hst]
      have e : r = L.length := by have := unhide hL2; omega
      rw [e, uu_end]
    have hsb : (en == (st : Int)) = true := by rw [hse]; exact beq_self_eq_true _
    have hsn : (en != (st : Int)) = false := by rw [hse]; exact bne_self_eq_false _
    clear hse
    go_upto_region 119 with fail
    go_cut [503] from 1 to 0 (fun v wx => v = .bool false ∧ wx = wr)
    case first => as_aux_lemma =>
      have hsm := (unhide HST).small
      by_cases h1 : i + 1 < r
      · have h2 : (1 : Int) < (r : Int) - (i : Int) := by omega
        have h3 : ¬ lim < (dl : Int) := by have := hsm h1; omega
        clear hsm
        repeat (first | go_values | go_skip | go_guarded | go_step | go_upon)
        go_meet
        case rel => exact ⟨rfl, rfl⟩
      · have h2 : ¬ (1 : Int) < (r : Int) - (i : Int) := by omega
        clear hsm
        repeat (first | go_values | go_skip | go_guarded | go_step | go_upon)
        go_meet
        case rel => exact ⟨rfl, rfl⟩
    obtain ⟨rfl, hwc⟩ := hcut
    subst hwc
    as_aux_lemma =>
    repeat (first | go_values | go_skip | go_guarded | go_step | go_upon)
    go_roundw
    case rel => exact ⟨e, r, kk + 1, by go_num, by go_num, by go_num, by omega, by omega, by omega, by omega, hide (unhide HST).next, UR⟩
    case measure => simp [intOf]; omega
  as_aux_lemma =>
  have hl1 : ¬ (kk : Int) < (nea : Int) := by omega
  have hchk := unhide HC
  rw [List.drop_eq_nil_of_le (by have := (unhide NN).2.1; omega)] at hchk
  obtain ⟨hp1, hf⟩ := hchk.fin_nil
  obtain rfl : p = nda := by have := (unhide NN).1; omega
  clear hchk hp1
  rcases hb : F.2.2 with _ | _
  · as_aux_lemma =>
    obtain ⟨x, hx, hxo⟩ := (unhide FOK).2 hb
    rw [hf] at hx
    have hxx : x = mkUn A G Mb Q H V I i := by have h := hx; rw [← unhide HL] at h; exact (mkL_get h).2
    have hiA : i < A.length := by have h := hx; rw [← unhide HL] at h; exact (mkL_get h).1
    obtain ⟨a, ha⟩ := (unhide ER).of_no hb
    obtain rfl : era = .iface 71 (.pointer (some a)) := by simpa using ha
    have hgood := unhide GOOD i hiA
    have RK := (unhide R8).kept (unhide UR)
    obtain ⟨g5, o5, rfl, h5⟩ := row8 (own_inV RK.r5) (k := i) (by have := RK.r5.1; rw [B8_len] at this; omega)
    obtain ⟨g6, o6, rfl, h6⟩ := row8 (own_inV RK.r6) (k := i) (by have := RK.r6.1; rw [B8_len] at this; omega)
    obtain ⟨g7, o7, rfl, h7⟩ := row8 (own_inV RK.r7) (k := i) (by have := RK.r7.1; rw [B8_len] at this; omega)
    obtain ⟨g8, o8, rfl, h8⟩ := rowI8 (own_inV RK.r8) (k := i) (by have := RK.r8.1; rw [I8_len] at this; omega)
    obtain ⟨g9, o9, rfl, h9⟩ := rowI8 (own_inV RK.r9) (k := i) (by have := RK.r9.1; rw [I8_len] at this; omega)
    have H17 : Hid (∀ W, Calls Try.prog 17 #[.int .u8 (G.getD i 0), .int .u8 (Mb.getD i 0), .int .u8 (Q.getD i 0), .int .i8 (H.getD i 0), .int .i8 (V.getD i 0)] W fun r w' => r = .returned (.bool false) ∧ w' = W) := hide (fun W => by
      have h := state_any _ _ _ (H.getD i 0) (V.getD i 0) W hgood.1 hgood.2.1 hgood.2.2
      have e : okSt (G.getD i 0) (Mb.getD i 0) (Q.getD i 0) (H.getD i 0) (V.getD i 0) = false := by rw [hxx] at hxo; exact hxo
      rw [e] at h
      exact h)
    have hin : (i : Int) < (A.length : Int) := by omega
    have hib : (i : Int) ≤ 8192 := by omega
    clear RK hx hxo hxx ha hb hgood hf
    generalize G.getD i 0 = zg at *
    generalize Mb.getD i 0 = zm at *
    generalize Q.getD i 0 = zq at *
    generalize H.getD i 0 = zh at *
    generalize V.getD i 0 = zv at *
    repeat (first | go_values | go_skip | go_guarded | go_step | go_upon)
    go_quiet (first | (exact Calls.quiet_of_same (unhide H17 _)))
    repeat (first | go_values | go_skip | go_guarded | go_step | go_upon)
    go_ret
    exact TrueP.mk ((unhide UW).trans ((unhide UR).drewN _))
  as_aux_lemma =>
  obtain rfl : era = .nilIface := by simpa using (unhide ER).of_yes hb
  have hfi := (unhide FOK).1 hb
  obtain rfl : i = A.length := by have := unhide hL2; omega
  clear hf hfi hb
  repeat (first | go_values | go_skip | go_guarded | go_step | go_upon)
  go_ret
  exact TrueP.mk ((unhide UW).trans (unhide UR))
end Go.Proofs.Qxb6614154a
