/-
  'Rows.FnPayloadsCutWholeUnitsGreedilySaid': the row's step.
-/
import Derived.Test.Qxb6614154aRows
import Derived.Test.Qxb6614154aLb
import Derived.WalkKit
import Derived.ProofKit
import Derived.OpenShut
import Derived.ChangeOld
import Derived.Below
import Derived.Deep.Grids
namespace Go.Proofs.Qxb6614154a.fnPayloadsCutWholeUnitsGreedily
open Go.ChangeShapes Go.WideShapes Go.ChangeAt Go.RowKit
set_option linter.unusedVariables false

theorem own : ownKnob Try.prog.godebug = none := by kernel_rfl
theorem laidOut : laidOutB Try.prog = true := by kernel_rfl

theorem inv_of {W : World} {k : IntKind} {x : Addr} {len cap : Nat} {zs : List Int} (hl : len ≤ cap) (hz : zs.length = cap) (hcell : ∀ i, i < zs.length → W.cell? (x.add i) = some (.int k (zs.getD i 0))) :
    InV W (.slice (some x) len cap) ((zs.take len).map (Value.int k)) := by
  have hn : ((zs.take len).map (Value.int k)).length = len := by simp; omega
  refine .inr ⟨x, cap, by rw [hn], by rw [hn]; exact hl, fun j u hj => ?_⟩
  have hj2 : j < len := by have := (List.getElem?_eq_some_iff.1 hj).1; omega
  rw [hcell j (by omega), ← hj, List.getElem?_map, List.getElem?_take, if_pos hj2, List.getElem?_eq_getElem (by omega)]
  simp [List.getElem?_eq_getElem (show j < zs.length by omega)]
theorem invb_of {W : World} {x : Addr} {len cap : Nat} {B : Nat → Bool} (hl : len ≤ cap) (hcell : ∀ i, i < cap → W.cell? (x.add i) = some (.bool (B i))) :
    InV W (.slice (some x) len cap) (((List.range len).map B).map Value.bool) := by
  have hn : (((List.range len).map B).map Value.bool).length = len := by simp
  refine .inr ⟨x, cap, by rw [hn], by rw [hn]; exact hl, fun j u hj => ?_⟩
  have hj2 : j < len := by have := (List.getElem?_eq_some_iff.1 hj).1; omega
  rw [hcell j (by omega), ← hj, List.getElem?_map, List.getElem?_map, List.getElem?_range hj2]
  rfl
theorem getD_nonneg {zs : List Int} (h : ∀ n ∈ zs, (Lit.int .u8 n).wf = true) (k : Nat) : 0 ≤ zs.getD k 0 := by
  by_cases hk : k < zs.length
  · have := h (zs.getD k 0) (by simp only [List.getD_eq_getElem?_getD, List.getElem?_eq_getElem hk, Option.getD_some]; exact List.getElem_mem hk)
    have e : IntKind.u8.min = 0 := rfl
    simp only [Lit.wf, Bool.and_eq_true, decide_eq_true_eq, e] at this
    exact this.1
  · simp [List.getElem?_eq_none (Nat.le_of_not_lt hk)]
theorem upd_below {w w' : World} (h : Upd (fun _ => False) w w') : Below w.heap.size w w' := ⟨h.os, h.tape, h.output, h.size, fun k hk => h.block k hk (fun h => h)⟩
theorem one_map {k : IntKind} {l : List Int} : ∀ u ∈ l.map (Value.int k), u.oneCell' = true := by
  intro u hu
  obtain ⟨a, _, rfl⟩ := List.mem_map.1 hu
  rfl
theorem one_bo {l : List Bool} : ∀ u ∈ l.map Value.bool, u.oneCell' = true := by
  intro u hu
  obtain ⟨a, _, rfl⟩ := List.mem_map.1 hu
  rfl

set_option maxRecDepth 100000 in
theorem lifted (os : Os) (started : os.Started) (H : Type) (enc : TypeId × Value → H) :
    ReturnsInHanded {} Try.checked os 5 .any (Rows.fnPayloadsCutWholeUnitsGreedilySpec.pre6 enc Try.prog Try.f5 Rows.fnPayloadsCutWholeUnitsGreedilyRow.domain false) (Rows.fnPayloadsCutWholeUnitsGreedilySpec.post enc Try.prog Try.f5 false true false false) := by
  refine returnsInHanded_of_change (C := Try.checked) own started (by kernel_rfl) Try.func5
    (ChangeSpec.witness6 (enc := enc) (C := Try.checked) false ⟨#[], #[.int .i64 0, .slice none 0 0, .slice none 0 0, .slice none 0 0, .slice none 0 0, .slice none 0 0, .slice none 0 0, .slice none 0 0, .slice none 0 0, .slice none 0 0, .slice none 0 0, .int .i64 0], []⟩ 8 (by kernel_rfl) (by kernel_rfl) (by kernel_rfl) (by kernel_rfl)) ?_
  intro W base args ds gs before hval0 hW hcnd _
  have hval : ∀ (j : Nat) t v, Try.f5.params[j]? = some t → args[j]? = some v → Value.okWide Try.prog W .any base t v := hval0
  have hW' := hW
  obtain ⟨p, q, hA0, hV, rfl, hfz, hnd⟩ := hW
  have hA : DataW.TrodAll enc Try.prog W 0 (fun _ => true) true Try.f5.params.toList args.toList ds p := hA0
  rw [Try.params5] at hA hval
  obtain ⟨v0, vs0, d0, ds0, p0, q0, hargs, rfl, rfl, h0, r0⟩ := trodAll_cons hA
  obtain ⟨v1, vs1, d1, ds1, p1, q1, rfl, rfl, rfl, h1, r1⟩ := trodAll_cons r0
  obtain ⟨v2, vs2, d2, ds2, p2, q2, rfl, rfl, rfl, h2, r2⟩ := trodAll_cons r1
  obtain ⟨v3, vs3, d3, ds3, p3, q3, rfl, rfl, rfl, h3, r3⟩ := trodAll_cons r2
  obtain ⟨v4, vs4, d4, ds4, p4, q4, rfl, rfl, rfl, h4, r4⟩ := trodAll_cons r3
  obtain ⟨v5, vs5, d5, ds5, p5, q5, rfl, rfl, rfl, h5, r5⟩ := trodAll_cons r4
  obtain ⟨v6, vs6, d6, ds6, p6, q6, rfl, rfl, rfl, h6, r6⟩ := trodAll_cons r5
  obtain ⟨v7, vs7, d7, ds7, p7, q7, rfl, rfl, rfl, h7, r7⟩ := trodAll_cons r6
  obtain ⟨v8, vs8, d8, ds8, p8, q8, rfl, rfl, rfl, h8, r8⟩ := trodAll_cons r7
  obtain ⟨v9, vs9, d9, ds9, p9, q9, rfl, rfl, rfl, h9, r9⟩ := trodAll_cons r8
  obtain ⟨v10, vs10, d10, ds10, p10, q10, rfl, rfl, rfl, h10, r10⟩ := trodAll_cons r9
  obtain ⟨v11, vs11, d11, ds11, p11, q11, rfl, rfl, rfl, h11, r11⟩ := trodAll_cons r10
  obtain ⟨rfl, rfl, rfl⟩ := trodAll_nil r11
  obtain rfl : args = #[v0, v1, v2, v3, v4, v5, v6, v7, v8, v9, v10, v11] := by cases args; simp_all
  obtain ⟨rfl, rfl⟩ := trodVars_none hV
  obtain ⟨a0, rfl, rfl, rfl, w0⟩ := open_int Try.underlying3 (hval 0 3 v0 rfl rfl) h0
  obtain ⟨a11, rfl, rfl, rfl, w11⟩ := open_int Try.underlying3 (hval 11 3 v11 rfl rfl) h11
  obtain ⟨b1, len1, cap1, rfl⟩ := okWide_slice Try.underlying22 (hval 1 22 v1 rfl rfl)
  have k1 := h1
  have lt1 : ∀ x ∈ p1, x.block < W.heap.size := by obtain ⟨m, hm⟩ := k1; exact DataW.trod_lt m _ _ _ hm
  obtain ⟨z1, y1, wf1⟩ : ∃ zs : List Int, InV W (.slice b1 len1 cap1) (zs.map (Value.int .u8)) ∧ ∀ n ∈ zs, (Lit.int .u8 n).wf = true := by
    obtain ⟨fuel, hf⟩ := h1
    rcases open_ints Try.underlying22 Try.underlying5 (by kernel_rfl) hf with ⟨hcs, _⟩ | ⟨x, l, c, zs, hcs, _, hl, hm, hz, _, hcell, hwz⟩
    · simp [Value.cells] at hcs
      obtain ⟨rfl, rfl, rfl⟩ := hcs
      exact ⟨[], .inl ⟨rfl, rfl⟩, by simp⟩
    · simp [Value.cells] at hcs
      obtain ⟨rfl, rfl, rfl⟩ := hcs
      exact ⟨zs.take _, inv_of hl (by simpa using hz) hcell, fun n hn => hwz n (List.mem_of_mem_take hn)⟩
  obtain ⟨b2, len2, cap2, rfl⟩ := okWide_slice Try.underlying29 (hval 2 29 v2 rfl rfl)
  have k2 := h2
  have lt2 : ∀ x ∈ p2, x.block < W.heap.size := by obtain ⟨m, hm⟩ := k2; exact DataW.trod_lt m _ _ _ hm
  obtain ⟨z2, y2, wf2⟩ : ∃ zs : List Int, InV W (.slice b2 len2 cap2) (zs.map (Value.int .i64)) ∧ ∀ n ∈ zs, (Lit.int .i64 n).wf = true := by
    obtain ⟨fuel, hf⟩ := h2
    rcases open_ints Try.underlying29 Try.underlying3 (by kernel_rfl) hf with ⟨hcs, _⟩ | ⟨x, l, c, zs, hcs, _, hl, hm, hz, _, hcell, hwz⟩
    · simp [Value.cells] at hcs
      obtain ⟨rfl, rfl, rfl⟩ := hcs
      exact ⟨[], .inl ⟨rfl, rfl⟩, by simp⟩
    · simp [Value.cells] at hcs
      obtain ⟨rfl, rfl, rfl⟩ := hcs
      exact ⟨zs.take _, inv_of hl (by simpa using hz) hcell, fun n hn => hwz n (List.mem_of_mem_take hn)⟩
  obtain ⟨b3, len3, cap3, rfl⟩ := okWide_slice Try.underlying22 (hval 3 22 v3 rfl rfl)
  have k3 := h3
  have lt3 : ∀ x ∈ p3, x.block < W.heap.size := by obtain ⟨m, hm⟩ := k3; exact DataW.trod_lt m _ _ _ hm
  obtain ⟨z3, y3, wf3⟩ : ∃ zs : List Int, InV W (.slice b3 len3 cap3) (zs.map (Value.int .u8)) ∧ ∀ n ∈ zs, (Lit.int .u8 n).wf = true := by
    obtain ⟨fuel, hf⟩ := h3
    rcases open_ints Try.underlying22 Try.underlying5 (by kernel_rfl) hf with ⟨hcs, _⟩ | ⟨x, l, c, zs, hcs, _, hl, hm, hz, _, hcell, hwz⟩
    · simp [Value.cells] at hcs
      obtain ⟨rfl, rfl, rfl⟩ := hcs
      exact ⟨[], .inl ⟨rfl, rfl⟩, by simp⟩
    · simp [Value.cells] at hcs
      obtain ⟨rfl, rfl, rfl⟩ := hcs
      exact ⟨zs.take _, inv_of hl (by simpa using hz) hcell, fun n hn => hwz n (List.mem_of_mem_take hn)⟩
  obtain ⟨b4, len4, cap4, rfl⟩ := okWide_slice Try.underlying29 (hval 4 29 v4 rfl rfl)
  have k4 := h4
  have lt4 : ∀ x ∈ p4, x.block < W.heap.size := by obtain ⟨m, hm⟩ := k4; exact DataW.trod_lt m _ _ _ hm
  obtain ⟨z4, y4, wf4⟩ : ∃ zs : List Int, InV W (.slice b4 len4 cap4) (zs.map (Value.int .i64)) ∧ ∀ n ∈ zs, (Lit.int .i64 n).wf = true := by
    obtain ⟨fuel, hf⟩ := h4
    rcases open_ints Try.underlying29 Try.underlying3 (by kernel_rfl) hf with ⟨hcs, _⟩ | ⟨x, l, c, zs, hcs, _, hl, hm, hz, _, hcell, hwz⟩
    · simp [Value.cells] at hcs
      obtain ⟨rfl, rfl, rfl⟩ := hcs
      exact ⟨[], .inl ⟨rfl, rfl⟩, by simp⟩
    · simp [Value.cells] at hcs
      obtain ⟨rfl, rfl, rfl⟩ := hcs
      exact ⟨zs.take _, inv_of hl (by simpa using hz) hcell, fun n hn => hwz n (List.mem_of_mem_take hn)⟩
  obtain ⟨b5, len5, cap5, rfl⟩ := okWide_slice Try.underlying22 (hval 5 22 v5 rfl rfl)
  have k5 := h5
  have lt5 : ∀ x ∈ p5, x.block < W.heap.size := by obtain ⟨m, hm⟩ := k5; exact DataW.trod_lt m _ _ _ hm
  obtain ⟨z5, y5, wf5⟩ : ∃ zs : List Int, InV W (.slice b5 len5 cap5) (zs.map (Value.int .u8)) ∧ ∀ n ∈ zs, (Lit.int .u8 n).wf = true := by
    obtain ⟨fuel, hf⟩ := h5
    rcases open_ints Try.underlying22 Try.underlying5 (by kernel_rfl) hf with ⟨hcs, _⟩ | ⟨x, l, c, zs, hcs, _, hl, hm, hz, _, hcell, hwz⟩
    · simp [Value.cells] at hcs
      obtain ⟨rfl, rfl, rfl⟩ := hcs
      exact ⟨[], .inl ⟨rfl, rfl⟩, by simp⟩
    · simp [Value.cells] at hcs
      obtain ⟨rfl, rfl, rfl⟩ := hcs
      exact ⟨zs.take _, inv_of hl (by simpa using hz) hcell, fun n hn => hwz n (List.mem_of_mem_take hn)⟩
  obtain ⟨b6, len6, cap6, rfl⟩ := okWide_slice Try.underlying22 (hval 6 22 v6 rfl rfl)
  have k6 := h6
  have lt6 : ∀ x ∈ p6, x.block < W.heap.size := by obtain ⟨m, hm⟩ := k6; exact DataW.trod_lt m _ _ _ hm
  obtain ⟨z6, y6, wf6⟩ : ∃ zs : List Int, InV W (.slice b6 len6 cap6) (zs.map (Value.int .u8)) ∧ ∀ n ∈ zs, (Lit.int .u8 n).wf = true := by
    obtain ⟨fuel, hf⟩ := h6
    rcases open_ints Try.underlying22 Try.underlying5 (by kernel_rfl) hf with ⟨hcs, _⟩ | ⟨x, l, c, zs, hcs, _, hl, hm, hz, _, hcell, hwz⟩
    · simp [Value.cells] at hcs
      obtain ⟨rfl, rfl, rfl⟩ := hcs
      exact ⟨[], .inl ⟨rfl, rfl⟩, by simp⟩
    · simp [Value.cells] at hcs
      obtain ⟨rfl, rfl, rfl⟩ := hcs
      exact ⟨zs.take _, inv_of hl (by simpa using hz) hcell, fun n hn => hwz n (List.mem_of_mem_take hn)⟩
  obtain ⟨b7, len7, cap7, rfl⟩ := okWide_slice Try.underlying22 (hval 7 22 v7 rfl rfl)
  have k7 := h7
  have lt7 : ∀ x ∈ p7, x.block < W.heap.size := by obtain ⟨m, hm⟩ := k7; exact DataW.trod_lt m _ _ _ hm
  obtain ⟨z7, y7, wf7⟩ : ∃ zs : List Int, InV W (.slice b7 len7 cap7) (zs.map (Value.int .u8)) ∧ ∀ n ∈ zs, (Lit.int .u8 n).wf = true := by
    obtain ⟨fuel, hf⟩ := h7
    rcases open_ints Try.underlying22 Try.underlying5 (by kernel_rfl) hf with ⟨hcs, _⟩ | ⟨x, l, c, zs, hcs, _, hl, hm, hz, _, hcell, hwz⟩
    · simp [Value.cells] at hcs
      obtain ⟨rfl, rfl, rfl⟩ := hcs
      exact ⟨[], .inl ⟨rfl, rfl⟩, by simp⟩
    · simp [Value.cells] at hcs
      obtain ⟨rfl, rfl, rfl⟩ := hcs
      exact ⟨zs.take _, inv_of hl (by simpa using hz) hcell, fun n hn => hwz n (List.mem_of_mem_take hn)⟩
  obtain ⟨b8, len8, cap8, rfl⟩ := okWide_slice Try.underlying30 (hval 8 30 v8 rfl rfl)
  have k8 := h8
  have lt8 : ∀ x ∈ p8, x.block < W.heap.size := by obtain ⟨m, hm⟩ := k8; exact DataW.trod_lt m _ _ _ hm
  obtain ⟨z8, y8, wf8⟩ : ∃ zs : List Int, InV W (.slice b8 len8 cap8) (zs.map (Value.int .i8)) ∧ ∀ n ∈ zs, (Lit.int .i8 n).wf = true := by
    obtain ⟨fuel, hf⟩ := h8
    rcases open_ints Try.underlying30 Try.underlying41 (by kernel_rfl) hf with ⟨hcs, _⟩ | ⟨x, l, c, zs, hcs, _, hl, hm, hz, _, hcell, hwz⟩
    · simp [Value.cells] at hcs
      obtain ⟨rfl, rfl, rfl⟩ := hcs
      exact ⟨[], .inl ⟨rfl, rfl⟩, by simp⟩
    · simp [Value.cells] at hcs
      obtain ⟨rfl, rfl, rfl⟩ := hcs
      exact ⟨zs.take _, inv_of hl (by simpa using hz) hcell, fun n hn => hwz n (List.mem_of_mem_take hn)⟩
  obtain ⟨b9, len9, cap9, rfl⟩ := okWide_slice Try.underlying30 (hval 9 30 v9 rfl rfl)
  have k9 := h9
  have lt9 : ∀ x ∈ p9, x.block < W.heap.size := by obtain ⟨m, hm⟩ := k9; exact DataW.trod_lt m _ _ _ hm
  obtain ⟨z9, y9, wf9⟩ : ∃ zs : List Int, InV W (.slice b9 len9 cap9) (zs.map (Value.int .i8)) ∧ ∀ n ∈ zs, (Lit.int .i8 n).wf = true := by
    obtain ⟨fuel, hf⟩ := h9
    rcases open_ints Try.underlying30 Try.underlying41 (by kernel_rfl) hf with ⟨hcs, _⟩ | ⟨x, l, c, zs, hcs, _, hl, hm, hz, _, hcell, hwz⟩
    · simp [Value.cells] at hcs
      obtain ⟨rfl, rfl, rfl⟩ := hcs
      exact ⟨[], .inl ⟨rfl, rfl⟩, by simp⟩
    · simp [Value.cells] at hcs
      obtain ⟨rfl, rfl, rfl⟩ := hcs
      exact ⟨zs.take _, inv_of hl (by simpa using hz) hcell, fun n hn => hwz n (List.mem_of_mem_take hn)⟩
  obtain ⟨b10, len10, cap10, rfl⟩ := okWide_slice Try.underlying31 (hval 10 31 v10 rfl rfl)
  have k10 := h10
  have lt10 : ∀ x ∈ p10, x.block < W.heap.size := by obtain ⟨m, hm⟩ := k10; exact DataW.trod_lt m _ _ _ hm
  obtain ⟨z10, y10⟩ : ∃ zs : List Bool, InV W (.slice b10 len10 cap10) (zs.map Value.bool) := by
    obtain ⟨fuel, hf⟩ := h10
    rcases Go.Deep.open_bools Try.underlying31 Try.underlying4 (by kernel_rfl) hf with ⟨hcs, _⟩ | ⟨x, l, c, B, hcs, _, hl, hm, _, hcell⟩
    · simp [Value.cells] at hcs
      obtain ⟨rfl, rfl, rfl⟩ := hcs
      exact ⟨[], .inl ⟨rfl, rfl⟩⟩
    · simp [Value.cells] at hcs
      obtain ⟨rfl, rfl, rfl⟩ := hcs
      exact ⟨_, invb_of hl hcell⟩
  clear hA0 hval0
  refine (law5_walk a0 a11 _ _ _ _ _ _ _ _ _ _ _ _ _ _ _ _ _ _ _ _ z1 z2 z3 z4 z5 z6 z7 z8 z9 z10 W (hide rfl) (hide rfl) (hide rfl) (hide rfl) (hide rfl) (hide rfl) (hide rfl) (hide rfl) (hide rfl) (hide rfl) (hide (fun k _ => ⟨getD_nonneg wf5 k, getD_nonneg wf6 k, getD_nonneg wf7 k⟩)) y1 y2 y3 one_map y4 one_map y5 one_map y6 one_map y7 one_map y8 one_map y9 one_map y10 one_bo).mono ?_
  rintro e W' ⟨he, hu⟩
  have bel := upd_below hu
  subst he
  exact ⟨_, rfl, _, _, _, [], _, [], hW', trodAll_mk1 (shut_bool Try.underlying4 _), (trodAll_cons_mk (shut_int Try.underlying3 w0) (trodAll_cons_mk (Below.trod laidOut (by kernel_rfl) (of_decide_eq_true (by kernel_rfl)) k1 bel lt1) (trodAll_cons_mk (Below.trod laidOut (by kernel_rfl) (of_decide_eq_true (by kernel_rfl)) k2 bel lt2) (trodAll_cons_mk (Below.trod laidOut (by kernel_rfl) (of_decide_eq_true (by kernel_rfl)) k3 bel lt3) (trodAll_cons_mk (Below.trod laidOut (by kernel_rfl) (of_decide_eq_true (by kernel_rfl)) k4 bel lt4) (trodAll_cons_mk (Below.trod laidOut (by kernel_rfl) (of_decide_eq_true (by kernel_rfl)) k5 bel lt5) (trodAll_cons_mk (Below.trod laidOut (by kernel_rfl) (of_decide_eq_true (by kernel_rfl)) k6 bel lt6) (trodAll_cons_mk (Below.trod laidOut (by kernel_rfl) (of_decide_eq_true (by kernel_rfl)) k7 bel lt7) (trodAll_cons_mk (Below.trod laidOut (by kernel_rfl) (of_decide_eq_true (by kernel_rfl)) k8 bel lt8) (trodAll_cons_mk (Below.trod laidOut (by kernel_rfl) (of_decide_eq_true (by kernel_rfl)) k9 bel lt9) (trodAll_cons_mk (Below.trod laidOut (by kernel_rfl) (of_decide_eq_true (by kernel_rfl)) k10 bel lt10) (trodAll_cons_mk (shut_int Try.underlying3 w11) trodAll_mk0)))))))))))), rfl, bel.frame _, fun h => by cases h⟩

theorem over : Rows.fnPayloadsCutWholeUnitsGreedilyRow.holds Try.pinned (OpenSpec.ofChange Rows.fnPayloadsCutWholeUnitsGreedilySpec) :=
  OpenClaim.holds_of_wide 5 Try.f5 rfl rfl rfl rfl rfl rfl rfl ⟨rfl, rfl, rfl, rfl, rfl⟩ rfl rfl rfl rfl rfl (by kernel_rfl) Try.func5 (by kernel_rfl)
    (of_decide_eq_true (by kernel_rfl)) (by unfold Func.isWrapper; first | (rw [if_pos (by decide +kernel)]; kernel_rfl) | (rw [if_neg (by decide +kernel)]; exact ⟨rfl, rfl⟩))
    (fun os started H enc _ => lifted os started H enc)

/-- the statement -/
theorem proved : Rows.FnPayloadsCutWholeUnitsGreedilySaid := over
#print axioms proved
end Go.Proofs.Qxb6614154a.fnPayloadsCutWholeUnitsGreedily
