/-
  'Rows.FnNewTrieOneTextPutInAnywhereSaid': the row's step.
-/
import Derived.Test.Qxb6608903aRows
import Derived.Test.Qxb6608903aLw
import Derived.Test.Qxb6608903aZz
import Derived.WalkKit
import Derived.ProofKit
import Derived.OpenShut
import Derived.ChangeOld
import Derived.Below
import Derived.Deep.Grids
import Derived.Deep.Matrix
namespace Go.Proofs.Qxb6608903a.fnNewTrieOneTextPutInAnywhere
open Go.ChangeShapes Go.WideShapes Go.ChangeAt Go.RowKit
set_option linter.unusedVariables false

theorem own : ownKnob Try.prog.godebug = none := by kernel_rfl
theorem laidOut : laidOutB Try.prog = true := by kernel_rfl

theorem inv_of {W : World} {x : Addr} {len cap : Nat} {zs : List Int} (hl : len ≤ cap) (hz : zs.length = cap) (hcell : ∀ i, i < zs.length → W.cell? (x.add i) = some (.int .i32 (zs.getD i 0))) :
    InV W (.slice (some x) len cap) (I32 (zs.take len)) := by
  have hn : (I32 (zs.take len)).length = len := by rw [I32_len]; simp; omega
  refine .inr ⟨x, cap, by rw [hn], by rw [hn]; exact hl, fun j u hj => ?_⟩
  have hj2 : j < len := by have := (List.getElem?_eq_some_iff.1 hj).1; omega
  rw [hcell j (by omega), ← hj, I32, List.getElem?_map, List.getElem?_take, if_pos hj2, List.getElem?_eq_getElem (by omega)]
  simp [List.getElem?_eq_getElem (show j < zs.length by omega)]
theorem upd_below {w w' : World} (h : Upd (fun _ => False) w w') : Below w.heap.size w w' := ⟨h.os, h.tape, h.output, h.size, fun k hk => h.block k hk (fun h => h)⟩
theorem texts_of {W : World} {a : Addr} {len cap : Nat} {A : Nat → Option Addr} {L C : Nat → Nat} {Z : Nat → List Int} (hl : len ≤ cap)
    (h : ∀ r, r < cap → W.cell? (a.add r) = some (.slice (A r) (L r) (C r)) ∧ L r ≤ C r ∧ (Z r).length = C r ∧ (A r = none → C r = 0) ∧ ∀ a', A r = some a' → ∀ c, c < C r → W.cell? (a'.add c) = some (.int .i32 ((Z r).getD c 0))) :
    Texts W (.slice (some a) len cap) ((List.range len).map fun r => (Z r).take (L r)) := by
  refine ⟨(List.range len).map fun r => .slice (A r) (L r) (C r), .inr ⟨a, cap, by simp, by simpa using hl, fun j u hj => ?_⟩, by simp, fun j u t hj ht => ?_⟩
  · have hj2 : j < len := by have := (List.getElem?_eq_some_iff.1 hj).1; simpa using this
    rw [List.getElem?_map, List.getElem?_range hj2] at hj
    rw [(h j (by omega)).1]
    exact hj
  · have hj2 : j < len := by have := (List.getElem?_eq_some_iff.1 hj).1; simpa using this
    rw [List.getElem?_map, List.getElem?_range hj2] at hj ht
    simp only [Option.map_some, Option.some.injEq] at hj ht
    subst hj ht
    obtain ⟨_, h1, h2, h3, h4⟩ := h j (by omega)
    cases hA : A j with
    | none =>
      have h0 := h3 hA
      refine .inl ⟨by rw [h0, show L j = 0 by omega], ?_⟩
      have : Z j = [] := List.eq_nil_of_length_eq_zero (by omega)
      rw [this]
      simp [I32]
    | some a' => exact inv_of h1 h2 (fun i hi => h4 a' hA i (by omega))

set_option maxRecDepth 100000 in
theorem lifted (os : Os) (started : os.Started) (H : Type) (enc : TypeId × Value → H) :
    ReturnsInHanded {} Try.checked os 4 .any (Rows.fnNewTrieOneTextPutInAnywhereSpec.pre6 enc Try.prog Try.f4 Rows.fnNewTrieOneTextPutInAnywhereRow.domain false) (Rows.fnNewTrieOneTextPutInAnywhereSpec.post enc Try.prog Try.f4 false true false false) := by
  refine returnsInHanded_of_change (C := Try.checked) own started (by kernel_rfl) Try.func4
    (ChangeSpec.witness6 (enc := enc) (C := Try.checked) false ⟨#[], #[.slice none 0 0, .slice none 0 0, .int .i64 0], []⟩ 8 (by kernel_rfl) (by kernel_rfl) (by kernel_rfl) (by kernel_rfl)) ?_
  intro W base args ds gs before hval0 hW hcnd _
  have hval : ∀ (j : Nat) t v, Try.f4.params[j]? = some t → args[j]? = some v → Value.okWide Try.prog W .any base t v := hval0
  have hW' := hW
  obtain ⟨p, q, hA0, hV, rfl, hfz, hnd⟩ := hW
  have hA : DataW.TrodAll enc Try.prog W 0 (fun _ => true) true Try.f4.params.toList args.toList ds p := hA0
  rw [Try.params4] at hA hval
  obtain ⟨v0, vs0, d0, ds0, p0, q0, hargs, rfl, rfl, h0, r0⟩ := trodAll_cons hA
  obtain ⟨v1, vs1, d1, ds1, p1, q1, rfl, rfl, rfl, h1, r1⟩ := trodAll_cons r0
  obtain ⟨v2, vs2, d2, ds2, p2, q2, rfl, rfl, rfl, h2, r2⟩ := trodAll_cons r1
  obtain ⟨rfl, rfl, rfl⟩ := trodAll_nil r2
  obtain rfl : args = #[v0, v1, v2] := by cases args; simp_all
  obtain ⟨rfl, rfl⟩ := trodVars_none hV
  obtain ⟨a2, rfl, rfl, rfl, w2⟩ := open_int Try.underlying3 (hval 2 3 v2 rfl rfl) h2
  obtain ⟨b1, len1, cap1, rfl⟩ := okWide_slice Try.underlying24 (hval 1 24 v1 rfl rfl)
  have k1 := h1
  have lt1 : ∀ x ∈ p1, x.block < W.heap.size := by obtain ⟨m, hm⟩ := k1; exact DataW.trod_lt m _ _ _ hm
  obtain ⟨z1, y1⟩ : ∃ zs : List Int, InV W (.slice b1 len1 cap1) (I32 zs) := by
    obtain ⟨fuel, hf⟩ := h1
    rcases open_ints Try.underlying24 Try.underlying21 (by kernel_rfl) hf with ⟨hcs, _⟩ | ⟨x, l, c, zs, hcs, _, hl, hm, hz, _, hcell, hwz⟩
    · simp [Value.cells] at hcs
      obtain ⟨rfl, rfl, rfl⟩ := hcs
      exact ⟨[], .inl ⟨rfl, rfl⟩⟩
    · simp [Value.cells] at hcs
      obtain ⟨rfl, rfl, rfl⟩ := hcs
      exact ⟨zs.take _, inv_of hl (by simpa using hz) hcell⟩
  obtain ⟨b0, len0, cap0, rfl⟩ := okWide_slice Try.underlying22 (hval 0 22 v0 rfl rfl)
  have k0 := h0
  have lt0 : ∀ x ∈ p0, x.block < W.heap.size := by obtain ⟨m, hm⟩ := k0; exact DataW.trod_lt m _ _ _ hm
  obtain ⟨T, y0⟩ : ∃ T : List Path, Texts W (.slice b0 len0 cap0) T := by
    obtain ⟨fuel, hf⟩ := h0
    rcases Go.Deep.open_int_rows Try.underlying22 Try.underlying24 Try.underlying21 (by kernel_rfl) (by kernel_rfl) hf with ⟨hcs, _⟩ | ⟨a, l, c, A, L, C, Z, hcs, _, hl, hm, _, hh⟩
    · simp [Value.cells] at hcs
      obtain ⟨rfl, rfl, rfl⟩ := hcs
      exact ⟨[], [], .inl ⟨rfl, rfl⟩, rfl, by simp⟩
    · simp [Value.cells] at hcs
      obtain ⟨rfl, rfl, rfl⟩ := hcs
      refine ⟨_, texts_of (A := A) (L := L) (C := C) (Z := Z) hl (fun r hr => ?_)⟩
      obtain ⟨e1, e2, e3, e4, e5, e6, e7⟩ := hh r hr
      exact ⟨e1, e2, e4, e6, fun a' ha => (e7 a' ha).2⟩
  clear hA0 hval0
  refine (law_walk whole whole_len zz_any _ _ T z1 a2 W y0 y1).mono ?_
  rintro e W' ⟨he, hu⟩
  have bel := upd_below hu
  subst he
  exact ⟨_, rfl, _, _, _, [], _, [], hW', trodAll_mk1 (shut_bool Try.underlying4 _), (trodAll_cons_mk (Below.trod laidOut (by kernel_rfl) (of_decide_eq_true (by kernel_rfl)) k0 bel lt0) (trodAll_cons_mk (Below.trod laidOut (by kernel_rfl) (of_decide_eq_true (by kernel_rfl)) k1 bel lt1) (trodAll_cons_mk (shut_int Try.underlying3 w2) trodAll_mk0))), rfl, bel.frame _, fun h => by cases h⟩

theorem over : Rows.fnNewTrieOneTextPutInAnywhereRow.holds Try.pinned (OpenSpec.ofChange Rows.fnNewTrieOneTextPutInAnywhereSpec) :=
  OpenClaim.holds_of_wide 4 Try.f4 rfl rfl rfl rfl rfl rfl rfl ⟨rfl, rfl, rfl, rfl, rfl⟩ rfl rfl rfl rfl rfl (by kernel_rfl) Try.func4 (by kernel_rfl)
    (of_decide_eq_true (by kernel_rfl)) (by unfold Func.isWrapper; first | (rw [if_pos (by decide +kernel)]; kernel_rfl) | (rw [if_neg (by decide +kernel)]; exact ⟨rfl, rfl⟩))
    (fun os started H enc _ => lifted os started H enc)

/-- the statement -/
theorem proved : Rows.FnNewTrieOneTextPutInAnywhereSaid := over
#print axioms proved
end Go.Proofs.Qxb6608903a.fnNewTrieOneTextPutInAnywhere
