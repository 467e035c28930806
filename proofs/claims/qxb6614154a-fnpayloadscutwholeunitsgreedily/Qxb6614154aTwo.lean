/-
  The domain's test whatever the number of units; what the laws' walks are told.
-/
import Derived.Test.Qxb6614154aBoth
namespace Go.Proofs.Qxb6614154a
open Go.ChangeShapes Go.WideShapes Go.ChangeAt Go.RowKit
set_option linter.unusedSimpArgs false
set_option linter.unusedVariables false

theorem own_base {w : World} {B B' : Nat} {e : TypeId} {k : Nat} {v : Value} {n : Nat} {xs : List Value} (h : w.ownsRow B e k v n xs) (hb : B' ≤ B) : w.ownsRow B' e k v n xs := by
  refine ⟨h.1, ?_⟩
  rcases h.2 with h1 | ⟨g, cap, cur, h1, h2, h3⟩
  · exact .inl h1
  · exact .inr ⟨g, cap, cur, h1, Nat.le_trans hb h2, h3⟩
theorem own_nil (w : World) (B : Nat) (e : TypeId) : w.ownsRow B e 1 (.slice none 0 0) ([] : List Int).length [] := ⟨rfl, .inl ⟨rfl, rfl⟩⟩

theorem units_both (B0 : Nat) (en : Int) (S A G Mb Q H V : List Int) (I : List Bool) (v3 v4 v5 v6 v7 v8 v9 v10 : Value) (w : World) (hR : Rows8 w B0 S A G Mb Q H V I v3 v4 v5 v6 v7 v8 v9 v10) (hS : S.length ≤ 262144) (hA : A.length ≤ 8192) :
    Calls Try.prog 13 #[.int .i64 en, v3, v4] w fun r w' => ∃ b, r = .returned (.bool b) ∧ (b = true → 0 < A.length → Fits A en S.length) ∧ Upd (fun _ => False) w w' := by
  obtain ⟨x3, c3, rfl⟩ := own_slice hR.r3
  by_cases h0 : A.length = 0
  · obtain ⟨x4, c4, rfl⟩ := own_slice hR.r4
    rw [h0]
    refine (units_zero en (.slice x3 S.length c3) ⟨_, _, _, rfl⟩ x4 c4 w).mono ?_
    rintro r w' ⟨rfl, rfl⟩
    exact ⟨true, rfl, fun _ h => by omega, Upd.refl _ _⟩
  · have hp : 0 < A.length := by omega
    obtain ⟨g4, c4, rfl⟩ := own_form hR.r4 hp
    refine (units_any en (.slice x3 S.length c3) S ⟨_, _, rfl⟩ g4 c4 A w (fun k a hk => ?_) (by omega) (by omega) hp).mono ?_
    · have hl := (List.getElem?_eq_some_iff.1 hk).1
      have := own_cell hR.r4 (I64_get rfl hl)
      rw [get_some rfl hl] at hk
      simp only [Option.some.injEq] at hk
      rw [hk] at this
      exact this
    · rintro r w' ⟨b, rfl, hb, hu⟩
      exact ⟨b, rfl, fun h _ => hb h, hu⟩

/-- what is known behind both calls -/
structure Ran (w0 w : World) (F : List Int × List Int × Bool) (D0 E0 : List Int) (vda vea era vdb veb erb : Value) : Prop where
  ea : ErrIs F.2.2 (.returned era)
  eb : ErrIs F.2.2 (.returned erb)
  da : ∃ B, w.ownsRow B 5 1 vda (D0 ++ F.1).length (B8 (D0 ++ F.1))
  xa : ∃ B, w.ownsRow B 3 1 vea (E0 ++ F.2.1.map (· + (D0.length : Int))).length (I64 (E0 ++ F.2.1.map (· + (D0.length : Int))))
  db : ∃ B, w.ownsRow B 5 1 vdb F.1.length (B8 F.1)
  xb : ∃ B, w.ownsRow B 3 1 veb F.2.1.length (I64 F.2.1)
  up : Upd (fun _ => False) w0 w

theorem ran_of {w0 wc wa wb : World} {Ba : Nat} {S : List Int} {L : List Un} {en f : Nat} {lim : Int} {D0 E0 : List Int} {vd0 ve0 vda vea era vdb veb erb : Value}
    (h0 : Upd (fun _ => False) w0 wc) (hd0 : ∀ g, vd0.ownBlock = some g → w0.heap.size ≤ g) (he0 : ∀ g, ve0.ownBlock = some g → w0.heap.size ≤ g)
    (ea : ErrIs (cutRun S L en lim f 0 D0 E0).2.2 (.returned era)) (da : wa.ownsRow Ba 5 1 vda (cutRun S L en lim f 0 D0 E0).1.length (B8 (cutRun S L en lim f 0 D0 E0).1)) (xa : wa.ownsRow Ba 3 1 vea (cutRun S L en lim f 0 D0 E0).2.1.length (I64 (cutRun S L en lim f 0 D0 E0).2.1))
    (ua : Upd (fun k => some k = vd0.ownBlock ∨ some k = ve0.ownBlock) wc wa)
    (eb : ErrIs (cutRun S L en lim f 0 [] []).2.2 (.returned erb)) (db : wb.ownsRow wa.heap.size 5 1 vdb (cutRun S L en lim f 0 [] []).1.length (B8 (cutRun S L en lim f 0 [] []).1)) (xb : wb.ownsRow wa.heap.size 3 1 veb (cutRun S L en lim f 0 [] []).2.1.length (I64 (cutRun S L en lim f 0 [] []).2.1))
    (ub : Upd (fun k => some k = (Value.slice none 0 0).ownBlock ∨ some k = (Value.slice none 0 0).ownBlock) wa wb) :
    Ran w0 wb (cutRun S L en lim f 0 [] []) D0 E0 vda vea era vdb veb erb := by
  have ub' : Upd (fun _ => False) wa wb := ub.mono (fun k _ h => by simp [Value.ownBlock] at h)
  rw [cutRun_onto S L en lim D0 E0 f 0] at ea da xa
  exact ⟨ea, eb, ⟨_, own_row_step da ub' (fun _ _ h => h)⟩, ⟨_, own_row_step xa ub' (fun _ _ h => h)⟩, ⟨_, db⟩, ⟨_, xb⟩,
    (upd_comb h0 ua (fun k hk hx => by
      rcases hx with e | e
      · have := hd0 k e.symm; omega
      · have := he0 k e.symm; omega)).trans ub'⟩
theorem Ran.upd_a {w0 wc wa : World} {vd0 ve0 : Value} (h0 : Upd (fun _ => False) w0 wc) (hd0 : ∀ g, vd0.ownBlock = some g → w0.heap.size ≤ g) (he0 : ∀ g, ve0.ownBlock = some g → w0.heap.size ≤ g)
    (ua : Upd (fun k => some k = vd0.ownBlock ∨ some k = ve0.ownBlock) wc wa) : Upd (fun _ => False) w0 wa :=
  upd_comb h0 ua (fun k hk hx => by
      rcases hx with e | e
      · have := hd0 k e.symm; omega
      · have := he0 k e.symm; omega)
end Go.Proofs.Qxb6614154a
