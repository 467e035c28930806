/-
  ZZpayloads as the laws meet it, whatever the number of units.
-/
import Derived.Test.Qxb6614154aZz0
import Derived.Test.Qxb6614154aCpy
namespace Go.Proofs.Qxb6614154a
open Go.ChangeShapes Go.WideShapes Go.ChangeAt Go.RowKit
set_option linter.unusedSimpArgs false
set_option linter.unusedVariables false

def I8 (l : List Int) : List Value := l.map (Value.int .i8)
def Bo (l : List Bool) : List Value := l.map Value.bool
theorem B8_len (l : List Int) : (B8 l).length = l.length := by simp [B8]
theorem I64_len (l : List Int) : (I64 l).length = l.length := by simp [I64]
theorem I8_len (l : List Int) : (I8 l).length = l.length := by simp [I8]
theorem Bo_len (l : List Bool) : (Bo l).length = l.length := by simp [Bo]

theorem Fits.nonneg {A : List Int} {en : Int} {m : Nat} (h : Fits A en m) : ∀ (k : Nat) (a : Int), A[k]? = some a → 0 ≤ a
  | 0, a, hk => h.zero a hk
  | k + 1, a, hk => by
    have hl := (List.getElem?_eq_some_iff.1 hk).1
    have hb : A[k]? = some A[k] := List.getElem?_eq_getElem (by omega)
    have := h.nonneg k _ hb
    have := h.inc k _ a hb hk
    omega
theorem Fits.lt_en {A : List Int} {en : Int} {m : Nat} (h : Fits A en m) : ∀ (d k : Nat) (a : Int), k + d + 1 = A.length → A[k]? = some a → a < en
  | 0, k, a, hd, hk => h.last a (by rw [show A.length - 1 = k by omega]; exact hk)
  | d + 1, k, a, hd, hk => by
    have hb : A[k + 1]? = some A[k + 1] := List.getElem?_eq_getElem (by omega)
    have h1 := h.lt_en d (k + 1) _ (by omega) hb
    have := h.inc k a _ hk hb
    omega

/-- the units of seven rows -/
def mkUn (A G Mb Q H V : List Int) (I : List Bool) (k : Nat) : Un := ⟨(A.getD k 0).toNat, I.getD k false, G.getD k 0, Mb.getD k 0, Q.getD k 0, H.getD k 0, V.getD k 0⟩
def mkL (A G Mb Q H V : List Int) (I : List Bool) : List Un := (List.range A.length).map (mkUn A G Mb Q H V I)
theorem mkL_len (A G Mb Q H V : List Int) (I : List Bool) : (mkL A G Mb Q H V I).length = A.length := by simp [mkL]
theorem mkL_get {A G Mb Q H V : List Int} {I : List Bool} {k : Nat} {x : Un} (h : (mkL A G Mb Q H V I)[k]? = some x) : k < A.length ∧ x = mkUn A G Mb Q H V I k := by
  have hl := (List.getElem?_eq_some_iff.1 h).1
  rw [mkL_len] at hl
  refine ⟨hl, ?_⟩
  simp [mkL, List.getElem?_range hl] at h
  exact h.symm
theorem mkL_lie {A G Mb Q H V : List Int} {I : List Bool} {en : Int} {m : Nat} (h : Fits A en m) : Lie (mkL A G Mb Q H V I) en.toNat := by
  constructor
  · intro k x y hx hy
    obtain ⟨l1, rfl⟩ := mkL_get hx
    obtain ⟨l2, rfl⟩ := mkL_get hy
    have e1 : A[k]? = some A[k] := List.getElem?_eq_getElem l1
    have e2 : A[k + 1]? = some A[k + 1] := List.getElem?_eq_getElem l2
    have := h.inc k _ _ e1 e2
    have := h.nonneg k _ e1
    simp [mkUn, e1, e2]
    omega
  · intro k x hx
    obtain ⟨l1, rfl⟩ := mkL_get hx
    have e1 : A[k]? = some A[k] := List.getElem?_eq_getElem l1
    have := h.lt_en (A.length - 1 - k) k _ (by omega) e1
    have := h.nonneg k _ e1
    simp [mkUn, e1]
    omega

theorem own_cell {w : World} {B : Nat} {e : TypeId} {g n c : Nat} {xs : List Value} (h : w.ownsRow B e 1 (.slice (some ⟨g, 0, none⟩) n c) n xs) {k : Nat} {u : Value} (hk : xs[k]? = some u) : w.cell? ⟨g, k, none⟩ = some u := by
  rcases own_inV h with ⟨h1, _⟩ | ⟨x, c', h1, _, h2⟩
  · simp at h1
  · obtain ⟨rfl, _, _⟩ : x = ⟨g, 0, none⟩ ∧ xs.length = n ∧ c' = c := by simp at h1; exact ⟨h1.1.symm, h1.2.1.symm, h1.2.2.symm⟩
    have := h2 k u hk
    rw [Addr.add_mid] at this
    simpa using this
/-- the eight rows as copied -/
structure Rows8 (w : World) (B : Nat) (S A G Mb Q H V : List Int) (I : List Bool) (v3 v4 v5 v6 v7 v8 v9 v10 : Value) : Prop where
  r3 : w.ownsRow B 5 1 v3 S.length (B8 S)
  r4 : w.ownsRow B 3 1 v4 A.length (I64 A)
  r5 : w.ownsRow B 5 1 v5 A.length (B8 G)
  r6 : w.ownsRow B 5 1 v6 A.length (B8 Mb)
  r7 : w.ownsRow B 5 1 v7 A.length (B8 Q)
  r8 : w.ownsRow B 41 1 v8 A.length (I8 H)
  r9 : w.ownsRow B 41 1 v9 A.length (I8 V)
  r10 : w.ownsRow B 4 1 v10 A.length (Bo I)
theorem Rows8.kept {w w' : World} {B : Nat} {S A G Mb Q H V : List Int} {I : List Bool} {v3 v4 v5 v6 v7 v8 v9 v10 : Value} (h : Rows8 w B S A G Mb Q H V I v3 v4 v5 v6 v7 v8 v9 v10) (hu : Upd (fun _ => False) w w') : Rows8 w' B S A G Mb Q H V I v3 v4 v5 v6 v7 v8 v9 v10 :=
  ⟨own_row_step h.r3 hu (fun _ _ h => h), own_row_step h.r4 hu (fun _ _ h => h), own_row_step h.r5 hu (fun _ _ h => h), own_row_step h.r6 hu (fun _ _ h => h), own_row_step h.r7 hu (fun _ _ h => h), own_row_step h.r8 hu (fun _ _ h => h), own_row_step h.r9 hu (fun _ _ h => h), own_row_step h.r10 hu (fun _ _ h => h)⟩

theorem get_some {l : List Int} {n k : Nat} (hl : l.length = n) (hk : k < n) : l[k]? = some (l.getD k 0) := by simp [List.getElem?_eq_getElem (show k < l.length by omega)]
theorem getb_some {l : List Bool} {n k : Nat} (hl : l.length = n) (hk : k < n) : l[k]? = some (l.getD k false) := by simp [List.getElem?_eq_getElem (show k < l.length by omega)]

theorem B8_get {l : List Int} {n k : Nat} (hl : l.length = n) (hk : k < n) : (B8 l)[k]? = some (.int .u8 (l.getD k 0)) := by rw [B8, List.getElem?_map, get_some hl hk]; rfl
theorem I64_get {l : List Int} {n k : Nat} (hl : l.length = n) (hk : k < n) : (I64 l)[k]? = some (.int .i64 (l.getD k 0)) := by rw [I64, List.getElem?_map, get_some hl hk]; rfl
theorem I8_get {l : List Int} {n k : Nat} (hl : l.length = n) (hk : k < n) : (I8 l)[k]? = some (.int .i8 (l.getD k 0)) := by rw [I8, List.getElem?_map, get_some hl hk]; rfl
theorem Bo_get {l : List Bool} {n k : Nat} (hl : l.length = n) (hk : k < n) : (Bo l)[k]? = some (.bool (l.getD k false)) := by rw [Bo, List.getElem?_map, getb_some hl hk]; rfl

theorem zz_both (B B0 : Nat) (en mp : Int) (S A G Mb Q H V D0 E0 : List Int) (I : List Bool) (v3 v4 v5 v6 v7 v8 v9 v10 vd0 ve0 : Value) (w : World)
    (hR : Rows8 w B0 S A G Mb Q H V I v3 v4 v5 v6 v7 v8 v9 v10) (hod : w.ownsRow B 5 1 vd0 D0.length (B8 D0)) (hoe : w.ownsRow B 3 1 ve0 E0.length (I64 E0)) (hB : B ≤ w.heap.size)
    (hne : ∀ g, v3.ownBlock = some g → g < B) (hfit : 0 < A.length → Fits A en S.length)
    (good : ∀ k, k < A.length → 0 ≤ G.getD k 0 ∧ 0 ≤ Mb.getD k 0 ∧ 0 ≤ Q.getD k 0)
    (hD : D0.length ≤ 65536) (hE : E0.length ≤ 8192) (hS : S.length ≤ 262144) (hA : A.length ≤ 8192) (hS0 : ∀ x c, v3 = .slice x S.length c → c ≤ 1099511627776) :
    Calls Try.prog 16 #[.int .i64 en, vd0, ve0, v3, v4, v5, v6, v7, v8, v9, v10, .int .i64 mp] w (ZzPost B (cutRun S (mkL A G Mb Q H V I) en.toNat (limI mp) (mkL A G Mb Q H V I).length 0 D0 E0) vd0 ve0 w) := by
  obtain ⟨xd, cd, rfl⟩ := own_slice hod
  obtain ⟨xe, ce, rfl⟩ := own_slice hoe
  by_cases h0 : A.length = 0
  · have hL : mkL A G Mb Q H V I = [] := List.length_eq_zero_iff.1 (by rw [mkL_len]; exact h0)
    obtain ⟨x3, c3, rfl⟩ := own_slice hR.r3
    obtain ⟨x4, c4, rfl⟩ := own_slice hR.r4
    obtain ⟨x5, c5, rfl⟩ := own_slice hR.r5
    obtain ⟨x6, c6, rfl⟩ := own_slice hR.r6
    obtain ⟨x7, c7, rfl⟩ := own_slice hR.r7
    obtain ⟨x8, c8, rfl⟩ := own_slice hR.r8
    obtain ⟨x9, c9, rfl⟩ := own_slice hR.r9
    obtain ⟨x10, c10, rfl⟩ := own_slice hR.r10
    rw [hL, h0]
    refine zz_zero B en mp xd xe x3 x4 x5 x6 x7 x8 x9 x10 cd ce S.length c3 c4 c5 c6 c7 c8 c9 c10 D0 E0 S en.toNat w (fun h => ?_) hod hoe
    subst h
    rcases hR.r3.2 with ⟨h1, _⟩ | ⟨g, cap, cur, h1, _⟩
    · simp at h1; exact ⟨by rw [h1.1]; rfl, h1.2⟩
    · simp at h1
  · have hp : 0 < A.length := by omega
    have F := hfit hp
    have hA0 : A[A.length - 1]? = some A[A.length - 1] := List.getElem?_eq_getElem (by omega)
    have he1 := F.last _ hA0
    have he2 := F.nonneg _ _ hA0
    have he3 := F.en
    have hen : (en.toNat : Int) = en := by omega
    obtain ⟨g3, c3, rfl⟩ := own_form hR.r3 (by omega)
    obtain ⟨g4, c4, rfl⟩ := own_form hR.r4 hp
    obtain ⟨g5, c5, rfl⟩ := own_form hR.r5 hp
    obtain ⟨g6, c6, rfl⟩ := own_form hR.r6 hp
    obtain ⟨g7, c7, rfl⟩ := own_form hR.r7 hp
    obtain ⟨g8, c8, rfl⟩ := own_form hR.r8 hp
    obtain ⟨g9, c9, rfl⟩ := own_form hR.r9 hp
    obtain ⟨g10, c10, rfl⟩ := own_form hR.r10 hp
    have l5 : G.length = A.length := by have := hR.r5.1; simpa [B8] using this
    have l6 : Mb.length = A.length := by have := hR.r6.1; simpa [B8] using this
    have l7 : Q.length = A.length := by have := hR.r7.1; simpa [B8] using this
    have l8 : H.length = A.length := by have := hR.r8.1; simpa [I8] using this
    have l9 : V.length = A.length := by have := hR.r9.1; simpa [I8] using this
    have l10 : I.length = A.length := by have := hR.r10.1; simpa [Bo] using this
    have h7 : Seven w g4 g10 g5 g6 g7 g8 g9 (mkL A G Mb Q H V I) := by
      refine ⟨?_, ?_, ?_, ?_, ?_, ?_, ?_⟩
      all_goals
        intro k x hx
        obtain ⟨hk, rfl⟩ := mkL_get hx
      · have hc := own_cell hR.r4 (I64_get rfl hk)
        have := F.nonneg k _ (get_some rfl hk)
        rw [hc]; simp only [mkUn]; congr 2; omega
      · exact own_cell hR.r10 (Bo_get l10 hk)
      · exact own_cell hR.r5 (B8_get l5 hk)
      · exact own_cell hR.r6 (B8_get l6 hk)
      · exact own_cell hR.r7 (B8_get l7 hk)
      · exact own_cell hR.r8 (I8_get l8 hk)
      · exact own_cell hR.r9 (I8_get l9 hk)
    have hb : Bytes w g3 S := fun j hj => own_cell hR.r3 (B8_get rfl hj)
    have hc3 : S.length ≤ c3 := by
      rcases hR.r3.2 with ⟨h1, _⟩ | ⟨g, cap, cur, h1, _, _, h2, _⟩
      · simp at h1
      · simp at h1; omega
    have := zz_any B g3 c3 g4 g10 g5 g6 g7 g8 g9 c4 c10 c5 c6 c7 c8 c9 en.toNat S (mkL A G Mb Q H V I) mp 1000000000000 _ _ D0 E0 w h7 hb (own_kind hR.r3 rfl) hod hoe hB
      (fun e => by have h1 := hne g3 rfl; have h2 := (hod.lt g3 e.symm).1; omega) (mkL_lie F) (by omega)
      (fun x hx => by
        obtain ⟨k, hk⟩ := List.getElem?_of_mem hx
        obtain ⟨hl, rfl⟩ := mkL_get hk
        exact good k hl) (by rw [mkL_len]; exact hp) hc3 (hS0 _ c3 rfl) (by omega)
      (by rw [mkL_len]; have := Nat.mul_le_mul hA (show S.length + 4 ≤ 262148 by omega); omega) (by rw [mkL_len]; omega) (by omega)
    rw [hen] at this
    simp only [mkL_len] at this ⊢
    exact this
end Go.Proofs.Qxb6614154a
