/-
  The units in memory; payloads$3 by a contract.
-/
import Derived.Test.Qxb6614154aEnd
import Derived.Deep.RegionHeld3
namespace Go.Proofs.Qxb6614154a
open Go.ChangeShapes Go.WideShapes Go.ChangeAt Go.RowKit
set_option linter.unusedSimpArgs false
set_option linter.unusedVariables false

/-- a unit: where it begins, its state -/
structure Un where
  ats : Nat
  i : Bool
  g : Int
  m : Int
  q : Int
  h : Int
  u : Int

def Un.cells (x : Un) : List Value := [.int .i64 (x.ats : Int), .int .u8 0, .int .u8 0, .bool x.i, .bool false, .int .u8 x.g, .int .u8 x.m, .int .u8 x.q, .int .i8 x.h, .int .i8 x.u]
def Un.ok (x : Un) : Bool := okSt x.g x.m x.q x.h x.u
def Un.good (x : Un) : Prop := 0 ≤ x.g ∧ 0 ≤ x.m ∧ 0 ≤ x.q
def unitRow (L : List Un) : List Value := L.flatMap Un.cells
theorem unitRow_get (L : List Un) : ∀ (k j : Nat) (x : Un), L[k]? = some x → j < 10 → (unitRow L)[k * 10 + j]? = x.cells[j]? := by
  induction L with
  | nil => intro k j x h; simp at h
  | cons y r ih =>
    intro k j x h hj
    have e : unitRow (y :: r) = y.cells ++ unitRow r := by simp [unitRow]
    have l : y.cells.length = 10 := rfl
    rw [e]
    cases k with
    | zero => simp at h; subst h; rw [List.getElem?_append_left (by omega)]; simp
    | succ k =>
      rw [List.getElem?_append_right (by omega), l, show (k + 1) * 10 + j - 10 = k * 10 + j by omega]
      exact ih k j x (by simpa using h) hj
def Units (w : World) (gu : Nat) (L : List Un) : Prop := w.heap[gu]? = some (.cells (unitRow L).toArray 50 (0, 0))
theorem Units.cell {w : World} {gu : Nat} {L : List Un} (h : Units w gu L) {k : Nat} {x : Un} (hk : L[k]? = some x) (j : Nat) (hj : j < 10) : w.cell? ⟨gu, k * 10 + j, none⟩ = x.cells[j]? := by
  rw [Joins.cell_of_block h]
  simpa using unitRow_get L k j x hk hj

theorem appPay_ok' (B n : Nat) (vd : Value) (xs S : List Int) (gs cs s e : Nat) (x : Un) (w : World) (hown : w.ownsRow B 5 1 vd n (B8 xs)) (hB : B ≤ w.heap.size) (hlim : n + 4 + S.length ≤ 1099511627776)
    (hse : s < e) (he : (e + 7) / 8 ≤ S.length) (hcs : S.length ≤ cs) (hcl : cs ≤ 1099511627776) (hS : Bytes w gs S) (hgs : gs < w.heap.size) (hne : some gs ≠ vd.ownBlock)
    (hk : x.ok = true) (hg : x.good) :
    Calls Try.prog 27 #[vd, .slice (some ⟨gs, 0, none⟩) S.length cs, .int .i64 s, .int .i64 e, .agg #[.int .u8 0, .int .u8 0, .bool x.i, .bool false, .int .u8 x.g, .int .u8 x.m, .int .u8 x.q, .int .i8 x.h, .int .i8 x.u]] w fun r w' =>
      ∃ g' c', r = .returned (.tuple #[.slice (some ⟨g', 0, none⟩) (n + 4 + ((e + 7) / 8 - s / 8)) c', .nilIface]) ∧ w'.ownsRow B 5 1 (.slice (some ⟨g', 0, none⟩) (n + 4 + ((e + 7) / 8 - s / 8)) c') (n + 4 + ((e + 7) / 8 - s / 8)) (B8 (xs ++ payl S s e x.i x.g x.m x.q x.h x.u)) ∧ w.grownBy w' vd.ownBlock ∧ Lies w vd (.slice (some ⟨g', 0, none⟩) (n + 4 + ((e + 7) / 8 - s / 8)) c') :=
  (appPay_ok B n vd xs S gs cs s e x.i x.g x.m x.q x.h x.u w hown hB hlim hse he hcs hcl hS hgs hne hk hg.1 hg.2.1 hg.2.2).mono fun r w' ⟨v', h1, h2, h3, h4⟩ => by
    obtain ⟨g', c', rfl⟩ := own_form h2 (by omega)
    exact ⟨g', c', h1, h2, h3, h4⟩

/-- the payload buffer -/
def Buf (w : World) (bb : Nat) (vd ve : Value) : Prop := w.heap[bb]? = some (.cells #[vd, ve] 57 (0, 0))

/-- two rows of two kinds are two rows -/
theorem own_apart {w : World} {B B' : Nat} {v v' : Value} {n n' : Nat} {xs ys : List Value} (h : w.ownsRow B 5 1 v n xs) (h' : w.ownsRow B' 3 1 v' n' ys) : ∀ g, v.ownBlock = some g → some g ≠ v'.ownBlock := fun g hg e => by
  obtain ⟨c, h1⟩ := own_kind h hg
  obtain ⟨c', h2⟩ := own_kind h' e.symm
  rw [h1] at h2; simp at h2

theorem sc_kept {bb gs cs gu cu f x6 x7 x8 : Nat} {S : List Int} {L : List Un} {x : Un} {w w' : World} (h : w.cell? ⟨x6, 0, none⟩ = some (.pointer (some ⟨bb, 0, none⟩)) ∧ w.cell? ⟨x7, 0, none⟩ = some (.slice (some ⟨gs, 0, none⟩) S.length cs) ∧ w.cell? ⟨x8, 0, none⟩ = some (.slice (some ⟨gu, 0, none⟩) L.length cu) ∧ w.cell? ⟨gu, f * 10 + 1, none⟩ = some (.int .u8 0) ∧ w.cell? ⟨gu, f * 10 + 2, none⟩ = some (.int .u8 0) ∧ w.cell? ⟨gu, f * 10 + 3, none⟩ = some (.bool x.i) ∧ w.cell? ⟨gu, f * 10 + 4, none⟩ = some (.bool false) ∧ w.cell? ⟨gu, f * 10 + 5, none⟩ = some (.int .u8 x.g) ∧ w.cell? ⟨gu, f * 10 + 6, none⟩ = some (.int .u8 x.m) ∧ w.cell? ⟨gu, f * 10 + 7, none⟩ = some (.int .u8 x.q) ∧ w.cell? ⟨gu, f * 10 + 8, none⟩ = some (.int .i8 x.h) ∧ w.cell? ⟨gu, f * 10 + 9, none⟩ = some (.int .i8 x.u)) (k6 : w'.heap[x6]? = w.heap[x6]?) (k7 : w'.heap[x7]? = w.heap[x7]?) (k8 : w'.heap[x8]? = w.heap[x8]?) (ku : w'.heap[gu]? = w.heap[gu]?) :
    w'.cell? ⟨x6, 0, none⟩ = some (.pointer (some ⟨bb, 0, none⟩)) ∧ w'.cell? ⟨x7, 0, none⟩ = some (.slice (some ⟨gs, 0, none⟩) S.length cs) ∧ w'.cell? ⟨x8, 0, none⟩ = some (.slice (some ⟨gu, 0, none⟩) L.length cu) ∧ w'.cell? ⟨gu, f * 10 + 1, none⟩ = some (.int .u8 0) ∧ w'.cell? ⟨gu, f * 10 + 2, none⟩ = some (.int .u8 0) ∧ w'.cell? ⟨gu, f * 10 + 3, none⟩ = some (.bool x.i) ∧ w'.cell? ⟨gu, f * 10 + 4, none⟩ = some (.bool false) ∧ w'.cell? ⟨gu, f * 10 + 5, none⟩ = some (.int .u8 x.g) ∧ w'.cell? ⟨gu, f * 10 + 6, none⟩ = some (.int .u8 x.m) ∧ w'.cell? ⟨gu, f * 10 + 7, none⟩ = some (.int .u8 x.q) ∧ w'.cell? ⟨gu, f * 10 + 8, none⟩ = some (.int .i8 x.h) ∧ w'.cell? ⟨gu, f * 10 + 9, none⟩ = some (.int .i8 x.u) := by
  have e6 : ∀ o, w'.cell? ⟨x6, o, none⟩ = w.cell? ⟨x6, o, none⟩ := fun o => World.cell?_of_block (a := ⟨x6, o, none⟩) k6
  have e7 : ∀ o, w'.cell? ⟨x7, o, none⟩ = w.cell? ⟨x7, o, none⟩ := fun o => World.cell?_of_block (a := ⟨x7, o, none⟩) k7
  have e8 : ∀ o, w'.cell? ⟨x8, o, none⟩ = w.cell? ⟨x8, o, none⟩ := fun o => World.cell?_of_block (a := ⟨x8, o, none⟩) k8
  have eu : ∀ o, w'.cell? ⟨gu, o, none⟩ = w.cell? ⟨gu, o, none⟩ := fun o => World.cell?_of_block (a := ⟨gu, o, none⟩) ku
  rw [e6, e7, e8, eu, eu, eu, eu, eu, eu, eu, eu, eu]
  exact h

set_option maxHeartbeats 2000000 in
theorem pack_ok (B n ne : Nat) (vd ve : Value) (xs ys S : List Int) (gs cs s e bb x6 x7 x8 gu f cu : Nat) (L : List Un) (x : Un) (w : World)
    (hbuf : Buf w bb vd ve) (hod : w.ownsRow B 5 1 vd n (B8 xs)) (hoe : w.ownsRow B 3 1 ve ne (I64 ys)) (hB : B ≤ w.heap.size) (hlim : n + 4 + S.length ≤ 1099511627776) (hlim2 : ne + 1 ≤ 1099511627776)
    (h6 : w.heap[x6]? = some (.cells #[.pointer (some ⟨bb, 0, none⟩)] 55 (0, 0))) (h7 : w.heap[x7]? = some (.cells #[.slice (some ⟨gs, 0, none⟩) S.length cs] 22 (0, 0))) (h8 : w.heap[x8]? = some (.cells #[.slice (some ⟨gu, 0, none⟩) L.length cu] 46 (0, 0)))
    (hU : Units w gu L) (hf : L[f]? = some x)
    (hse : s < e) (he : (e + 7) / 8 ≤ S.length) (hcs : S.length ≤ cs) (hcl : cs ≤ 1099511627776) (hS : Bytes w gs S) (hgs : gs < w.heap.size) (hne : some gs ≠ vd.ownBlock)
    (hk : x.ok = true) (hg : x.good) :
    Calls Try.prog 26 #[.int .i64 f, .int .i64 s, .int .i64 e, .pointer (some ⟨x6, 0, none⟩), .pointer (some ⟨x7, 0, none⟩), .pointer (some ⟨x8, 0, none⟩)] w fun r w' =>
      r = .returned .nilIface ∧ ∃ vd' ve', Buf w' bb vd' ve' ∧ w'.ownsRow B 5 1 vd' (n + 4 + ((e + 7) / 8 - s / 8)) (B8 (xs ++ payl S s e x.i x.g x.m x.q x.h x.u)) ∧
        w'.ownsRow B 3 1 ve' (ne + 1) (I64 (ys ++ [((n + 4 + ((e + 7) / 8 - s / 8) : Nat) : Int)])) ∧ Lies w vd vd' ∧ Lies w ve ve' ∧ Upd (fun k => k = bb ∨ some k = vd.ownBlock ∨ some k = ve.ownBlock) w w' := by
  have c6 : w.cell? ⟨x6, 0, none⟩ = some (.pointer (some ⟨bb, 0, none⟩)) := Joins.cell_of_block h6 0
  have c7 : w.cell? ⟨x7, 0, none⟩ = some (.slice (some ⟨gs, 0, none⟩) S.length cs) := Joins.cell_of_block h7 0
  have c8 : w.cell? ⟨x8, 0, none⟩ = some (.slice (some ⟨gu, 0, none⟩) L.length cu) := Joins.cell_of_block h8 0
  have u1 := hU.cell hf 1 (by omega)
  have u2 := hU.cell hf 2 (by omega)
  have u3 := hU.cell hf 3 (by omega)
  have u4 := hU.cell hf 4 (by omega)
  have u5 := hU.cell hf 5 (by omega)
  have u6 := hU.cell hf 6 (by omega)
  have u7 := hU.cell hf 7 (by omega)
  have u8 := hU.cell hf 8 (by omega)
  have u9 := hU.cell hf 9 (by omega)
  simp only [Un.cells, List.getElem?_cons_succ, List.getElem?_cons_zero] at u1 u2 u3 u4 u5 u6 u7 u8 u9
  have d0 : w.cell? ⟨bb, 0, none⟩ = some vd := Joins.cell_of_block hbuf 0
  have hfl : (f : Int) < (L.length : Int) := by have := (List.getElem?_eq_some_iff.1 hf).1; omega
  have nb : some bb ≠ vd.ownBlock := fun e => by
    obtain ⟨c, h⟩ := own_kind hod e.symm
    rw [hbuf] at h; simp at h
  have n6 : some x6 ≠ vd.ownBlock := fun e => by
    obtain ⟨c, h⟩ := own_kind hod e.symm
    rw [h6] at h; simp at h
  have x6b : x6 ≠ bb := fun e => by
    subst e; rw [hbuf] at h6; simp at h6
  have bl : bb < w.heap.size := (Array.getElem?_eq_some_iff.1 hbuf).1
  have xl : x6 < w.heap.size := (Array.getElem?_eq_some_iff.1 h6).1
  have S0 : w.drew.cell? ⟨x6, 0, none⟩ = some (.pointer (some ⟨bb, 0, none⟩)) ∧ w.drew.cell? ⟨x7, 0, none⟩ = some (.slice (some ⟨gs, 0, none⟩) S.length cs) ∧ w.drew.cell? ⟨x8, 0, none⟩ = some (.slice (some ⟨gu, 0, none⟩) L.length cu) ∧ w.drew.cell? ⟨gu, f * 10 + 1, none⟩ = some (.int .u8 0) ∧ w.drew.cell? ⟨gu, f * 10 + 2, none⟩ = some (.int .u8 0) ∧ w.drew.cell? ⟨gu, f * 10 + 3, none⟩ = some (.bool x.i) ∧ w.drew.cell? ⟨gu, f * 10 + 4, none⟩ = some (.bool false) ∧ w.drew.cell? ⟨gu, f * 10 + 5, none⟩ = some (.int .u8 x.g) ∧ w.drew.cell? ⟨gu, f * 10 + 6, none⟩ = some (.int .u8 x.m) ∧ w.drew.cell? ⟨gu, f * 10 + 7, none⟩ = some (.int .u8 x.q) ∧ w.drew.cell? ⟨gu, f * 10 + 8, none⟩ = some (.int .i8 x.h) ∧ w.drew.cell? ⟨gu, f * 10 + 9, none⟩ = some (.int .i8 x.u) := ⟨c6, c7, c8, u1, u2, u3, u4, u5, u6, u7, u8, u9⟩
  have n7 : some x7 ≠ vd.ownBlock := fun e => by
    obtain ⟨c, h⟩ := own_kind hod e.symm
    rw [h7] at h; simp at h
  have n8 : some x8 ≠ vd.ownBlock := fun e => by
    obtain ⟨c, h⟩ := own_kind hod e.symm
    rw [h8] at h; simp at h
  have nu : some gu ≠ vd.ownBlock := fun e => by
    obtain ⟨c, h⟩ := own_kind hod e.symm
    rw [hU] at h; simp at h
  have x7b : x7 ≠ bb := fun e => by
    subst e; rw [hbuf] at h7; simp at h7
  have x8b : x8 ≠ bb := fun e => by
    subst e; rw [hbuf] at h8; simp at h8
  have gub : gu ≠ bb := fun e => by
    subst e; rw [Units, hbuf] at hU; simp at hU
  have l7 : x7 < w.heap.size := (Array.getElem?_eq_some_iff.1 h7).1
  have l8 : x8 < w.heap.size := (Array.getElem?_eq_some_iff.1 h8).1
  have lu : gu < w.heap.size := (Array.getElem?_eq_some_iff.1 hU).1
  have HS0 := hide S0
  clear S0
  have HA := hide (appPay_ok' B n vd xs S gs cs s e x w.drew hod hB hlim hse he hcs hcl hS hgs hne hk hg)
  have HB := hide hbuf
  have HD := hide hod
  have HE := hide hoe
  have HN := hide nb
  have HN6 := hide n6
  have H6 := hide h6
  have HAP := hide (own_apart hod hoe)
  have HN7 := hide n7
  have HN8 := hide n8
  have HNu := hide nu
  clear n7 n8 nu c6 c7 c8 u1 u2 u3 u4 u5 u6 u7 u8 u9
  clear hbuf hod hoe nb n6 h6 h7 h8 hU hf hS hne hk hg
  go_enter Try.func26, Try.ntmps26
  go_wp2
  refine wp_region_held_drew (S := fun w' => w'.cell? ⟨x6, 0, none⟩ = some (.pointer (some ⟨bb, 0, none⟩)) ∧ w'.cell? ⟨x7, 0, none⟩ = some (.slice (some ⟨gs, 0, none⟩) S.length cs) ∧ w'.cell? ⟨x8, 0, none⟩ = some (.slice (some ⟨gu, 0, none⟩) L.length cu) ∧ w'.cell? ⟨gu, f * 10 + 1, none⟩ = some (.int .u8 0) ∧ w'.cell? ⟨gu, f * 10 + 2, none⟩ = some (.int .u8 0) ∧ w'.cell? ⟨gu, f * 10 + 3, none⟩ = some (.bool x.i) ∧ w'.cell? ⟨gu, f * 10 + 4, none⟩ = some (.bool false) ∧ w'.cell? ⟨gu, f * 10 + 5, none⟩ = some (.int .u8 x.g) ∧ w'.cell? ⟨gu, f * 10 + 6, none⟩ = some (.int .u8 x.m) ∧ w'.cell? ⟨gu, f * 10 + 7, none⟩ = some (.int .u8 x.q) ∧ w'.cell? ⟨gu, f * 10 + 8, none⟩ = some (.int .i8 x.h) ∧ w'.cell? ⟨gu, f * 10 + 9, none⟩ = some (.int .i8 x.u)) (by kernel_rfl) (unhide HS0) (fun hHeld => ?_)
  refine wpAnyH_take (i := 0) (v := ?_) rfl (by kernel_rfl) (by kernel_rfl) (by kernel_rfl) (fun _ _ _ h => h) (Or.inl ⟨by rfl, ?_⟩) (by assumption) ?_
  rotate_left
  · intro w hSw; go_simp; try with_reducible rfl
  try simp only [Act.put, List.setIfInBounds_toArray, List.set_cons_zero, List.set_cons_succ]
  refine wpAnyH_take (i := 1) (v := ?_) rfl (by kernel_rfl) (by kernel_rfl) (by kernel_rfl) (fun _ _ _ h => h) (Or.inl ⟨by rfl, ?_⟩) (by assumption) ?_
  rotate_left
  · intro w hSw; go_simp; try with_reducible rfl
  try simp only [Act.put, List.setIfInBounds_toArray, List.set_cons_zero, List.set_cons_succ]
  refine wpAnyH_take (i := 2) (v := ?_) rfl (by kernel_rfl) (by kernel_rfl) (by kernel_rfl) (fun _ _ _ h => h) (Or.inl ⟨by rfl, ?_⟩) (by assumption) ?_
  rotate_left
  · intro w hSw; go_simp; try with_reducible rfl
  try simp only [Act.put, List.setIfInBounds_toArray, List.set_cons_zero, List.set_cons_succ]
  refine wpAnyH_take (i := 3) (v := ?_) rfl (by kernel_rfl) (by kernel_rfl) (by kernel_rfl) (fun _ _ _ h => h) (Or.inl ⟨by rfl, ?_⟩) (by assumption) ?_
  rotate_left
  · intro w hSw; go_simp; try with_reducible rfl
  try simp only [Act.put, List.setIfInBounds_toArray, List.set_cons_zero, List.set_cons_succ]
  refine wpAnyH_take (i := 5) (v := ?_) rfl (by kernel_rfl) (by kernel_rfl) (by kernel_rfl) (fun _ _ _ h => h) (Or.inl ⟨by rfl, ?_⟩) (by assumption) ?_
  rotate_left
  · intro w hSw; go_simp; try with_reducible rfl
  try simp only [Act.put, List.setIfInBounds_toArray, List.set_cons_zero, List.set_cons_succ]
  refine wpAnyH_take (i := 6) (v := ?_) rfl (by kernel_rfl) (by kernel_rfl) (by kernel_rfl) (fun _ _ _ h => h) (Or.inl ⟨by rfl, ?_⟩) (by assumption) ?_
  rotate_left
  · intro w hSw; go_simp; try with_reducible rfl
  try simp only [Act.put, List.setIfInBounds_toArray, List.set_cons_zero, List.set_cons_succ]
  refine wpAnyH_take (i := 7) (v := ?_) rfl (by kernel_rfl) (by kernel_rfl) (by kernel_rfl) (fun _ _ _ h => h) (Or.inl ⟨by rfl, ?_⟩) (by assumption) ?_
  rotate_left
  · intro w hSw; go_simp; try with_reducible rfl
  try simp only [Act.put, List.setIfInBounds_toArray, List.set_cons_zero, List.set_cons_succ]
  refine wpAnyH_take (i := 8) (v := ?_) rfl (by kernel_rfl) (by kernel_rfl) (by kernel_rfl) (fun _ _ _ h => h) (Or.inl ⟨by rfl, ?_⟩) (by assumption) ?_
  rotate_left
  · intro w hSw; go_simp; try with_reducible rfl
  try simp only [Act.put, List.setIfInBounds_toArray, List.set_cons_zero, List.set_cons_succ]
  refine wpAnyH_take (i := 9) (v := ?_) rfl (by kernel_rfl) (by kernel_rfl) (by kernel_rfl) (fun _ _ _ h => h) (Or.inl ⟨by rfl, ?_⟩) (by assumption) ?_
  rotate_left
  · intro w hSw; go_simp; try with_reducible rfl
  try simp only [Act.put, List.setIfInBounds_toArray, List.set_cons_zero, List.set_cons_succ]
  refine wpAnyH_take (i := 10) (v := ?_) rfl (by kernel_rfl) (by kernel_rfl) (by kernel_rfl) (fun _ _ _ h => h) (Or.inl ⟨by rfl, ?_⟩) (by assumption) ?_
  rotate_left
  · intro w hSw; go_simp; try with_reducible rfl
  try simp only [Act.put, List.setIfInBounds_toArray, List.set_cons_zero, List.set_cons_succ]
  refine wpAnyH_take (i := 11) (v := ?_) rfl (by kernel_rfl) (by kernel_rfl) (by kernel_rfl) (fun _ _ _ h => h) (Or.inl ⟨by rfl, ?_⟩) (by assumption) ?_
  rotate_left
  · intro w hSw; go_simp; try with_reducible rfl
  try simp only [Act.put, List.setIfInBounds_toArray, List.set_cons_zero, List.set_cons_succ]
  refine wpAnyH_take (i := 12) (v := ?_) rfl (by kernel_rfl) (by kernel_rfl) (by kernel_rfl) (fun _ _ _ h => h) (Or.inl ⟨by rfl, ?_⟩) (by assumption) ?_
  rotate_left
  · intro w hSw; go_simp; try with_reducible rfl
  try simp only [Act.put, List.setIfInBounds_toArray, List.set_cons_zero, List.set_cons_succ]
  refine wpAnyH_ready (rs := [4]) (by kernel_rfl) (by simp) ?_
  refine AllReadyH.cons (i := 4) rfl (fun K hK => ?_) AllReadyH.nil
  go_simp
  refine hK.out _ _ (unhide HS0) (fun hHeld => ?_)
  clear hK K
  try simp only [Act.put, List.setIfInBounds_toArray, List.set_cons_zero, List.set_cons_succ]
  refine wpAnyH_ready (rs := [13]) (by kernel_rfl) (by simp) ?_
  refine AllReadyH.cons (i := 13) rfl (fun K hK => ?_) AllReadyH.nil
  go_simp
  refine (unhide HA).mono ?_
  rintro r w1 ⟨g', c', rfl, ho1, hg1, hl1⟩
  have b1 : w1.heap[bb]? = some (.cells #[vd, ve] 57 (0, 0)) := (hg1.block bb bl (unhide HN)).trans (unhide HB)
  have d1 : w1.cell? ⟨bb, 0, none⟩ = some vd := Joins.cell_of_block b1 0
  have f1 : w1.frozen? ⟨bb, 0, none⟩ = false := Joins.unfrozen_of_block b1 0
  have b6 : w1.heap[x6]? = some (.cells #[.pointer (some ⟨bb, 0, none⟩)] 55 (0, 0)) := (hg1.block x6 xl (unhide HN6)).trans (unhide H6)
  have HS1 := hide (sc_kept (unhide HS0) (hg1.block x6 xl (unhide HN6)) (hg1.block x7 l7 (unhide HN7)) (hg1.block x8 l8 (unhide HN8)) (hg1.block gu lu (unhide HNu)))
  have HS2 := hide (sc_kept (w' := w1.setCell ⟨bb, 0, none⟩ (.slice (some ⟨g', 0, none⟩) (n + 4 + ((e + 7) / 8 - s / 8)) c')) (unhide HS1) (Below.heap_setCell _ _ _ _ x6b) (Below.heap_setCell _ _ _ _ x7b) (Below.heap_setCell _ _ _ _ x8b) (Below.heap_setCell _ _ _ _ gub))
  have HB1 := hide b1
  have HB6 := hide b6
  have HO1 := hide ho1
  have HG1 := hide hg1
  have HL1 := hide hl1
  clear b1 b6 ho1 hg1 hl1
  refine hK.out _ _ (unhide HS1) (fun hHeld => ?_)
  clear hK K
  try simp only [Act.put, List.setIfInBounds_toArray, List.set_cons_zero, List.set_cons_succ]
  refine wpAnyH_take (i := 14) (v := ?_) rfl (by kernel_rfl) (by kernel_rfl) (by kernel_rfl) (fun _ _ _ h => h) (Or.inl ⟨by rfl, ?_⟩) (by assumption) ?_
  rotate_left
  · intro w hSw; go_simp; try with_reducible rfl
  try simp only [Act.put, List.setIfInBounds_toArray, List.set_cons_zero, List.set_cons_succ]
  refine wpAnyH_take (i := 15) (v := ?_) rfl (by kernel_rfl) (by kernel_rfl) (by kernel_rfl) (fun _ _ _ h => h) (Or.inl ⟨by rfl, ?_⟩) (by assumption) ?_
  rotate_left
  · intro w hSw; go_simp; try with_reducible rfl
  try simp only [Act.put, List.setIfInBounds_toArray, List.set_cons_zero, List.set_cons_succ]
  refine wpAnyH_take (i := 16) (v := ?_) rfl (by kernel_rfl) (by kernel_rfl) (by kernel_rfl) (fun _ _ _ h => h) (Or.inl ⟨by rfl, ?_⟩) (by assumption) ?_
  rotate_left
  · intro w hSw; go_simp; try with_reducible rfl
  try simp only [Act.put, List.setIfInBounds_toArray, List.set_cons_zero, List.set_cons_succ]
  refine wpAnyH_take (i := 17) (v := ?_) rfl (by kernel_rfl) (by kernel_rfl) (by kernel_rfl) (fun _ _ _ h => h) (Or.inl ⟨by rfl, ?_⟩) (by assumption) ?_
  rotate_left
  · intro w hSw; go_simp; try with_reducible rfl
  try simp only [Act.put, List.setIfInBounds_toArray, List.set_cons_zero, List.set_cons_succ]
  refine wpAnyH_take (i := 18) (v := ?_) rfl (by kernel_rfl) (by kernel_rfl) (by kernel_rfl) (fun _ _ _ h => h) (Or.inl ⟨by rfl, ?_⟩) (by assumption) ?_
  rotate_left
  · intro w hSw; go_simp; try with_reducible rfl
  try simp only [Act.put, List.setIfInBounds_toArray, List.set_cons_zero, List.set_cons_succ]
  refine wpAnyH_ready (rs := [19]) (by kernel_rfl) (by simp) ?_
  refine AllReadyH.cons (i := 19) rfl (fun K hK => ?_) AllReadyH.nil
  go_simp
  refine hK.out _ _ (unhide HS2) (fun hHeld => ?_)
  clear hK K
  try simp only [Act.put, List.setIfInBounds_toArray, List.set_cons_zero, List.set_cons_succ]
  refine wpAnyH_take (i := 20) (v := ?_) rfl (by kernel_rfl) (by kernel_rfl) (by kernel_rfl) (fun _ _ _ h => h) (Or.inl ⟨by rfl, ?_⟩) (by assumption) ?_
  rotate_left
  · intro w hSw; go_simp; try with_reducible rfl
  try simp only [Act.put, List.setIfInBounds_toArray, List.set_cons_zero, List.set_cons_succ]
  refine wpAnyH_done (by kernel_rfl) ?_ _
  have b2 : (w1.setCell ⟨bb, 0, none⟩ (.slice (some ⟨g', 0, none⟩) (n + 4 + ((e + 7) / 8 - s / 8)) c')).heap[bb]? = some (.cells #[.slice (some ⟨g', 0, none⟩) (n + 4 + ((e + 7) / 8 - s / 8)) c', ve] 57 (0, 0)) := by rw [Joins.block_setCell (unhide HB1)]; rfl
  have q6 : (w1.setCell ⟨bb, 0, none⟩ (.slice (some ⟨g', 0, none⟩) (n + 4 + ((e + 7) / 8 - s / 8)) c')).cell? ⟨x6, 0, none⟩ = some (.pointer (some ⟨bb, 0, none⟩)) := by
    refine Joins.cell_of_block (t := 55) (fr := (0, 0)) (cs := #[.pointer (some ⟨bb, 0, none⟩)]) ?_ 0
    rw [Below.heap_setCell _ _ _ _ x6b]; exact unhide HB6
  have U1 : Upd (fun k => k = bb ∨ some k = vd.ownBlock) w w1 := (Upd.of_grown (show w.grownBy w1 vd.ownBlock from ⟨(unhide HG1).os, (unhide HG1).tape, (unhide HG1).output, (unhide HG1).size, (unhide HG1).block⟩)).mono (fun k _ h => .inr h)
  have U2 : Upd (fun k => k = bb ∨ some k = vd.ownBlock) w (w1.setCell ⟨bb, 0, none⟩ (.slice (some ⟨g', 0, none⟩) (n + 4 + ((e + 7) / 8 - s / 8)) c')) := U1.setCell _ _ (.inl (.inl rfl))
  have oe2 : (w1.setCell ⟨bb, 0, none⟩ (.slice (some ⟨g', 0, none⟩) (n + 4 + ((e + 7) / 8 - s / 8)) c')).ownsRow B 3 1 ve ne (I64 ys) := own_row_step (unhide HE) U2 (fun g hg hx => by
    rcases hx with rfl | hx
    · obtain ⟨c, h⟩ := own_kind (unhide HE) hg
      rw [unhide HB] at h; simp at h
    · exact unhide HAP g hx.symm hg.symm)
  have od2 : (w1.setCell ⟨bb, 0, none⟩ (.slice (some ⟨g', 0, none⟩) (n + 4 + ((e + 7) / 8 - s / 8)) c')).ownsRow B 5 1 (.slice (some ⟨g', 0, none⟩) (n + 4 + ((e + 7) / 8 - s / 8)) c') (n + 4 + ((e + 7) / 8 - s / 8)) (B8 (xs ++ payl S s e x.i x.g x.m x.q x.h x.u)) := ownsRow_setCell_other (unhide HO1) (fun hx => by
    obtain ⟨c, h⟩ := own_kind (unhide HO1) hx
    rw [unhide HB1] at h; simp at h) _
  have HEND := hide (end_any B (n + 4 + ((e + 7) / 8 - s / 8)) c' g' ne bb ve ys _ b2 oe2 (Nat.le_trans hB U2.size) hlim2 (by omega))
  have HB2 := hide b2
  have HU2 := hide U2
  have HOE := hide oe2
  have HOD := hide od2
  clear b2 U1 U2 oe2 od2 HB1 HB6 HA hHeld d0 d1 f1
  go_wp2_with (go_at_call 28; refine (unhide HEND).mono ?_; rintro r w3 ⟨rfl, ge, ce, hb3, ho3, hl3, hu3⟩)
  go_ret
  refine ⟨rfl, _, _, hb3, ?_, ho3, unhide HL1, ?_, ?_⟩
  · refine own_row_step (unhide HOD) hu3 (fun g hg hx => ?_)
    rcases hx with rfl | hx
    · obtain ⟨c, h⟩ := own_kind (unhide HOD) hg
      rw [unhide HB2] at h; simp at h
    · exact own_apart (unhide HOD) (unhide HOE) g hg hx
  · rcases hl3 with hl3 | ⟨gg, h5, h7⟩
    · exact .inl hl3
    · exact .inr ⟨gg, h5, Nat.le_trans (unhide HU2).size h7⟩
  · exact ((unhide HU2).mono (fun k _ h => h.elim .inl (fun h => .inr (.inl h)))).trans (hu3.mono (fun k _ h => h.elim .inl (fun h => .inr (.inr h))))

set_option maxHeartbeats 2000000 in
theorem pack_bad (B n ne : Nat) (vd ve : Value) (xs ys S : List Int) (gs cs s e bb x6 x7 x8 gu f cu : Nat) (L : List Un) (x : Un) (w : World)
    (hbuf : Buf w bb vd ve) (hod : w.ownsRow B 5 1 vd n (B8 xs)) (hoe : w.ownsRow B 3 1 ve ne (I64 ys)) (hB : B ≤ w.heap.size) (hlim : n + 4 + S.length ≤ 1099511627776) (hlim2 : ne + 1 ≤ 1099511627776)
    (h6 : w.heap[x6]? = some (.cells #[.pointer (some ⟨bb, 0, none⟩)] 55 (0, 0))) (h7 : w.heap[x7]? = some (.cells #[.slice (some ⟨gs, 0, none⟩) S.length cs] 22 (0, 0))) (h8 : w.heap[x8]? = some (.cells #[.slice (some ⟨gu, 0, none⟩) L.length cu] 46 (0, 0)))
    (hU : Units w gu L) (hf : L[f]? = some x)
    (hse : s < e) (he : (e + 7) / 8 ≤ S.length) (hcs : S.length ≤ cs) (hcl : cs ≤ 1099511627776) (hS : Bytes w gs S) (hgs : gs < w.heap.size) (hne : some gs ≠ vd.ownBlock)
    (hk : x.ok = false) :
    Calls Try.prog 26 #[.int .i64 f, .int .i64 s, .int .i64 e, .pointer (some ⟨x6, 0, none⟩), .pointer (some ⟨x7, 0, none⟩), .pointer (some ⟨x8, 0, none⟩)] w fun r w' =>
      (∃ a, r = .returned (.iface 71 (.pointer (some a)))) ∧ Buf w' bb vd ve ∧ Upd (fun k => k = bb) w w' := by
  have c6 : w.cell? ⟨x6, 0, none⟩ = some (.pointer (some ⟨bb, 0, none⟩)) := Joins.cell_of_block h6 0
  have c7 : w.cell? ⟨x7, 0, none⟩ = some (.slice (some ⟨gs, 0, none⟩) S.length cs) := Joins.cell_of_block h7 0
  have c8 : w.cell? ⟨x8, 0, none⟩ = some (.slice (some ⟨gu, 0, none⟩) L.length cu) := Joins.cell_of_block h8 0
  have u1 := hU.cell hf 1 (by omega)
  have u2 := hU.cell hf 2 (by omega)
  have u3 := hU.cell hf 3 (by omega)
  have u4 := hU.cell hf 4 (by omega)
  have u5 := hU.cell hf 5 (by omega)
  have u6 := hU.cell hf 6 (by omega)
  have u7 := hU.cell hf 7 (by omega)
  have u8 := hU.cell hf 8 (by omega)
  have u9 := hU.cell hf 9 (by omega)
  simp only [Un.cells, List.getElem?_cons_succ, List.getElem?_cons_zero] at u1 u2 u3 u4 u5 u6 u7 u8 u9
  have d0 : w.cell? ⟨bb, 0, none⟩ = some vd := Joins.cell_of_block hbuf 0
  have hfl : (f : Int) < (L.length : Int) := by have := (List.getElem?_eq_some_iff.1 hf).1; omega
  have nb : some bb ≠ vd.ownBlock := fun e => by
    obtain ⟨c, h⟩ := own_kind hod e.symm
    rw [hbuf] at h; simp at h
  have n6 : some x6 ≠ vd.ownBlock := fun e => by
    obtain ⟨c, h⟩ := own_kind hod e.symm
    rw [h6] at h; simp at h
  have x6b : x6 ≠ bb := fun e => by
    subst e; rw [hbuf] at h6; simp at h6
  have bl : bb < w.heap.size := (Array.getElem?_eq_some_iff.1 hbuf).1
  have xl : x6 < w.heap.size := (Array.getElem?_eq_some_iff.1 h6).1
  have S0 : w.drew.cell? ⟨x6, 0, none⟩ = some (.pointer (some ⟨bb, 0, none⟩)) ∧ w.drew.cell? ⟨x7, 0, none⟩ = some (.slice (some ⟨gs, 0, none⟩) S.length cs) ∧ w.drew.cell? ⟨x8, 0, none⟩ = some (.slice (some ⟨gu, 0, none⟩) L.length cu) ∧ w.drew.cell? ⟨gu, f * 10 + 1, none⟩ = some (.int .u8 0) ∧ w.drew.cell? ⟨gu, f * 10 + 2, none⟩ = some (.int .u8 0) ∧ w.drew.cell? ⟨gu, f * 10 + 3, none⟩ = some (.bool x.i) ∧ w.drew.cell? ⟨gu, f * 10 + 4, none⟩ = some (.bool false) ∧ w.drew.cell? ⟨gu, f * 10 + 5, none⟩ = some (.int .u8 x.g) ∧ w.drew.cell? ⟨gu, f * 10 + 6, none⟩ = some (.int .u8 x.m) ∧ w.drew.cell? ⟨gu, f * 10 + 7, none⟩ = some (.int .u8 x.q) ∧ w.drew.cell? ⟨gu, f * 10 + 8, none⟩ = some (.int .i8 x.h) ∧ w.drew.cell? ⟨gu, f * 10 + 9, none⟩ = some (.int .i8 x.u) := ⟨c6, c7, c8, u1, u2, u3, u4, u5, u6, u7, u8, u9⟩
  have n7 : some x7 ≠ vd.ownBlock := fun e => by
    obtain ⟨c, h⟩ := own_kind hod e.symm
    rw [h7] at h; simp at h
  have n8 : some x8 ≠ vd.ownBlock := fun e => by
    obtain ⟨c, h⟩ := own_kind hod e.symm
    rw [h8] at h; simp at h
  have nu : some gu ≠ vd.ownBlock := fun e => by
    obtain ⟨c, h⟩ := own_kind hod e.symm
    rw [hU] at h; simp at h
  have x7b : x7 ≠ bb := fun e => by
    subst e; rw [hbuf] at h7; simp at h7
  have x8b : x8 ≠ bb := fun e => by
    subst e; rw [hbuf] at h8; simp at h8
  have gub : gu ≠ bb := fun e => by
    subst e; rw [Units, hbuf] at hU; simp at hU
  have l7 : x7 < w.heap.size := (Array.getElem?_eq_some_iff.1 h7).1
  have l8 : x8 < w.heap.size := (Array.getElem?_eq_some_iff.1 h8).1
  have lu : gu < w.heap.size := (Array.getElem?_eq_some_iff.1 hU).1
  have HS0 := hide S0
  clear S0
  have HA := hide (appPay_bad vd S gs cs s e x.i x.g x.m x.q x.h x.u w.drew hse he hcs hcl hk)
  have HB := hide hbuf
  have H6 := hide h6
  have hv : vd = .slice none 0 0 ∨ ∃ g cap, vd = .slice (some ⟨g, 0, none⟩) n cap := by
    rcases hod.2 with ⟨h, _⟩ | ⟨g, cap, cur, h, _⟩
    · exact .inl h
    · exact .inr ⟨g, cap, h⟩
  clear hbuf hod hoe nb n6 h6 h7 h8 hU hf hS hne hk n7 n8 nu c6 c7 c8 u1 u2 u3 u4 u5 u6 u7 u8 u9
  rcases hv with rfl | ⟨gd, cd, rfl⟩
  · go_enter Try.func26, Try.ntmps26
    go_wp2
    refine wp_region_held_drew (S := fun w' => w'.cell? ⟨x6, 0, none⟩ = some (.pointer (some ⟨bb, 0, none⟩)) ∧ w'.cell? ⟨x7, 0, none⟩ = some (.slice (some ⟨gs, 0, none⟩) S.length cs) ∧ w'.cell? ⟨x8, 0, none⟩ = some (.slice (some ⟨gu, 0, none⟩) L.length cu) ∧ w'.cell? ⟨gu, f * 10 + 1, none⟩ = some (.int .u8 0) ∧ w'.cell? ⟨gu, f * 10 + 2, none⟩ = some (.int .u8 0) ∧ w'.cell? ⟨gu, f * 10 + 3, none⟩ = some (.bool x.i) ∧ w'.cell? ⟨gu, f * 10 + 4, none⟩ = some (.bool false) ∧ w'.cell? ⟨gu, f * 10 + 5, none⟩ = some (.int .u8 x.g) ∧ w'.cell? ⟨gu, f * 10 + 6, none⟩ = some (.int .u8 x.m) ∧ w'.cell? ⟨gu, f * 10 + 7, none⟩ = some (.int .u8 x.q) ∧ w'.cell? ⟨gu, f * 10 + 8, none⟩ = some (.int .i8 x.h) ∧ w'.cell? ⟨gu, f * 10 + 9, none⟩ = some (.int .i8 x.u)) (by kernel_rfl) (unhide HS0) (fun hHeld => ?_)
    refine wpAnyH_take (i := 0) (v := ?_) rfl (by kernel_rfl) (by kernel_rfl) (by kernel_rfl) (fun _ _ _ h => h) (Or.inl ⟨by rfl, ?_⟩) (by assumption) ?_
    rotate_left
    · intro w hSw; go_simp; try with_reducible rfl
    try simp only [Act.put, List.setIfInBounds_toArray, List.set_cons_zero, List.set_cons_succ]
    refine wpAnyH_take (i := 1) (v := ?_) rfl (by kernel_rfl) (by kernel_rfl) (by kernel_rfl) (fun _ _ _ h => h) (Or.inl ⟨by rfl, ?_⟩) (by assumption) ?_
    rotate_left
    · intro w hSw; go_simp; try with_reducible rfl
    try simp only [Act.put, List.setIfInBounds_toArray, List.set_cons_zero, List.set_cons_succ]
    refine wpAnyH_take (i := 2) (v := ?_) rfl (by kernel_rfl) (by kernel_rfl) (by kernel_rfl) (fun _ _ _ h => h) (Or.inl ⟨by rfl, ?_⟩) (by assumption) ?_
    rotate_left
    · intro w hSw; go_simp; try with_reducible rfl
    try simp only [Act.put, List.setIfInBounds_toArray, List.set_cons_zero, List.set_cons_succ]
    refine wpAnyH_take (i := 3) (v := ?_) rfl (by kernel_rfl) (by kernel_rfl) (by kernel_rfl) (fun _ _ _ h => h) (Or.inl ⟨by rfl, ?_⟩) (by assumption) ?_
    rotate_left
    · intro w hSw; go_simp; try with_reducible rfl
    try simp only [Act.put, List.setIfInBounds_toArray, List.set_cons_zero, List.set_cons_succ]
    refine wpAnyH_take (i := 5) (v := ?_) rfl (by kernel_rfl) (by kernel_rfl) (by kernel_rfl) (fun _ _ _ h => h) (Or.inl ⟨by rfl, ?_⟩) (by assumption) ?_
    rotate_left
    · intro w hSw; go_simp; try with_reducible rfl
    try simp only [Act.put, List.setIfInBounds_toArray, List.set_cons_zero, List.set_cons_succ]
    refine wpAnyH_take (i := 6) (v := ?_) rfl (by kernel_rfl) (by kernel_rfl) (by kernel_rfl) (fun _ _ _ h => h) (Or.inl ⟨by rfl, ?_⟩) (by assumption) ?_
    rotate_left
    · intro w hSw; go_simp; try with_reducible rfl
    try simp only [Act.put, List.setIfInBounds_toArray, List.set_cons_zero, List.set_cons_succ]
    refine wpAnyH_take (i := 7) (v := ?_) rfl (by kernel_rfl) (by kernel_rfl) (by kernel_rfl) (fun _ _ _ h => h) (Or.inl ⟨by rfl, ?_⟩) (by assumption) ?_
    rotate_left
    · intro w hSw; go_simp; try with_reducible rfl
    try simp only [Act.put, List.setIfInBounds_toArray, List.set_cons_zero, List.set_cons_succ]
    refine wpAnyH_take (i := 8) (v := ?_) rfl (by kernel_rfl) (by kernel_rfl) (by kernel_rfl) (fun _ _ _ h => h) (Or.inl ⟨by rfl, ?_⟩) (by assumption) ?_
    rotate_left
    · intro w hSw; go_simp; try with_reducible rfl
    try simp only [Act.put, List.setIfInBounds_toArray, List.set_cons_zero, List.set_cons_succ]
    refine wpAnyH_take (i := 9) (v := ?_) rfl (by kernel_rfl) (by kernel_rfl) (by kernel_rfl) (fun _ _ _ h => h) (Or.inl ⟨by rfl, ?_⟩) (by assumption) ?_
    rotate_left
    · intro w hSw; go_simp; try with_reducible rfl
    try simp only [Act.put, List.setIfInBounds_toArray, List.set_cons_zero, List.set_cons_succ]
    refine wpAnyH_take (i := 10) (v := ?_) rfl (by kernel_rfl) (by kernel_rfl) (by kernel_rfl) (fun _ _ _ h => h) (Or.inl ⟨by rfl, ?_⟩) (by assumption) ?_
    rotate_left
    · intro w hSw; go_simp; try with_reducible rfl
    try simp only [Act.put, List.setIfInBounds_toArray, List.set_cons_zero, List.set_cons_succ]
    refine wpAnyH_take (i := 11) (v := ?_) rfl (by kernel_rfl) (by kernel_rfl) (by kernel_rfl) (fun _ _ _ h => h) (Or.inl ⟨by rfl, ?_⟩) (by assumption) ?_
    rotate_left
    · intro w hSw; go_simp; try with_reducible rfl
    try simp only [Act.put, List.setIfInBounds_toArray, List.set_cons_zero, List.set_cons_succ]
    refine wpAnyH_take (i := 12) (v := ?_) rfl (by kernel_rfl) (by kernel_rfl) (by kernel_rfl) (fun _ _ _ h => h) (Or.inl ⟨by rfl, ?_⟩) (by assumption) ?_
    rotate_left
    · intro w hSw; go_simp; try with_reducible rfl
    try simp only [Act.put, List.setIfInBounds_toArray, List.set_cons_zero, List.set_cons_succ]
    refine wpAnyH_ready (rs := [4]) (by kernel_rfl) (by simp) ?_
    refine AllReadyH.cons (i := 4) rfl (fun K hK => ?_) AllReadyH.nil
    go_simp
    refine hK.out _ _ (unhide HS0) (fun hHeld => ?_)
    clear hK K
    try simp only [Act.put, List.setIfInBounds_toArray, List.set_cons_zero, List.set_cons_succ]
    refine wpAnyH_ready (rs := [13]) (by kernel_rfl) (by simp) ?_
    refine AllReadyH.cons (i := 13) rfl (fun K hK => ?_) AllReadyH.nil
    go_simp
    refine (unhide HA).mono ?_
    rintro r w1 ⟨a, rfl, hg1⟩
    have b1 := (hg1.block bb bl (by simp)).trans (unhide HB)
    have d1 := Joins.cell_of_block b1 0
    have f1 : w1.frozen? ⟨bb, 0, none⟩ = false := Joins.unfrozen_of_block b1 0
    have HS1 := hide (sc_kept (unhide HS0) (hg1.block x6 xl (by simp)) (hg1.block x7 l7 (by simp)) (hg1.block x8 l8 (by simp)) (hg1.block gu lu (by simp)))
    have HS2 := hide (sc_kept (w' := w1.setCell ⟨bb, 0, none⟩ (.slice none 0 0)) (unhide HS1) (Below.heap_setCell _ _ _ _ x6b) (Below.heap_setCell _ _ _ _ x7b) (Below.heap_setCell _ _ _ _ x8b) (Below.heap_setCell _ _ _ _ gub))
    have HB1 := hide b1
    have HG1 := hide hg1
    clear b1 hg1
    refine hK.out _ _ (unhide HS1) (fun hHeld => ?_)
    clear hK K
    try simp only [Act.put, List.setIfInBounds_toArray, List.set_cons_zero, List.set_cons_succ]
    refine wpAnyH_take (i := 14) (v := ?_) rfl (by kernel_rfl) (by kernel_rfl) (by kernel_rfl) (fun _ _ _ h => h) (Or.inl ⟨by rfl, ?_⟩) (by assumption) ?_
    rotate_left
    · intro w hSw; go_simp; try with_reducible rfl
    try simp only [Act.put, List.setIfInBounds_toArray, List.set_cons_zero, List.set_cons_succ]
    refine wpAnyH_take (i := 15) (v := ?_) rfl (by kernel_rfl) (by kernel_rfl) (by kernel_rfl) (fun _ _ _ h => h) (Or.inl ⟨by rfl, ?_⟩) (by assumption) ?_
    rotate_left
    · intro w hSw; go_simp; try with_reducible rfl
    try simp only [Act.put, List.setIfInBounds_toArray, List.set_cons_zero, List.set_cons_succ]
    refine wpAnyH_take (i := 16) (v := ?_) rfl (by kernel_rfl) (by kernel_rfl) (by kernel_rfl) (fun _ _ _ h => h) (Or.inl ⟨by rfl, ?_⟩) (by assumption) ?_
    rotate_left
    · intro w hSw; go_simp; try with_reducible rfl
    try simp only [Act.put, List.setIfInBounds_toArray, List.set_cons_zero, List.set_cons_succ]
    refine wpAnyH_take (i := 17) (v := ?_) rfl (by kernel_rfl) (by kernel_rfl) (by kernel_rfl) (fun _ _ _ h => h) (Or.inl ⟨by rfl, ?_⟩) (by assumption) ?_
    rotate_left
    · intro w hSw; go_simp; try with_reducible rfl
    try simp only [Act.put, List.setIfInBounds_toArray, List.set_cons_zero, List.set_cons_succ]
    refine wpAnyH_take (i := 18) (v := ?_) rfl (by kernel_rfl) (by kernel_rfl) (by kernel_rfl) (fun _ _ _ h => h) (Or.inl ⟨by rfl, ?_⟩) (by assumption) ?_
    rotate_left
    · intro w hSw; go_simp; try with_reducible rfl
    try simp only [Act.put, List.setIfInBounds_toArray, List.set_cons_zero, List.set_cons_succ]
    refine wpAnyH_ready (rs := [19]) (by kernel_rfl) (by simp) ?_
    refine AllReadyH.cons (i := 19) rfl (fun K hK => ?_) AllReadyH.nil
    go_simp
    refine hK.out _ _ (unhide HS2) (fun hHeld => ?_)
    clear hK K
    try simp only [Act.put, List.setIfInBounds_toArray, List.set_cons_zero, List.set_cons_succ]
    refine wpAnyH_take (i := 20) (v := ?_) rfl (by kernel_rfl) (by kernel_rfl) (by kernel_rfl) (fun _ _ _ h => h) (Or.inl ⟨by rfl, ?_⟩) (by assumption) ?_
    rotate_left
    · intro w hSw; go_simp; try with_reducible rfl
    try simp only [Act.put, List.setIfInBounds_toArray, List.set_cons_zero, List.set_cons_succ]
    refine wpAnyH_done (by kernel_rfl) ?_ _
    clear HA hHeld d0 d1 f1
    go_wp2
    go_ret
    refine ⟨⟨a, rfl⟩, ?_, ?_⟩
    · rw [Buf, Joins.block_setCell (unhide HB1)]; rfl
    · exact ((Upd.of_grown (show w.grownBy w1 none from ⟨(unhide HG1).os, (unhide HG1).tape, (unhide HG1).output, (unhide HG1).size, (unhide HG1).block⟩)).mono (fun k _ h => by cases h)).setCell _ _ (.inl rfl)
  · go_enter Try.func26, Try.ntmps26
    go_wp2
    refine wp_region_held_drew (S := fun w' => w'.cell? ⟨x6, 0, none⟩ = some (.pointer (some ⟨bb, 0, none⟩)) ∧ w'.cell? ⟨x7, 0, none⟩ = some (.slice (some ⟨gs, 0, none⟩) S.length cs) ∧ w'.cell? ⟨x8, 0, none⟩ = some (.slice (some ⟨gu, 0, none⟩) L.length cu) ∧ w'.cell? ⟨gu, f * 10 + 1, none⟩ = some (.int .u8 0) ∧ w'.cell? ⟨gu, f * 10 + 2, none⟩ = some (.int .u8 0) ∧ w'.cell? ⟨gu, f * 10 + 3, none⟩ = some (.bool x.i) ∧ w'.cell? ⟨gu, f * 10 + 4, none⟩ = some (.bool false) ∧ w'.cell? ⟨gu, f * 10 + 5, none⟩ = some (.int .u8 x.g) ∧ w'.cell? ⟨gu, f * 10 + 6, none⟩ = some (.int .u8 x.m) ∧ w'.cell? ⟨gu, f * 10 + 7, none⟩ = some (.int .u8 x.q) ∧ w'.cell? ⟨gu, f * 10 + 8, none⟩ = some (.int .i8 x.h) ∧ w'.cell? ⟨gu, f * 10 + 9, none⟩ = some (.int .i8 x.u)) (by kernel_rfl) (unhide HS0) (fun hHeld => ?_)
    refine wpAnyH_take (i := 0) (v := ?_) rfl (by kernel_rfl) (by kernel_rfl) (by kernel_rfl) (fun _ _ _ h => h) (Or.inl ⟨by rfl, ?_⟩) (by assumption) ?_
    rotate_left
    · intro w hSw; go_simp; try with_reducible rfl
    try simp only [Act.put, List.setIfInBounds_toArray, List.set_cons_zero, List.set_cons_succ]
    refine wpAnyH_take (i := 1) (v := ?_) rfl (by kernel_rfl) (by kernel_rfl) (by kernel_rfl) (fun _ _ _ h => h) (Or.inl ⟨by rfl, ?_⟩) (by assumption) ?_
    rotate_left
    · intro w hSw; go_simp; try with_reducible rfl
    try simp only [Act.put, List.setIfInBounds_toArray, List.set_cons_zero, List.set_cons_succ]
    refine wpAnyH_take (i := 2) (v := ?_) rfl (by kernel_rfl) (by kernel_rfl) (by kernel_rfl) (fun _ _ _ h => h) (Or.inl ⟨by rfl, ?_⟩) (by assumption) ?_
    rotate_left
    · intro w hSw; go_simp; try with_reducible rfl
    try simp only [Act.put, List.setIfInBounds_toArray, List.set_cons_zero, List.set_cons_succ]
    refine wpAnyH_take (i := 3) (v := ?_) rfl (by kernel_rfl) (by kernel_rfl) (by kernel_rfl) (fun _ _ _ h => h) (Or.inl ⟨by rfl, ?_⟩) (by assumption) ?_
    rotate_left
    · intro w hSw; go_simp; try with_reducible rfl
    try simp only [Act.put, List.setIfInBounds_toArray, List.set_cons_zero, List.set_cons_succ]
    refine wpAnyH_take (i := 5) (v := ?_) rfl (by kernel_rfl) (by kernel_rfl) (by kernel_rfl) (fun _ _ _ h => h) (Or.inl ⟨by rfl, ?_⟩) (by assumption) ?_
    rotate_left
    · intro w hSw; go_simp; try with_reducible rfl
    try simp only [Act.put, List.setIfInBounds_toArray, List.set_cons_zero, List.set_cons_succ]
    refine wpAnyH_take (i := 6) (v := ?_) rfl (by kernel_rfl) (by kernel_rfl) (by kernel_rfl) (fun _ _ _ h => h) (Or.inl ⟨by rfl, ?_⟩) (by assumption) ?_
    rotate_left
    · intro w hSw; go_simp; try with_reducible rfl
    try simp only [Act.put, List.setIfInBounds_toArray, List.set_cons_zero, List.set_cons_succ]
    refine wpAnyH_take (i := 7) (v := ?_) rfl (by kernel_rfl) (by kernel_rfl) (by kernel_rfl) (fun _ _ _ h => h) (Or.inl ⟨by rfl, ?_⟩) (by assumption) ?_
    rotate_left
    · intro w hSw; go_simp; try with_reducible rfl
    try simp only [Act.put, List.setIfInBounds_toArray, List.set_cons_zero, List.set_cons_succ]
    refine wpAnyH_take (i := 8) (v := ?_) rfl (by kernel_rfl) (by kernel_rfl) (by kernel_rfl) (fun _ _ _ h => h) (Or.inl ⟨by rfl, ?_⟩) (by assumption) ?_
    rotate_left
    · intro w hSw; go_simp; try with_reducible rfl
    try simp only [Act.put, List.setIfInBounds_toArray, List.set_cons_zero, List.set_cons_succ]
    refine wpAnyH_take (i := 9) (v := ?_) rfl (by kernel_rfl) (by kernel_rfl) (by kernel_rfl) (fun _ _ _ h => h) (Or.inl ⟨by rfl, ?_⟩) (by assumption) ?_
    rotate_left
    · intro w hSw; go_simp; try with_reducible rfl
    try simp only [Act.put, List.setIfInBounds_toArray, List.set_cons_zero, List.set_cons_succ]
    refine wpAnyH_take (i := 10) (v := ?_) rfl (by kernel_rfl) (by kernel_rfl) (by kernel_rfl) (fun _ _ _ h => h) (Or.inl ⟨by rfl, ?_⟩) (by assumption) ?_
    rotate_left
    · intro w hSw; go_simp; try with_reducible rfl
    try simp only [Act.put, List.setIfInBounds_toArray, List.set_cons_zero, List.set_cons_succ]
    refine wpAnyH_take (i := 11) (v := ?_) rfl (by kernel_rfl) (by kernel_rfl) (by kernel_rfl) (fun _ _ _ h => h) (Or.inl ⟨by rfl, ?_⟩) (by assumption) ?_
    rotate_left
    · intro w hSw; go_simp; try with_reducible rfl
    try simp only [Act.put, List.setIfInBounds_toArray, List.set_cons_zero, List.set_cons_succ]
    refine wpAnyH_take (i := 12) (v := ?_) rfl (by kernel_rfl) (by kernel_rfl) (by kernel_rfl) (fun _ _ _ h => h) (Or.inl ⟨by rfl, ?_⟩) (by assumption) ?_
    rotate_left
    · intro w hSw; go_simp; try with_reducible rfl
    try simp only [Act.put, List.setIfInBounds_toArray, List.set_cons_zero, List.set_cons_succ]
    refine wpAnyH_ready (rs := [4]) (by kernel_rfl) (by simp) ?_
    refine AllReadyH.cons (i := 4) rfl (fun K hK => ?_) AllReadyH.nil
    go_simp
    refine hK.out _ _ (unhide HS0) (fun hHeld => ?_)
    clear hK K
    try simp only [Act.put, List.setIfInBounds_toArray, List.set_cons_zero, List.set_cons_succ]
    refine wpAnyH_ready (rs := [13]) (by kernel_rfl) (by simp) ?_
    refine AllReadyH.cons (i := 13) rfl (fun K hK => ?_) AllReadyH.nil
    go_simp
    refine (unhide HA).mono ?_
    rintro r w1 ⟨a, rfl, hg1⟩
    have b1 := (hg1.block bb bl (by simp)).trans (unhide HB)
    have d1 := Joins.cell_of_block b1 0
    have f1 : w1.frozen? ⟨bb, 0, none⟩ = false := Joins.unfrozen_of_block b1 0
    have HS1 := hide (sc_kept (unhide HS0) (hg1.block x6 xl (by simp)) (hg1.block x7 l7 (by simp)) (hg1.block x8 l8 (by simp)) (hg1.block gu lu (by simp)))
    have HS2 := hide (sc_kept (w' := w1.setCell ⟨bb, 0, none⟩ (.slice (some ⟨gd, 0, none⟩) n cd)) (unhide HS1) (Below.heap_setCell _ _ _ _ x6b) (Below.heap_setCell _ _ _ _ x7b) (Below.heap_setCell _ _ _ _ x8b) (Below.heap_setCell _ _ _ _ gub))
    have HB1 := hide b1
    have HG1 := hide hg1
    clear b1 hg1
    refine hK.out _ _ (unhide HS1) (fun hHeld => ?_)
    clear hK K
    try simp only [Act.put, List.setIfInBounds_toArray, List.set_cons_zero, List.set_cons_succ]
    refine wpAnyH_take (i := 14) (v := ?_) rfl (by kernel_rfl) (by kernel_rfl) (by kernel_rfl) (fun _ _ _ h => h) (Or.inl ⟨by rfl, ?_⟩) (by assumption) ?_
    rotate_left
    · intro w hSw; go_simp; try with_reducible rfl
    try simp only [Act.put, List.setIfInBounds_toArray, List.set_cons_zero, List.set_cons_succ]
    refine wpAnyH_take (i := 15) (v := ?_) rfl (by kernel_rfl) (by kernel_rfl) (by kernel_rfl) (fun _ _ _ h => h) (Or.inl ⟨by rfl, ?_⟩) (by assumption) ?_
    rotate_left
    · intro w hSw; go_simp; try with_reducible rfl
    try simp only [Act.put, List.setIfInBounds_toArray, List.set_cons_zero, List.set_cons_succ]
    refine wpAnyH_take (i := 16) (v := ?_) rfl (by kernel_rfl) (by kernel_rfl) (by kernel_rfl) (fun _ _ _ h => h) (Or.inl ⟨by rfl, ?_⟩) (by assumption) ?_
    rotate_left
    · intro w hSw; go_simp; try with_reducible rfl
    try simp only [Act.put, List.setIfInBounds_toArray, List.set_cons_zero, List.set_cons_succ]
    refine wpAnyH_take (i := 17) (v := ?_) rfl (by kernel_rfl) (by kernel_rfl) (by kernel_rfl) (fun _ _ _ h => h) (Or.inl ⟨by rfl, ?_⟩) (by assumption) ?_
    rotate_left
    · intro w hSw; go_simp; try with_reducible rfl
    try simp only [Act.put, List.setIfInBounds_toArray, List.set_cons_zero, List.set_cons_succ]
    refine wpAnyH_take (i := 18) (v := ?_) rfl (by kernel_rfl) (by kernel_rfl) (by kernel_rfl) (fun _ _ _ h => h) (Or.inl ⟨by rfl, ?_⟩) (by assumption) ?_
    rotate_left
    · intro w hSw; go_simp; try with_reducible rfl
    try simp only [Act.put, List.setIfInBounds_toArray, List.set_cons_zero, List.set_cons_succ]
    refine wpAnyH_ready (rs := [19]) (by kernel_rfl) (by simp) ?_
    refine AllReadyH.cons (i := 19) rfl (fun K hK => ?_) AllReadyH.nil
    go_simp
    refine hK.out _ _ (unhide HS2) (fun hHeld => ?_)
    clear hK K
    try simp only [Act.put, List.setIfInBounds_toArray, List.set_cons_zero, List.set_cons_succ]
    refine wpAnyH_take (i := 20) (v := ?_) rfl (by kernel_rfl) (by kernel_rfl) (by kernel_rfl) (fun _ _ _ h => h) (Or.inl ⟨by rfl, ?_⟩) (by assumption) ?_
    rotate_left
    · intro w hSw; go_simp; try with_reducible rfl
    try simp only [Act.put, List.setIfInBounds_toArray, List.set_cons_zero, List.set_cons_succ]
    refine wpAnyH_done (by kernel_rfl) ?_ _
    clear HA hHeld d0 d1 f1
    go_wp2
    go_ret
    refine ⟨⟨a, rfl⟩, ?_, ?_⟩
    · rw [Buf, Joins.block_setCell (unhide HB1)]; rfl
    · exact ((Upd.of_grown (show w.grownBy w1 none from ⟨(unhide HG1).os, (unhide HG1).tape, (unhide HG1).output, (unhide HG1).size, (unhide HG1).block⟩)).mono (fun k _ h => by cases h)).setCell _ _ (.inl rfl)
end Go.Proofs.Qxb6614154a
