/-
  The seat's ground: worlds that grow, rows that came in, rows of one's own.
-/
import Derived.Test.Qxb6608903aRows
import Derived.Test.Qxb6608903aUp
import Derived.WalkKit
import Derived.ProofKit
import Derived.Outline
import Derived.LoopTactic
import Derived.WalkSpells
import Derived.WalkLawsBesides
import Derived.BigQuiet
import Derived.Deep.QuietTactic
import Derived.Deep.RegionWith
import Derived.Deep.RegionLaw
import Derived.Lib.SmallJoins
import Derived.Lib.Builder
import Derived.Maps.AppendAt
import Derived.OneCell
import Derived.OwnWalk
import Derived.Laws.OwnMore
import Derived.Lib.SliceRun
import Derived.Deep.CutRange
import Derived.Deep.MidRow
namespace Go.Proofs.Qxb6608903a
open Go.ChangeShapes Go.WideShapes Go.ChangeAt Go.RowKit
set_option linter.unusedSimpArgs false
set_option linter.unusedVariables false
theorem hide {p : Prop} (h : p) : Hid p := h
theorem unhide {p : Prop} (h : Hid p) : p := h

/-- w' is w but for the blocks in X (and new ones) -/
structure Upd (X : Nat → Prop) (w w' : World) : Prop where
  os : w'.os = w.os
  tape : w'.tape = w.tape
  output : w'.output = w.output
  size : w.heap.size ≤ w'.heap.size
  block : ∀ k, k < w.heap.size → ¬ X k → w'.heap[k]? = w.heap[k]?

theorem Upd.refl (X : Nat → Prop) (w : World) : Upd X w w := ⟨rfl, rfl, rfl, Nat.le_refl _, fun _ _ _ => rfl⟩
theorem Upd.trans {X : Nat → Prop} {a b c : World} (h : Upd X a b) (k : Upd X b c) : Upd X a c :=
  ⟨k.os.trans h.os, k.tape.trans h.tape, k.output.trans h.output, Nat.le_trans h.size k.size, fun i hi hx => (k.block i (Nat.lt_of_lt_of_le hi h.size) hx).trans (h.block i hi hx)⟩
theorem Upd.mono {X Y : Nat → Prop} {a b : World} (h : Upd X a b) (hxy : ∀ k, k < a.heap.size → X k → Y k) : Upd Y a b :=
  ⟨h.os, h.tape, h.output, h.size, fun i hi hy => h.block i hi (fun hx => hy (hxy i hi hx))⟩
theorem Upd.of_grown {a b : World} {row : Option Nat} (h : a.grownBy b row) : Upd (fun k => some k = row) a b := ⟨h.os, h.tape, h.output, h.size, fun i hi hx => h.block i hi hx⟩
theorem Upd.alloc {X : Nat → Prop} {a b : World} (h : Upd X a b) (o : Obj) : Upd X a (b.alloc o) :=
  ⟨h.os, h.tape, h.output, by simp; have := h.size; omega, fun i hi hx => (Below.heap_alloc b o i (Nat.lt_of_lt_of_le hi h.size)).trans (h.block i hi hx)⟩
theorem Upd.drew {X : Nat → Prop} {a b : World} (h : Upd X a b) : Upd X a b.drew := ⟨h.os, h.tape, h.output, h.size, h.block⟩
theorem Upd.drewN {X : Nat → Prop} {a b : World} (h : Upd X a b) (n : Nat) : Upd X a (b.drewN n) := ⟨h.os, h.tape, h.output, h.size, h.block⟩
theorem Upd.setCell {X : Nat → Prop} {a b : World} (h : Upd X a b) (p : Addr) (v : Value) (hp : X p.block ∨ a.heap.size ≤ p.block) : Upd X a (b.setCell p v) :=
  ⟨h.os, h.tape, h.output, by simpa using h.size, fun i hi hx => (Below.heap_setCell b p v i (fun e => by
    rcases hp with hp | hp
    · exact hx (e ▸ hp)
    · omega)).trans (h.block i hi hx)⟩

theorem own_row_step {w w' : World} {B : Nat} {e : TypeId} {k : Nat} {v : Value} {n : Nat} {xs : List Value} (h : w.ownsRow B e k v n xs) {X : Nat → Prop} (hu : Upd X w w') (hx : ∀ g, v.ownBlock = some g → ¬ X g) : w'.ownsRow B e k v n xs := by
  refine ⟨h.1, ?_⟩
  rcases h.2 with hn | ⟨g, cap, cur, rfl, hb, hgg, rest⟩
  · exact .inl hn
  · refine .inr ⟨g, cap, cur, rfl, hb, ?_, rest⟩
    rw [hu.block g (Array.getElem?_eq_some_iff.1 hgg).1 (hx g rfl)]
    exact hgg
theorem own_form {w : World} {B : Nat} {e : TypeId} {k : Nat} {v : Value} {n : Nat} {xs : List Value} (h : w.ownsRow B e k v n xs) (hn : 0 < n) : ∃ g cap, v = .slice (some ⟨g, 0, none⟩) n cap := by
  rcases h.2 with ⟨_, h0⟩ | ⟨g, cap, cur, rfl, _⟩
  · omega
  · exact ⟨g, cap, rfl⟩
theorem own_kind {w : World} {B : Nat} {e : TypeId} {k : Nat} {v : Value} {n : Nat} {xs : List Value} (h : w.ownsRow B e k v n xs) {g : Nat} (hg : v.ownBlock = some g) : ∃ c, w.heap[g]? = some (.cells c e (0, 0)) := by
  rcases h.2 with ⟨rfl, h0⟩ | ⟨g', cap, cur, rfl, _, h1, _⟩
  · simp [Value.ownBlock] at hg
  · simp [Value.ownBlock] at hg; subst hg; exact ⟨_, h1⟩

theorem cell_upd {w w' : World} (hu : Upd (fun _ => False) w w') {p : Addr} {v : Value} (h : w.cell? p = some v) : w'.cell? p = some v := by
  rw [World.cell?_of_block (hu.block _ (World.block_lt_of_cell? w _ h) (fun h => h))]; exact h
/-- a slice that came in, and what it holds -/
def InV (w : World) (v : Value) (vs : List Value) : Prop :=
  (v = .slice none 0 0 ∧ vs = []) ∨ ∃ x c, v = .slice (some x) vs.length c ∧ vs.length ≤ c ∧ ∀ j u, vs[j]? = some u → w.cell? (x.add j) = some u
theorem InV.kept {w w' : World} {v : Value} {vs : List Value} (h : InV w v vs) (hu : Upd (fun _ => False) w w') : InV w' v vs := by
  rcases h with h | ⟨x, c, h1, hc, h2⟩
  · exact .inl h
  · exact .inr ⟨x, c, h1, hc, fun j u hj => cell_upd hu (h2 j u hj)⟩
theorem addr_plain {w : World} {x : Addr} {u : Value} (h : w.cell? (x.add 0) = some u) : x = ⟨x.block, x.off, none⟩ := by
  obtain ⟨g, o, s⟩ := x
  have hs : s = none := by simpa [Addr.add] using World.cell?_spot h
  subst hs
  rfl
theorem own_inV {w : World} {B : Nat} {e : TypeId} {v : Value} {n : Nat} {xs : List Value} (h : w.ownsRow B e 1 v n xs) : InV w v xs := by
  have hl := h.1
  rcases h.2 with ⟨rfl, h0⟩ | ⟨g, cap, cur, rfl, hb, hg, hnc, hcm, hcs, ht⟩
  · subst h0; exact .inl ⟨rfl, List.length_eq_zero_iff.1 (by simpa using hl)⟩
  · refine .inr ⟨⟨g, 0, none⟩, cap, by rw [hl]; simp, by rw [hl]; simpa using hnc, fun j u hj => ?_⟩
    rw [Addr.add_mid, Joins.cell_of_block hg]
    rw [← ht, List.getElem?_take] at hj
    split at hj
    · simpa using hj
    · cases hj
theorem InV.at {w : World} {x : Option Addr} {n c : Nat} {vs : List Value} (h : InV w (.slice x n c) vs) (hp : 0 < vs.length) :
    ∃ g o, x = some ⟨g, o, none⟩ ∧ n = vs.length ∧ n ≤ c ∧ ∀ j u, vs[j]? = some u → w.cell? ⟨g, o + j, none⟩ = some u := by
  rcases h with ⟨h, h0⟩ | ⟨y, c', h, hc, hx⟩
  · rw [h0] at hp; simp at hp
  · simp only [Value.slice.injEq] at h
    obtain ⟨rfl, rfl, rfl⟩ := h
    have e := addr_plain (hx 0 _ (List.getElem?_eq_getElem hp))
    refine ⟨y.block, y.off, by rw [← e], rfl, hc, fun j u hj => ?_⟩
    have := hx j u hj
    rw [e, Addr.add_mid] at this
    exact this
theorem InV.len {w : World} {x : Option Addr} {n c : Nat} {vs : List Value} (h : InV w (.slice x n c) vs) : n = vs.length := by
  rcases h with ⟨h, h0⟩ | ⟨y, c', h, hc, hx⟩
  · simp only [Value.slice.injEq] at h; rw [h0]; simp [h.2.1]
  · simp only [Value.slice.injEq] at h; exact h.2.1
/-- a text's runes -/
def I32 (l : List Int) : List Value := l.map (Value.int .i32)
theorem I32_len (l : List Int) : (I32 l).length = l.length := by simp [I32]
theorem get_some {l : List Int} {k : Nat} (hk : k < l.length) : l[k]? = some (l.getD k 0) := by simp [List.getElem?_eq_getElem hk]
theorem I32_get {l : List Int} {k : Nat} (hk : k < l.length) : (I32 l)[k]? = some (.int .i32 (l.getD k 0)) := by rw [I32, List.getElem?_map, get_some hk]; rfl
theorem row32 {w : World} {x : Option Addr} {n c : Nat} {l : List Int} (h : InV w (.slice x n c) (I32 l)) {k : Nat} (hk : k < l.length) :
    ∃ g o, x = some ⟨g, o, none⟩ ∧ w.cell? ⟨g, o + k, none⟩ = some (.int .i32 (l.getD k 0)) := by
  obtain ⟨g, o, e, _, _, hc⟩ := h.at (by rw [I32_len]; omega)
  exact ⟨g, o, e, hc k _ (I32_get hk)⟩
theorem InV.form {w : World} {v : Value} {vs : List Value} (h : InV w v vs) : ∃ x c, v = .slice x vs.length c := by
  rcases h with ⟨rfl, rfl⟩ | ⟨x, c, h, _⟩
  · exact ⟨none, 0, rfl⟩
  · exact ⟨some x, c, h⟩

theorem lcp_step : ∀ (x t : Path) (k : Nat), k ≤ lcp x t → (k < lcp x t ↔ k < x.length ∧ k < t.length ∧ x.getD k 0 = t.getD k 0)
  | [], t, k, h => by simp [lcp] at h ⊢
  | a :: l, [], k, h => by simp [lcp] at h ⊢
  | a :: l, b :: m, k, h => by
    unfold lcp at h ⊢
    by_cases hab : a = b
    · rw [if_pos hab] at h ⊢
      cases k with
      | zero => simp [hab]
      | succ k =>
        have := lcp_step l m k (by omega)
        simp only [List.length_cons, List.getD_cons_succ]
        omega
    · rw [if_neg hab] at h ⊢
      have : k = 0 := by omega
      subst this
      simp [hab]

def IsN (z : Nat) (w : World) (r : Ending) (w' : World) : Prop := r = .returned (.int .i64 (z : Int)) ∧ Upd (fun _ => False) w w'
set_option maxHeartbeats 1000000 in
theorem lcp_any (va vb : Value) (x t : Path) (w : World) (ha : InV w va (I32 x)) (hb : InV w vb (I32 t)) (bx : x.length ≤ 1000000000) (bt : t.length ≤ 1000000000) :
    Calls Try.prog 14 #[va, vb] w (IsN (lcp x t) w) := by
  obtain ⟨xa, ca, rfl⟩ := ha.form
  obtain ⟨xb, cb, rfl⟩ := hb.form
  rw [I32_len x] at ha ⊢
  rw [I32_len t] at hb ⊢
  have HA := hide ha
  have HB := hide hb
  have lx := lcp_le x t
  clear ha hb
  go_enter Try.func14, Try.ntmps14
  go_wp2
  go_loopw [5] (fun i wr => ∃ k : Nat, i = .int .i64 (k : Int) ∧ k ≤ lcp x t ∧ Hid (Upd (fun _ => False) w wr)) (fun i _ => lcp x t - (intOf i).toNat)
  case atStart => exact ⟨0, by go_num, by omega, hide (Upd.refl _ _)⟩
  case round =>
    obtain ⟨k, rfl, hk, UR⟩ := hrel
    have st := lcp_step x t k hk
    have hkb : (k : Int) ≤ 1000000000 := by omega
    by_cases h1 : k < x.length
    · have c1 : (k : Int) < (x.length : Int) := by omega
      by_cases h2 : k < t.length
      · have c2 : (k : Int) < (t.length : Int) := by omega
        obtain ⟨g1, o1, rfl, e1⟩ := row32 ((unhide HA).kept (unhide UR)) h1
        obtain ⟨g2, o2, rfl, e2⟩ := row32 ((unhide HB).kept (unhide UR)) h2
        by_cases h3 : x.getD k 0 = t.getD k 0
        · have h4 : k < lcp x t := st.2 ⟨h1, h2, h3⟩
          rw [← h3] at e2
          generalize x.getD k 0 = z at e1 e2
          clear st h3
          go_wp2
          go_quiet (fail)
          all_goals go_wp2
          all_goals go_roundw
          case rel => exact ⟨k + 1, by go_num, by omega, hide ((unhide UR).drewN _)⟩
          case measure => simp [intOf]; omega
        · have h4 : k = lcp x t := by have := fun h => h3 (st.1 h).2.2; omega
          have h5 : (x.getD k 0 == t.getD k 0) = false := beq_eq_false_iff_ne.2 h3
          have HK := hide h4
          clear st h3 h4
          generalize x.getD k 0 = z at e1 h5
          generalize t.getD k 0 = y at e2 h5
          go_wp2
          go_quiet (fail)
          all_goals go_wp2
          all_goals go_ret
          all_goals exact ⟨by rw [unhide HK]; rfl, (unhide UR).drewN _⟩
      · have c2 : decide ((k : Int) < (t.length : Int)) = false := decide_eq_false (by omega)
        have c3 : decide (k < t.length) = false := decide_eq_false h2
        have h4 : k = lcp x t := by have := fun h => h2 (st.1 h).2.1; omega
        have HK := hide h4
        clear st h4 h2
        go_wp2
        go_quiet (fail)
        all_goals go_wp2
        all_goals go_ret
        all_goals exact ⟨by rw [unhide HK]; rfl, (unhide UR).drewN _⟩
    · have c1 : decide ((k : Int) < (x.length : Int)) = false := decide_eq_false (by omega)
      have c3 : decide (k < x.length) = false := decide_eq_false h1
      have h4 : k = lcp x t := by have := fun h => h1 (st.1 h).1; omega
      have HK := hide h4
      clear st h4 h1
      go_wp2
      go_quiet (fail)
      all_goals go_wp2
      all_goals go_ret
      all_goals exact ⟨by rw [unhide HK]; rfl, (unhide UR).drewN _⟩
end Go.Proofs.Qxb6608903a
