/-
  payloadBuffer.end by a contract; a step law for an append inside a region that draws.
-/
import Derived.Test.Qxb6614154aPay
import Derived.Deep.RegionLaw
import Derived.Lib.SmallJoins
namespace Go.Proofs.Qxb6614154a
open Go.ChangeShapes Go.WideShapes Go.ChangeAt Go.RowKit
set_option linter.unusedSimpArgs false
set_option linter.unusedVariables false

/-- w' is w but for the blocks in X (and new ones) -/
structure Upd (X : Nat → Prop) (w w' : World) : Prop where
  os : w'.os = w.os
  tape : w'.tape = w.tape
  output : w'.output = w.output
  size : w.heap.size ≤ w'.heap.size
  block : ∀ k, k < w.heap.size → ¬ X k → w'.heap[k]? = w.heap[k]?

theorem Upd.refl (X : Nat → Prop) (w : World) : Upd X w w := ⟨rfl, rfl, rfl, Nat.le_refl _, fun _ _ _ => rfl⟩
theorem Upd.trans {X : Nat → Prop} {a b c : World} (h : Upd X a b) (k : Upd X b c) : Upd X a c :=
  ⟨k.os.trans h.os, k.tape.trans h.tape, k.output.trans h.output, Nat.le_trans h.size k.size, fun i hi hx => (k.block i (Nat.lt_of_lt_of_le hi h.size) hx).trans (h.block i hi hx)⟩
theorem Upd.mono {X Y : Nat → Prop} {a b : World} (h : Upd X a b) (hxy : ∀ k, k < a.heap.size → X k → Y k) : Upd Y a b :=
  ⟨h.os, h.tape, h.output, h.size, fun i hi hy => h.block i hi (fun hx => hy (hxy i hi hx))⟩
theorem Upd.of_grown {a b : World} {row : Option Nat} (h : a.grownBy b row) : Upd (fun k => some k = row) a b := ⟨h.os, h.tape, h.output, h.size, fun i hi hx => h.block i hi hx⟩
theorem Upd.alloc {X : Nat → Prop} {a b : World} (h : Upd X a b) (o : Obj) : Upd X a (b.alloc o) :=
  ⟨h.os, h.tape, h.output, by simp; have := h.size; omega, fun i hi hx => (Below.heap_alloc b o i (Nat.lt_of_lt_of_le hi h.size)).trans (h.block i hi hx)⟩
theorem Upd.drew {X : Nat → Prop} {a b : World} (h : Upd X a b) : Upd X a b.drew := ⟨h.os, h.tape, h.output, h.size, h.block⟩
theorem Upd.drewN {X : Nat → Prop} {a b : World} (h : Upd X a b) (n : Nat) : Upd X a (b.drewN n) := ⟨h.os, h.tape, h.output, h.size, h.block⟩
theorem Upd.setCell {X : Nat → Prop} {a b : World} (h : Upd X a b) (p : Addr) (v : Value) (hp : X p.block ∨ a.heap.size ≤ p.block) : Upd X a (b.setCell p v) :=
  ⟨h.os, h.tape, h.output, by simpa using h.size, fun i hi hx => (Below.heap_setCell b p v i (fun e => by
    rcases hp with hp | hp
    · exact hx (e ▸ hp)
    · omega)).trans (h.block i hi hx)⟩

theorem own_row_step {w w' : World} {B : Nat} {e : TypeId} {k : Nat} {v : Value} {n : Nat} {xs : List Value} (h : w.ownsRow B e k v n xs) {X : Nat → Prop} (hu : Upd X w w') (hx : ∀ g, v.ownBlock = some g → ¬ X g) : w'.ownsRow B e k v n xs := by
  refine ⟨h.1, ?_⟩
  rcases h.2 with hn | ⟨g, cap, cur, rfl, hb, hgg, rest⟩
  · exact .inl hn
  · refine .inr ⟨g, cap, cur, rfl, hb, ?_, rest⟩
    rw [hu.block g (Array.getElem?_eq_some_iff.1 hgg).1 (hx g rfl)]
    exact hgg
theorem own_form {w : World} {B : Nat} {e : TypeId} {k : Nat} {v : Value} {n : Nat} {xs : List Value} (h : w.ownsRow B e k v n xs) (hn : 0 < n) : ∃ g cap, v = .slice (some ⟨g, 0, none⟩) n cap := by
  rcases h.2 with ⟨_, h0⟩ | ⟨g, cap, cur, rfl, _⟩
  · omega
  · exact ⟨g, cap, rfl⟩
theorem own_kind {w : World} {B : Nat} {e : TypeId} {k : Nat} {v : Value} {n : Nat} {xs : List Value} (h : w.ownsRow B e k v n xs) {g : Nat} (hg : v.ownBlock = some g) : ∃ c, w.heap[g]? = some (.cells c e (0, 0)) := by
  rcases h.2 with ⟨rfl, h0⟩ | ⟨g', cap, cur, rfl, _, h1, _⟩
  · simp [Value.ownBlock] at hg
  · simp [Value.ownBlock] at hg; subst hg; exact ⟨_, h1⟩

/-- append onto an owned row, as one step of a region that draws; the new slice's form written out -/
theorem step_append_own {P : Program} {ops : Array Oper} {o : Oper} {a : Act} {w : World} {K : Act → World → Prop} {Q : Exit → Act → World → Prop} {E : Prop}
    (hgd : o.guard = none) (s x : Operand) (t : TypeId) (ho : o.op = Op.call { callee := Callee.builtin Builtin.append, args := #[s, x], argTypes := #[t, t] })
    (base : Nat) (e : TypeId) (i : TypeInfo) (z : Value) (size bytes : Nat) (ht : P.underlying t = some (.slice e)) (hi : P.info? e = some i) (hz : i.zero = some z)
    (hsize : i.size = size) (hby : i.bytes = bytes) (hzs : z.cells.size = size) (hsz : 0 < size)
    (v : Value) (n : Nat) (xs : List Value) (hs : a.eval s = v) (hown : w.ownsRow base e size v n xs)
    (ad : Addr) (m c : Nat) (news : List Value) (hx : a.eval x = .slice (some ad) m c) (hl : news.length = m * size) (hnews : ∀ j u, news[j]? = some u → w.cell? (ad.add j) = some u) (h1 : ∀ u ∈ news, u.oneCell' = true)
    (h63 : n + m ≤ maxLen) (hbytes : (n + m) * bytes ≤ 140737488355328) (hbase : base ≤ w.heap.size) (hpos : 0 < n + m)
    (hK : ∀ g cap w', w'.ownsRow base e size (.slice (some ⟨g, 0, none⟩) (n + m) cap) (n + m) (xs ++ news) → w.grownBy w' v.ownBlock → Lies w v (.slice (some ⟨g, 0, none⟩) (n + m) cap) → K (a.put o.dst (.slice (some ⟨g, 0, none⟩) (n + m) cap)) w') :
    if Region.wanted o (yielded ops a.tmps) = true then Oper.wp P o a w K Q else E := by
  have hw : Region.wanted o (yielded ops a.tmps) = true := by simp [Region.wanted, hgd]
  rw [if_pos hw]
  obtain ⟨v', w', hr, h2, h3, h4, h5⟩ := run_append_own_at (P := P) w base t o.type e i z size bytes ht hi hz hsize hby hzs hsz v n xs hown ad m c news hl hnews h1 h63 hbytes hbase
  obtain ⟨g, cap, rfl⟩ := own_form h2 hpos
  unfold Oper.wp
  simp [execOp, ho, resolve, invoke, builtin, hs, hx, hr, Result.andThen]
  exact hK g cap w' h2 h3 (lies_of h5)

set_option maxHeartbeats 1000000 in
theorem end_any (B nd cd gd ne bb : Nat) (ve : Value) (ys : List Int) (w : World) (hb : w.heap[bb]? = some (.cells #[.slice (some ⟨gd, 0, none⟩) nd cd, ve] 57 (0, 0))) (hown : w.ownsRow B 3 1 ve ne (I64 ys)) (hB : B ≤ w.heap.size) (hlim : ne + 1 ≤ 1099511627776) (hnd : nd ≤ 1099511627776) :
    Calls Try.prog 28 #[.pointer (some ⟨bb, 0, none⟩)] w fun r w' => r = .returned (.tuple #[]) ∧ ∃ ge ce, w'.heap[bb]? = some (.cells #[.slice (some ⟨gd, 0, none⟩) nd cd, .slice (some ⟨ge, 0, none⟩) (ne + 1) ce] 57 (0, 0)) ∧
      w'.ownsRow B 3 1 (.slice (some ⟨ge, 0, none⟩) (ne + 1) ce) (ne + 1) (I64 (ys ++ [(nd : Int)])) ∧ Lies w ve (.slice (some ⟨ge, 0, none⟩) (ne + 1) ce) ∧ Upd (fun k => k = bb ∨ some k = ve.ownBlock) w w' := by
  obtain ⟨i0, hi, hz0, hz1, hz2⟩ := info_parts info3
  have hbl : bb < w.heap.size := (Array.getElem?_eq_some_iff.1 hb).1
  have c0 : w.cell? ⟨bb, 0, none⟩ = some (.slice (some ⟨gd, 0, none⟩) nd cd) := by simp [World.cell?, hb]
  have c1 : w.cell? ⟨bb, 1, none⟩ = some ve := by simp [World.cell?, hb]
  have hne : some bb ≠ ve.ownBlock := fun e => by
    obtain ⟨c, h⟩ := own_kind hown e.symm
    rw [hb] at h; simp at h
  have HO := hide hown
  have HB := hide hb
  have HN := hide hne
  clear hown hb hne
  go_enter Try.func28, Try.ntmps28
  go_wp2
  go_region_law (refine step_append_own rfl (.tmp 6) (.tmp 12) 29 rfl B 3 i0 (.int .i64 0) 1 8 Try.underlying29 hi hz0 hz1 hz2 rfl (by decide) ve ne (I64 ys) rfl ((unhide HO).alloc _) ⟨w.heap.size, 0, none⟩ 1 1 (I64 [(nd : Int)]) rfl rfl (cell_one_new _ _ _) (ints_oneCell _ _) (by unfold maxLen; omega) (by omega) (by simp; omega) (by omega) ?_; intro ge ce w1 ho1 hg1 hl1; have b1 : w1.heap[bb]? = some (.cells #[.slice (some ⟨gd, 0, none⟩) nd cd, ve] 57 (0, 0)) := (hg1.block bb (by simp; omega) (unhide HN)).trans ((Below.heap_alloc w _ bb hbl).trans (unhide HB)); have d1 : w1.cell? ⟨bb, 1, none⟩ = some ve := Joins.cell_of_block b1 1; have f1 : w1.frozen? ⟨bb, 1, none⟩ = false := Joins.unfrozen_of_block b1 1; have HB1 := hide b1; clear b1)
  all_goals go_end0
  all_goals
    have G : w.grownBy w1 ve.ownBlock := (World.grownBy_alloc _ _ _).trans (show (w.alloc _).grownBy w1 ve.ownBlock from ⟨hg1.os, hg1.tape, hg1.output, hg1.size, hg1.block⟩)
    refine ⟨rfl, ge, ce, by rw [Joins.block_setCell (unhide HB1)]; rfl, ?_, ?_, ?_⟩
    · rw [I64_append]
      exact ownsRow_setCell_other ho1 (fun e => by
        obtain ⟨c, h⟩ := own_kind ho1 e
        rw [unhide HB1] at h; simp at h) _
    · rcases hl1 with hl1 | ⟨gg, h5, h6⟩
      · exact .inl hl1
      · exact .inr ⟨gg, h5, by have h7 : w.heap.size + 1 ≤ gg := by simpa using h6
                               omega⟩
    · exact ((Upd.of_grown G).mono (fun k _ h => .inr h)).setCell _ _ (.inl (.inl rfl))
end Go.Proofs.Qxb6614154a
