/-
  zzCloneBytes, zzCloneInts by contracts; rows that came in.
-/
import Derived.Test.Qxb6614154aZzA
import Derived.Lib.SliceRun
namespace Go.Proofs.Qxb6614154a
open Go.ChangeShapes Go.WideShapes Go.ChangeAt Go.RowKit
set_option linter.unusedSimpArgs false
set_option linter.unusedVariables false

/-- 'make([]T, n)' with the world written out -/
theorem wpList_make_alloc {P : Program} (w : World) {ops : Array Oper} {rest : List Oper} {o : Oper} {a : Act} {Q : Exit → Act → World → Prop}
    (hg : o.guard = none) (l c : Operand) (t : TypeId) (hop : o.op = Op.makeSlice t l c)
    (e : TypeId) (i : TypeInfo) (z : Value) (size : Nat) (h1 : P.underlying t = some (.slice e)) (h2 : P.info? e = some i) (h3 : i.zero = some z) (h4 : i.size = size)
    (kl kc : IntKind) (n : Nat) (hl : a.eval l = .int kl (n : Int)) (hc : a.eval c = .int kc (n : Int)) (b2 : i.bytes * n ≤ 281474976710656) (b3 : n ≤ maxLen)
    (cs : List Value) (hcs : (madeCells z.cells (n * size)).toList = cs)
    (hK : wpList P ops Q rest (a.put o.dst (.slice (some ⟨w.heap.size, 0, none⟩) n n)) (w.alloc (.cells cs.toArray e))) :
    wpList P ops Q (o :: rest) a w := by
  refine wpList_plain hg fun K hK' => ?_
  have hrun := run_make (P := P) (w := w) t e i z h1 h2 h3 kl kc n n (by omega) (by omega) (Int.ofNat_le.2 b2) (by unfold maxLen at b3; omega)
  subst hcs h4
  unfold Oper.wp
  simp [execOp, hop, hl, hc, hrun, Result.andThen]
  simp at hK
  exact hK' _ _ hK

/-- a slice that came in, and what it holds -/
def InV (w : World) (v : Value) (vs : List Value) : Prop :=
  (v = .slice none 0 0 ∧ vs = []) ∨ ∃ x c, v = .slice (some x) vs.length c ∧ vs.length ≤ c ∧ ∀ j u, vs[j]? = some u → w.cell? (x.add j) = some u
theorem InV.kept {w w' : World} {v : Value} {vs : List Value} (h : InV w v vs) (hu : Upd (fun _ => False) w w') : InV w' v vs := by
  rcases h with h | ⟨x, c, h1, hc, h2⟩
  · exact .inl h
  · exact .inr ⟨x, c, h1, hc, fun j u hj => cell_upd hu (h2 j u hj)⟩
theorem addr_plain {w : World} {x : Addr} {u : Value} (h : w.cell? (x.add 0) = some u) : x = ⟨x.block, x.off, none⟩ := by
  obtain ⟨g, o, s⟩ := x
  have hs : s = none := by simpa [Addr.add] using World.cell?_spot h
  subst hs
  rfl
theorem own_inV {w : World} {B : Nat} {e : TypeId} {v : Value} {n : Nat} {xs : List Value} (h : w.ownsRow B e 1 v n xs) : InV w v xs := by
  have hl := h.1
  rcases h.2 with ⟨rfl, h0⟩ | ⟨g, cap, cur, rfl, hb, hg, hnc, hcm, hcs, ht⟩
  · subst h0; exact .inl ⟨rfl, List.length_eq_zero_iff.1 (by simpa using hl)⟩
  · refine .inr ⟨⟨g, 0, none⟩, cap, by rw [hl]; simp, by rw [hl]; simpa using hnc, fun j u hj => ?_⟩
    rw [Addr.add_mid, Joins.cell_of_block hg]
    rw [← ht, List.getElem?_take] at hj
    split at hj
    · simpa using hj
    · cases hj
theorem own_new {w : World} {B g n : Nat} {e : TypeId} {xs : List Value} (hB : B ≤ g) (hl : xs.length = n) (hm : n ≤ maxLen) (h : w.heap[g]? = some (.cells xs.toArray e (0, 0))) : w.ownsRow B e 1 (.slice (some ⟨g, 0, none⟩) n n) n xs :=
  ⟨by omega, .inr ⟨g, n, xs.toArray, rfl, hB, h, Nat.le_refl _, hm, by simp [hl], by simp [← hl]⟩⟩
theorem take_set {vs : List Value} {k : Nat} {z u : Value} (hk : vs[k]? = some u) (n : Nat) (hn : vs.length = n) : (vs.take k ++ List.replicate (n - k) z).set k u = vs.take (k + 1) ++ List.replicate (n - (k + 1)) z := by
  have hl : k < vs.length := (List.getElem?_eq_some_iff.1 hk).1
  have e : n - k = (n - (k + 1)) + 1 := by omega
  rw [e, List.replicate_succ, List.set_append_right _ _ (by simp; omega)]
  have : k - (vs.take k).length = 0 := by simp; omega
  rw [this, List.set_cons_zero, List.take_add_one, hk]
  simp


set_option maxHeartbeats 1000000 in
theorem cloneBytes_any (v : Value) (l : List Int) (w : World) (hv : InV w v (B8 l)) (hl : l.length ≤ 1000000000) :
    Calls Try.prog 14 #[v] w fun r w' => ∃ v', r = .returned v' ∧ w'.ownsRow w.heap.size 5 1 v' l.length (B8 l) ∧ Upd (fun _ => False) w w' := by
  obtain ⟨i0, hi, hz0, hz1, hz2⟩ := info_parts info5
  have qe : ∀ (w : World) (a : Option Addr) (n c n' c' : Nat), (binOp .eql 22 (.slice a n c) (.slice none n' c')).run Try.prog w = .ok (.bool a.isNone) w := fun w a n c n' c' => Lib.run_eql_slice_nil w _ _ a n c n' c' Try.underlying22
  rcases hv with ⟨rfl, h0⟩ | ⟨x, c, rfl, hc, hx⟩
  · have : l = [] := by simpa [B8] using h0
    subst this
    go_enter Try.func14, Try.ntmps14
    go_wp2
    go_ret
    exact ⟨_, rfl, ⟨rfl, .inl ⟨rfl, rfl⟩⟩, Upd.refl _ _⟩
  · have hn : (B8 l).length = l.length := by simp [B8]
    rw [hn] at hc ⊢
    have HX := hide hx
    clear hx
    have HST : Hid ((w.alloc (.cells (List.replicate l.length (Value.int .u8 0)).toArray 5)).heap[w.heap.size]? = some (.cells ((B8 l).take 0 ++ List.replicate (l.length - 0) (Value.int .u8 0)).toArray 5 (0, 0)) ∧ Upd (fun _ => False) w (w.alloc (.cells (List.replicate l.length (Value.int .u8 0)).toArray 5))) := hide ⟨by simpa using heap_alloc_new w _, (Upd.refl _ w).alloc _⟩
    go_enter Try.func14, Try.ntmps14
    go_wp2_with (at_make; refine wpList_make_alloc _ rfl (.tmp 8) (.tmp 8) 22 rfl 5 i0 _ 1 Try.underlying22 hi hz0 hz1 .i64 .i64 l.length rfl rfl (by rw [hz2]; omega) (by unfold maxLen; omega) (List.replicate l.length (Value.int .u8 0)) (by rw [Nat.mul_one]; exact toList_madeCells_one _ _) ?_)
    clear hi hz0 hz1 hz2
    go_wp2
    go_loopw [4] (fun i wr => ∃ k : Nat, i = .int .i64 (k : Int) ∧ k ≤ l.length ∧ Hid (wr.heap[w.heap.size]? = some (.cells ((B8 l).take k ++ List.replicate (l.length - k) (Value.int .u8 0)).toArray 5 (0, 0)) ∧ Upd (fun _ => False) w wr)) (fun i _ => l.length - (intOf i).toNat)
    case atStart => exact ⟨0, by go_num, by omega, HST⟩
    case round =>
      obtain ⟨k, rfl, hk, HI⟩ := hrel
      clear HST
      by_cases hkl : k < l.length
      · have hl1 : (k : Int) < (l.length : Int) := by omega
        have hb : k ≤ 1000000000 := by omega
        have hu0 : (B8 l)[k]? = some (.int .u8 l[k]) := by simp [B8, List.getElem?_eq_getElem hkl]
        have hc0 := unhide HX k _ hu0
        have hx1 := addr_plain (unhide HX 0 _ (List.getElem?_eq_getElem (by omega)))
        have hc1 := cell_upd (unhide HI).2 hc0
        rw [hx1, Addr.add_mid] at hc1
        have ht : ∃ u, wr.cell? ⟨w.heap.size, k, none⟩ = some u := by
          rw [Joins.cell_of_block (unhide HI).1]
          exact ⟨_, List.getElem?_toArray .. |>.trans (List.getElem?_eq_getElem (by simp [hn]; omega))⟩
        obtain ⟨u, hu⟩ := ht
        have hf : wr.frozen? ⟨w.heap.size, k, none⟩ = false := Joins.unfrozen_of_block (unhide HI).1 k
        have HJ : Hid ((wr.setCell ⟨w.heap.size, k, none⟩ (.int .u8 l[k])).heap[w.heap.size]? = some (.cells ((B8 l).take (k + 1) ++ List.replicate (l.length - (k + 1)) (Value.int .u8 0)).toArray 5 (0, 0)) ∧ Upd (fun _ => False) w (wr.setCell ⟨w.heap.size, k, none⟩ (.int .u8 l[k]))) := hide
          ⟨by rw [Go.heap_setCell_same wr _ k _ 5 _ (unhide HI).1, List.setIfInBounds_toArray, take_set hu0 _ hn], (unhide HI).2.setCell _ _ (.inr (Nat.le_refl _))⟩
        generalize l[k] = z at *
        generalize x.block = g at *
        generalize x.off = o at *
        subst hx1
        clear hc0 HI HX hu0
        go_wp2
        go_roundw
        case rel => exact ⟨k + 1, by go_num, by omega, HJ⟩
        case measure => simp [intOf]; omega
      · have hl1 : ¬ (k : Int) < (l.length : Int) := by omega
        have HO : Hid (wr.ownsRow w.heap.size 5 1 (.slice (some ⟨w.heap.size, 0, none⟩) l.length l.length) l.length (B8 l)) := hide (own_new (Nat.le_refl _) hn (by unfold maxLen; omega) (by
          have h := (unhide HI).1
          rw [show l.length - k = 0 by omega, List.replicate_zero, List.append_nil, List.take_of_length_le (by omega)] at h
          exact h))
        go_wp2
        go_ret
        exact ⟨_, rfl, HO, (unhide HI).2⟩

set_option maxHeartbeats 1000000 in
theorem cloneInts_any (v : Value) (l : List Int) (w : World) (hv : InV w v (I64 l)) (hl : l.length ≤ 1000000000) :
    Calls Try.prog 15 #[v] w fun r w' => ∃ v', r = .returned v' ∧ w'.ownsRow w.heap.size 3 1 v' l.length (I64 l) ∧ Upd (fun _ => False) w w' := by
  obtain ⟨i0, hi, hz0, hz1, hz2⟩ := info_parts info3
  have qe : ∀ (w : World) (a : Option Addr) (n c n' c' : Nat), (binOp .eql 29 (.slice a n c) (.slice none n' c')).run Try.prog w = .ok (.bool a.isNone) w := fun w a n c n' c' => Lib.run_eql_slice_nil w _ _ a n c n' c' Try.underlying29
  rcases hv with ⟨rfl, h0⟩ | ⟨x, c, rfl, hc, hx⟩
  · have : l = [] := by simpa [I64] using h0
    subst this
    go_enter Try.func15, Try.ntmps15
    go_wp2
    go_ret
    exact ⟨_, rfl, ⟨rfl, .inl ⟨rfl, rfl⟩⟩, Upd.refl _ _⟩
  · have hn : (I64 l).length = l.length := by simp [I64]
    rw [hn] at hc ⊢
    have HX := hide hx
    clear hx
    have HST : Hid ((w.alloc (.cells (List.replicate l.length (Value.int .i64 0)).toArray 3)).heap[w.heap.size]? = some (.cells ((I64 l).take 0 ++ List.replicate (l.length - 0) (Value.int .i64 0)).toArray 3 (0, 0)) ∧ Upd (fun _ => False) w (w.alloc (.cells (List.replicate l.length (Value.int .i64 0)).toArray 3))) := hide ⟨by simpa using heap_alloc_new w _, (Upd.refl _ w).alloc _⟩
    go_enter Try.func15, Try.ntmps15
    go_wp2_with (at_make; refine wpList_make_alloc _ rfl (.tmp 8) (.tmp 8) 29 rfl 3 i0 _ 1 Try.underlying29 hi hz0 hz1 .i64 .i64 l.length rfl rfl (by rw [hz2]; omega) (by unfold maxLen; omega) (List.replicate l.length (Value.int .i64 0)) (by rw [Nat.mul_one]; exact toList_madeCells_one _ _) ?_)
    clear hi hz0 hz1 hz2
    go_wp2
    go_loopw [4] (fun i wr => ∃ k : Nat, i = .int .i64 (k : Int) ∧ k ≤ l.length ∧ Hid (wr.heap[w.heap.size]? = some (.cells ((I64 l).take k ++ List.replicate (l.length - k) (Value.int .i64 0)).toArray 3 (0, 0)) ∧ Upd (fun _ => False) w wr)) (fun i _ => l.length - (intOf i).toNat)
    case atStart => exact ⟨0, by go_num, by omega, HST⟩
    case round =>
      obtain ⟨k, rfl, hk, HI⟩ := hrel
      clear HST
      by_cases hkl : k < l.length
      · have hl1 : (k : Int) < (l.length : Int) := by omega
        have hb : k ≤ 1000000000 := by omega
        have hu0 : (I64 l)[k]? = some (.int .i64 l[k]) := by simp [I64, List.getElem?_eq_getElem hkl]
        have hc0 := unhide HX k _ hu0
        have hx1 := addr_plain (unhide HX 0 _ (List.getElem?_eq_getElem (by omega)))
        have hc1 := cell_upd (unhide HI).2 hc0
        rw [hx1, Addr.add_mid] at hc1
        have ht : ∃ u, wr.cell? ⟨w.heap.size, k, none⟩ = some u := by
          rw [Joins.cell_of_block (unhide HI).1]
          exact ⟨_, List.getElem?_toArray .. |>.trans (List.getElem?_eq_getElem (by simp [hn]; omega))⟩
        obtain ⟨u, hu⟩ := ht
        have hf : wr.frozen? ⟨w.heap.size, k, none⟩ = false := Joins.unfrozen_of_block (unhide HI).1 k
        have HJ : Hid ((wr.setCell ⟨w.heap.size, k, none⟩ (.int .i64 l[k])).heap[w.heap.size]? = some (.cells ((I64 l).take (k + 1) ++ List.replicate (l.length - (k + 1)) (Value.int .i64 0)).toArray 3 (0, 0)) ∧ Upd (fun _ => False) w (wr.setCell ⟨w.heap.size, k, none⟩ (.int .i64 l[k]))) := hide
          ⟨by rw [Go.heap_setCell_same wr _ k _ 3 _ (unhide HI).1, List.setIfInBounds_toArray, take_set hu0 _ hn], (unhide HI).2.setCell _ _ (.inr (Nat.le_refl _))⟩
        generalize l[k] = z at *
        generalize x.block = g at *
        generalize x.off = o at *
        subst hx1
        clear hc0 HI HX hu0
        go_wp2
        go_roundw
        case rel => exact ⟨k + 1, by go_num, by omega, HJ⟩
        case measure => simp [intOf]; omega
      · have hl1 : ¬ (k : Int) < (l.length : Int) := by omega
        have HO : Hid (wr.ownsRow w.heap.size 3 1 (.slice (some ⟨w.heap.size, 0, none⟩) l.length l.length) l.length (I64 l)) := hide (own_new (Nat.le_refl _) hn (by unfold maxLen; omega) (by
          have h := (unhide HI).1
          rw [show l.length - k = 0 by omega, List.replicate_zero, List.append_nil, List.take_of_length_le (by omega)] at h
          exact h))
        go_wp2
        go_ret
        exact ⟨_, rfl, HO, (unhide HI).2⟩
end Go.Proofs.Qxb6614154a
