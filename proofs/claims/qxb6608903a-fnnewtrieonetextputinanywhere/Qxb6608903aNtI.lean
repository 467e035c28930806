/-
  newTrie: 'nodes[first:]' as one step of the walk.
-/
import Derived.Test.Qxb6608903aNtH
namespace Go.Proofs.Qxb6608903a
open Go.ChangeShapes Go.WideShapes Go.ChangeAt Go.RowKit
set_option linter.unusedSimpArgs false
set_option linter.unusedVariables false

theorem wpList_slice_from {P : Program} (w : World) {ops : Array Oper} {rest : List Oper} {o : Oper} {a : Act} {Q : Exit → Act → World → Prop}
    (hg : o.guard = none) (s l : Operand) (t : TypeId) (hop : o.op = Op.slice t s (some l) none none)
    (size : Nat) (h1 : P.underlying t = some (.slice (P.elem t))) (h4 : ∀ w, (sizeOf (P.elem t)).run P w = .ok size w)
    (g n c k : Nat) (kd : IntKind) (hs : a.eval s = .slice (some ⟨g, 0, none⟩) n c) (hl : a.eval l = .int kd (k : Int)) (hk : k ≤ n)
    (hK : ∀ off, (off = k * size ∨ c = k) → wpList P ops Q rest (a.put o.dst (.slice (some ⟨g, off, none⟩) (n - k) (c - k))) w) :
    wpList P ops Q (o :: rest) a w := by
  refine wpList_plain hg fun K hK' => ?_
  have hrun := run_slice_l (P := P) (w := w) t (some ⟨g, 0, none⟩) n c h1 kd (k : Int) (by omega) (by omega)
  rw [h4 w] at hrun
  have hrun2 := (run_sliceAt_slice (P := P) (w := w) t (.slice (some ⟨g, 0, none⟩) n c) (some (.int kd (k : Int))) none none h1).trans hrun
  unfold Oper.wp
  by_cases hc : c = k
  · subst hc
    have hh := hK 0 (.inr rfl)
    simp [execOp, hop, hs, hl, hrun2, Result.andThen, sliced] at hh ⊢
    exact hK' _ _ hh
  · have hh := hK (k * size) (.inl rfl)
    simp [execOp, hop, hs, hl, hrun2, Result.andThen, sliced, hc, Addr.add_mid] at hh ⊢
    exact hK' _ _ hh
theorem size65 : (Try.prog.info? 65).map (·.size) = some 1 := by kernel_rfl
theorem elem63 : Try.prog.elem 63 = 68 := by kernel_rfl
theorem under63 : Try.prog.underlying 63 = some (.slice (Try.prog.elem 63)) := by rw [elem63]; exact Try.underlying63
theorem size63 (w : World) : (sizeOf (Try.prog.elem 63)).run Try.prog w = .ok 3 w := by rw [elem63]; exact Try.sizeOf68 w
open Go.Sort Go.Lib Go.Shelf in
theorem sort_kids {w1 w : World} {gc sz gn bt : Nat} {C : List CN} {Qs : List Path} {fs : List (Nat × Nat)} {K : List Nat} {vl : Value} {ks : List Nat} (h : Kid w1 w gc sz gn bt C Qs fs K vl ks) (off cap : Nat) (hO : off = Qs.length * 3 ∨ ks = []) (hb : ks.length < 4611686018427387904) :
    Calls Try.prog 31 #[.slice (some ⟨gn, off, none⟩) ks.length cap, .func (.func 32) #[] #[]] w fun e w' => e = .returned (.tuple #[]) ∧ ∃ l : List (Int × Nat), l.Perm (pairs C ks) ∧ l.Pairwise (fun a b => a.1 ≤ b.1) ∧ Sib w1 w' gc sz gn bt C Qs fs K ks.length l 0 vl := by
  obtain ⟨cur, hcur⟩ := own_kind h.nodes (g := gn) rfl
  have hgl : gn < w.heap.size := (Array.getElem?_eq_some_iff.1 hcur).1
  have hsz : (up3 (pairs C ks)).toArray.size = ks.length := by simp [up3, pairs]
  have hH : HoldsK encN 3 w gn off (up3 (pairs C ks)).toArray := by
    rcases hO with rfl | rfl
    · have := holds_row h.nodes
      rw [mid_len] at this
      exact this
    · intro j hj
      rw [size_flatK] at hj
      simp [pairs, up3] at hj
  have H := sort_any gn off cap (up3 (pairs C ks)).toArray w hH hgl (by rw [hsz]; exact hb)
  have e : (Value.slice (some ⟨gn, off, none⟩) (up3 (pairs C ks)).toArray.size cap) = .slice (some ⟨gn, off, none⟩) ks.length cap := by rw [hsz]
  rw [e] at H
  refine H.mono ?_
  rintro r w' ⟨rfl, d', n, os, hp, hs, rfl⟩
  obtain ⟨l, h1, h2, rfl⟩ := sorted_list hp hs
  exact ⟨rfl, l, h1, h2, h.sorted (by rw [h1.length_eq, pairs_len]) off n os hO⟩
theorem Sib.store {w1 w : World} {gc sz gn bt : Nat} {C : List CN} {Qs : List Path} {fs : List (Nat × Nat)} {K : List Nat} {n : Nat} {l : List (Int × Nat)} {j : Nat} {vl : Value} (h : Sib w1 w gc sz gn bt C Qs fs K n l j vl) {k : Nat} {q : Path} (hq : Qs[k]? = some q) :
    ((w.setCell ⟨gn, k * 3 + 1, none⟩ (.int .i32 (Qs.length : Int))).setCell ⟨gn, k * 3 + 2, none⟩ (.int .i32 (n : Int))).drew.ownsRow w1.heap.size 68 3 (.slice (some ⟨gn, 0, none⟩) (Qs.length + n) C.length) (Qs.length + n) (flat ((mid Qs fs K ++ up3 l).set k (ch q, (Qs.length : Int), (n : Int)))) ∧
      Upd (fun k => k = gn) w ((w.setCell ⟨gn, k * 3 + 1, none⟩ (.int .i32 (Qs.length : Int))).setCell ⟨gn, k * 3 + 2, none⟩ (.int .i32 (n : Int))).drew := by
  have hkl : k < Qs.length := (List.getElem?_eq_some_iff.1 hq).1
  have hz : (mid Qs fs K ++ up3 l)[k]? = some (nodeAt Qs fs K k) := by rw [List.getElem?_append_left (by rw [mid_len]; exact hkl), mid_get hkl]
  have hz1 : (nodeAt Qs fs K k).1 = ch q := by simp [nodeAt, hq]
  generalize nodeAt Qs fs K k = z at hz hz1
  have hlen : k < (mid Qs fs K ++ up3 l).length := (List.getElem?_eq_some_iff.1 hz).1
  have e1 := flat_set (mid Qs fs K ++ up3 l) k 1 z (ch q, (Qs.length : Int), z.2.2) (.int .i32 (Qs.length : Int)) hz (by omega) (by simp [c3, hz1])
  have e2 := flat_set ((mid Qs fs K ++ up3 l).set k (ch q, (Qs.length : Int), z.2.2)) k 2 (ch q, (Qs.length : Int), z.2.2) (ch q, (Qs.length : Int), (n : Int)) (.int .i32 (n : Int)) (by rw [List.getElem?_set_self hlen]) (by omega) (by simp [c3])
  rw [List.set_set] at e2
  refine ⟨?_, (((Upd.refl (fun k => k = gn) w).setCell ⟨gn, k * 3 + 1, none⟩ _ (.inl rfl)).setCell ⟨gn, k * 3 + 2, none⟩ _ (.inl rfl)).drew⟩
  rw [← e2, ← e1]
  exact own_set (own_set h.nodes (k * 3 + 1) _ (by rw [flat_len]; omega)) (k * 3 + 2) _ (by rw [List.length_set, flat_len]; omega)
end Go.Proofs.Qxb6608903a
