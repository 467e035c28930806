/-
  newTrie: the children sorted, and laid one by one.
-/
import Derived.Test.Qxb6608903aNtG
import Derived.Test.Qxb6608903aPut
namespace Go.Proofs.Qxb6608903a
open Go.ChangeShapes Go.WideShapes Go.ChangeAt Go.RowKit Go.Sort Go.Lib Go.Shelf
set_option linter.unusedSimpArgs false
set_option linter.unusedVariables false

theorem sorted_list {L : List (Int × Nat)} {d' : Array (Int × Int × Int)} (hp : PermIn 0 (up3 L).toArray.size (up3 L).toArray d') (hs : SortedIn (ltOf cmpN) 0 (up3 L).toArray.size d') :
    ∃ l : List (Int × Nat), l.Perm L ∧ l.Pairwise (fun a b => a.1 ≤ b.1) ∧ d' = (up3 l).toArray := by
  obtain ⟨hsz, _, hperm⟩ := hp
  have e1 : d'.extract 0 (up3 L).toArray.size = d' := by rw [← hsz]; exact Array.extract_size
  rw [e1, Array.extract_size] at hperm
  have hperm' : d'.toList.Perm (up3 L) := by simpa using hperm
  refine ⟨d'.toList.map (fun a => (a.1, a.2.1.toNat)), ?_, ?_, ?_⟩
  · have := hperm'.map (fun a : Int × Int × Int => (a.1, a.2.1.toNat))
    rw [show (up3 L).map (fun a : Int × Int × Int => (a.1, a.2.1.toNat)) = L by simp [up3, Function.comp_def]] at this
    exact this
  · rw [List.pairwise_map, List.pairwise_iff_getElem]
    intro i j hi hj hij
    have hi' : i < d'.size := by simpa using hi
    have hj' : j < d'.size := by simpa using hj
    have := hs i j (Nat.zero_le _) hij (by omega)
    rw [getElem!_pos d' j hj', getElem!_pos d' i hi', ltN] at this
    simp at this ⊢
    omega
  · apply Array.ext'
    show d'.toList = up3 _
    unfold up3
    rw [List.map_map]
    have e : d'.toList.map ((fun a : Int × Nat => (a.1, (a.2 : Int), (0 : Int))) ∘ fun a : Int × Int × Int => (a.1, a.2.1.toNat)) = d'.toList.map id := List.map_congr_left (fun a ha => by
      obtain ⟨b, hb, rfl⟩ := List.mem_map.1 (hperm'.mem_iff.1 ha)
      simp)
    rw [e, List.map_id]
theorem own_base {w : World} {B : Nat} {e : TypeId} {k : Nat} {v : Value} {n : Nat} {xs : List Value} (h : w.ownsRow B e k v n xs) {g : Nat} (hg : v.ownBlock = some g) : B ≤ g := by
  rcases h.2 with ⟨rfl, h0⟩ | ⟨g', cap, cur, rfl, hb, _⟩
  · simp [Value.ownBlock] at hg
  · simp [Value.ownBlock] at hg; subst hg; exact hb

/-- the rows while loop 7 runs: the children sorted, j of them laid -/
structure Sib (w1 w : World) (gc sz gn bt : Nat) (C : List CN) (Qs : List Path) (fs : List (Nat × Nat)) (K : List Nat) (n : Nat) (l : List (Int × Nat)) (j : Nat) (vl : Value) : Prop where
  len : l.length = n
  chain : w.ownsRow w1.heap.size 78 3 (.slice (some ⟨gc, 0, none⟩) C.length sz) C.length (rowC C)
  nodes : w.ownsRow w1.heap.size 68 3 (.slice (some ⟨gn, 0, none⟩) (Qs.length + n) C.length) (Qs.length + n) (flat (mid Qs fs K ++ up3 l))
  cell : w.heap[bt]? = some (.cells #[.slice (some ⟨gn, 0, none⟩) (Qs.length + n) C.length] 65 (0, 0))
  laid : w.ownsRow w1.heap.size 21 1 vl (K.length + j) (I32 ((K ++ (l.take j).map Prod.snd).map Int.ofNat))
  upd : Upd (fun _ => False) w1 w

theorem sorted_row0 {w : World} {B : Nat} {e : TypeId} {g n c q off : Nat} {xs : List Value} {os : Array Obj} (h : w.ownsRow B e 3 (.slice (some ⟨g, 0, none⟩) n c) n xs) :
    (sortWorldK encN 3 w g off q #[] os).ownsRow B e 3 (.slice (some ⟨g, 0, none⟩) n c) n xs ∧ Upd (fun k => k = g) w (sortWorldK encN 3 w g off q #[] os) := by
  rcases h.2 with ⟨h1, _⟩ | ⟨g', cap, cur, h1, hb, hg, hnc, hcm, hcs, ht⟩
  · simp at h1
  · simp only [Value.slice.injEq, Option.some.injEq, Addr.mk.injEq, and_true, true_and] at h1
    obtain ⟨rfl, rfl⟩ := h1
    have hgl : g < w.heap.size := (Array.getElem?_eq_some_iff.1 hg).1
    have hp : putCells id off (flatK encN 3 #[]) cur = cur := by
      apply Array.ext
      · simp [putCells]
      · intro i h1 h2
        simp only [putCells, Array.getElem_mapIdx, size_flatK]
        rw [if_neg (by simp)]
    refine ⟨⟨h.1, .inr ⟨g, c, cur, rfl, hb, ?_, hnc, hcm, hcs, ht⟩⟩, ?_⟩
    · unfold sortWorldK putRowK
      rw [heap_grow_old _ _ (by simpa [Sort.ahead] using hgl)]
      simp [putRow, mapBlock, Sort.ahead, Array.getElem?_modify, hg, onCells, hp]
    · unfold sortWorldK putRowK
      refine ⟨rfl, rfl, rfl, by simp [Sort.ahead, grow], fun k hk hne => ?_⟩
      rw [heap_grow_old _ _ (by simpa [Sort.ahead] using hk)]
      have : g ≠ k := fun e => hne e.symm
      simp [putRow, mapBlock, Sort.ahead, Array.getElem?_modify, this]
theorem Kid.sorted {w1 w : World} {gc sz gn bt : Nat} {C : List CN} {Qs : List Path} {fs : List (Nat × Nat)} {K : List Nat} {vl : Value} {ks : List Nat} {l : List (Int × Nat)} (h : Kid w1 w gc sz gn bt C Qs fs K vl ks) (hl : l.length = ks.length) (off q : Nat) (os : Array Obj) (ho : off = Qs.length * 3 ∨ ks = []) :
    Sib w1 (sortWorldK encN 3 w gn off q (up3 l).toArray os) gc sz gn bt C Qs fs K ks.length l 0 vl := by
  have hs : (sortWorldK encN 3 w gn off q (up3 l).toArray os).ownsRow w1.heap.size 68 3 (.slice (some ⟨gn, 0, none⟩) (Qs.length + ks.length) C.length) (Qs.length + ks.length) (flat (mid Qs fs K ++ up3 l)) ∧ Upd (fun k => k = gn) w (sortWorldK encN 3 w gn off q (up3 l).toArray os) := by
    rcases ho with rfl | rfl
    · have hs := sorted_row (q := q) (os := os) (l' := up3 l) h.nodes (by rw [up3_len, up3_len, pairs_len]; exact hl)
      rw [mid_len] at hs
      exact hs
    · obtain rfl : l = [] := List.eq_nil_of_length_eq_zero hl
      exact sorted_row0 h.nodes
  obtain ⟨h1, h2⟩ := hs
  have hgn : (Value.slice (some ⟨gn, 0, none⟩) (Qs.length + ks.length) C.length).ownBlock = some gn := rfl
  obtain ⟨cur, hcur⟩ := own_kind h.nodes hgn
  have hbn : bt ≠ gn := fun e => by rw [← e, h.cell] at hcur; simp at hcur
  have hbl : bt < w.heap.size := (Array.getElem?_eq_some_iff.1 h.cell).1
  refine ⟨hl, own_row_step h.chain h2 (fun g hg e => own_ne h.nodes h.chain (by decide) hgn (by rw [hg, e])), h1, ?_, ?_, h.upd.next h2 (fun i e => by rw [e]; exact own_base h.nodes hgn)⟩
  · rw [h2.block bt hbl (fun e => hbn e)]; exact h.cell
  · have := own_row_step h.laid h2 (fun g hg e => own_ne h.nodes h.laid (by decide) hgn (by rw [hg, e]))
    simpa using this
theorem Sib.next {w1 w w3 : World} {gc sz gn bt : Nat} {C : List CN} {Qs : List Path} {fs : List (Nat × Nat)} {K : List Nat} {n : Nat} {l : List (Int × Nat)} {j : Nat} {vl vl' : Value} {a : Int × Nat} (h : Sib w1 w gc sz gn bt C Qs fs K n l j vl) (ha : l[j]? = some a)
    (hu : Upd (fun k => some k = vl.ownBlock) w w3) (hrow : w3.ownsRow w1.heap.size 21 1 vl' (K.length + j + 1) (I32 ((K ++ (l.take j).map Prod.snd).map Int.ofNat) ++ [.int .i32 (a.2 : Int)])) :
    Sib w1 w3 gc sz gn bt C Qs fs K n l (j + 1) vl' := by
  have hbl : bt < w.heap.size := (Array.getElem?_eq_some_iff.1 h.cell).1
  refine ⟨h.len, own_row_step h.chain hu (fun g hg e => own_ne h.laid h.chain (by decide) e.symm hg), own_row_step h.nodes hu (fun g hg e => own_ne h.laid h.nodes (by decide) e.symm hg), ?_, ?_, h.upd.next hu (fun i e => own_base h.laid e.symm)⟩
  · rw [hu.block bt hbl (fun e => by
      obtain ⟨c, hc⟩ := own_kind h.laid e.symm
      rw [h.cell] at hc
      simp at hc)]
    exact h.cell
  · have e : I32 ((K ++ (l.take (j + 1)).map Prod.snd).map Int.ofNat) = I32 ((K ++ (l.take j).map Prod.snd).map Int.ofNat) ++ [.int .i32 (a.2 : Int)] := by
      rw [List.take_add_one, ha]
      simp [I32]
    rw [e, ← Nat.add_assoc]
    exact hrow
theorem Sib.drewN {w1 w : World} {gc sz gn bt : Nat} {C : List CN} {Qs : List Path} {fs : List (Nat × Nat)} {K : List Nat} {n : Nat} {l : List (Int × Nat)} {j : Nat} {vl : Value} (h : Sib w1 w gc sz gn bt C Qs fs K n l j vl) (q : Nat) : Sib w1 (w.drewN q) gc sz gn bt C Qs fs K n l j vl :=
  ⟨h.len, h.chain, h.nodes, h.cell, h.laid, h.upd.drewN q⟩
/-- the children's cells: character, chain node, 0 -/
theorem Sib.kid {w1 w : World} {gc sz gn bt : Nat} {C : List CN} {Qs : List Path} {fs : List (Nat × Nat)} {K : List Nat} {n : Nat} {l : List (Int × Nat)} {j : Nat} {vl : Value} {a : Int × Nat} {i : Nat} (h : Sib w1 w gc sz gn bt C Qs fs K n l j vl) (ha : l[i]? = some a) : w.cell? ⟨gn, Qs.length * 3 + (i * 3 + 1), none⟩ = some (.int .i32 (a.2 : Int)) := by
  refine own_cell3 h.nodes ?_
  have e := flat_mid (mid Qs fs K) (up3 l) (i * 3 + 1)
  rw [mid_len] at e
  rw [e]
  exact flat_get (up3 l) i 1 (a.1, (a.2 : Int), 0) (by unfold up3; rw [List.getElem?_map, ha]; rfl) (by omega)
/-- the node itself, once its children are laid: the two stores -/
theorem Sib.done {w1 w w' : World} {gc sz gn bt : Nat} {T : List Path} {C : List CN} {P : List Path} {Qs : List Path} {fs : List (Nat × Nat)} {K : List Nat} {n k c : Nat} {l : List (Int × Nat)} {vl : Value} {q : Path} {x : CN} {ks : List Nat} (h : Sib w1 w gc sz gn bt C Qs fs K n l n vl)
    (hb : Bfs (Starts T) k Qs fs) (hK : K.length = Qs.length) (hsm : ∀ (j c : Nat) (q : Path), K[j]? = some c → Qs[j]? = some q → P[c]? = some q) (hc : Chn C P) (hL : Lists T P) (hq : Qs[k]? = some q) (hx : C[c]? = some x) (hp : P[c]? = some q) (hk : Link C x.f ks) (hl : l.Perm (pairs C ks)) (hs : l.Pairwise (fun a b => a.1 ≤ b.1))
    (hrow : w'.ownsRow w1.heap.size 68 3 (.slice (some ⟨gn, 0, none⟩) (Qs.length + n) C.length) (Qs.length + n) (flat ((mid Qs fs K ++ up3 l).set k (ch q, (Qs.length : Int), (n : Int))))) (hu : Upd (fun k => k = gn) w w') :
    Lay w1 w' gc sz gn bt T C P (k + 1) (Qs ++ (l.map Prod.fst).map (fun r => q ++ [r])) (fs ++ [(Qs.length, n)]) (K ++ l.map Prod.snd) vl := by
  have hgn : (Value.slice (some ⟨gn, 0, none⟩) (Qs.length + n) C.length).ownBlock = some gn := rfl
  obtain ⟨cur, hcur⟩ := own_kind h.nodes hgn
  have hbn : bt ≠ gn := fun e => by rw [← e, h.cell] at hcur; simp at hcur
  have hbl : bt < w.heap.size := (Array.getElem?_eq_some_iff.1 h.cell).1
  obtain ⟨s1, s2, s3⟩ := hc.sorted hx hp hk hl hs
  have hn := h.len
  have hfl : fs.length = k := hb.ok.len
  have eQ : (Qs ++ (l.map Prod.fst).map (fun r => q ++ [r])).length = Qs.length + n := by simp [hn]
  refine ⟨?_, by rw [eQ]; simp [hn, hK], ?_, own_row_step h.chain hu (fun g hg e => own_ne h.nodes h.chain (by decide) hgn (by rw [hg, e])), ?_, ?_, ?_, h.upd.next hu (fun i e => by rw [e]; exact own_base h.nodes hgn)⟩
  · have hb' := Bfs.step hb hq s1 (fun r => by rw [s2 r, hL.mem])
    rw [List.length_map, hn] at hb'
    exact hb'
  · intro j c' q' hj hq'
    by_cases hjl : j < Qs.length
    · rw [List.getElem?_append_left (by omega)] at hj
      rw [List.getElem?_append_left hjl] at hq'
      exact hsm j c' q' hj hq'
    · obtain ⟨u, rfl⟩ : ∃ u, j = Qs.length + u := ⟨j - Qs.length, by omega⟩
      rw [List.getElem?_append_right (by omega), hK, Nat.add_sub_cancel_left, List.getElem?_map] at hj
      rw [List.getElem?_append_right (by omega), Nat.add_sub_cancel_left, List.getElem?_map, List.getElem?_map] at hq'
      cases hlu : l[u]? with
      | none => rw [hlu] at hj; cases hj
      | some a =>
        rw [hlu] at hj hq'
        simp at hj hq'
        subst hj hq'
        exact s3 a (List.mem_of_getElem? hlu)
  · rw [eQ]
    have e := mid_step (l := l) (by rw [hfl]; exact hq) hK
    rw [hn] at e
    rw [e, hfl]
    exact hrow
  · rw [hu.block bt hbl (fun e => hbn e), eQ]; exact h.cell
  · have := own_row_step h.laid hu (fun g hg e => own_ne h.nodes h.laid (by decide) hgn (by rw [hg, e]))
    rw [List.length_append, List.length_map, hn]
    rw [show l.take n = l by rw [← hn]; exact List.take_length] at this
    exact this
end Go.Proofs.Qxb6608903a
