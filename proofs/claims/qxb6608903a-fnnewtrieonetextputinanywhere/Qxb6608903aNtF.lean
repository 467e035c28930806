/-
  newTrie: an append that fits, as one step of a region that draws; the children on their way.
-/
import Derived.Test.Qxb6608903aNtE
namespace Go.Proofs.Qxb6608903a
open Go.ChangeShapes Go.WideShapes Go.ChangeAt Go.RowKit
set_option linter.unusedSimpArgs false
set_option linter.unusedVariables false

theorem step_append_fits {P : Program} {ops : Array Oper} {o : Oper} {a : Act} {w : World} {K : Act → World → Prop} {Q : Exit → Act → World → Prop} {E : Prop}
    (hgd : o.guard = none) (s x : Operand) (t : TypeId) (ho : o.op = Op.call { callee := Callee.builtin Builtin.append, args := #[s, x], argTypes := #[t, t] })
    (base : Nat) (e : TypeId) (i : TypeInfo) (size : Nat) (h1 : P.underlying t = some (.slice e)) (h2 : P.info? e = some i) (h4 : i.size = size)
    (g k cap : Nat) (xs : List Value) (hs : a.eval s = .slice (some ⟨g, 0, none⟩) k cap) (hown : w.ownsRow base e size (.slice (some ⟨g, 0, none⟩) k cap) k xs) (ad : Addr) (m c : Nat) (news : List Value) (hx : a.eval x = .slice (some ad) m c) (hn : news.length = m * size)
    (hc : ∀ j u, news[j]? = some u → w.cell? (ad.add j) = some u) (h1c : ∀ u ∈ news, u.oneCell' = true) (b1 : k + m ≤ cap)
    (hK : ∀ w', w'.ownsRow base e size (.slice (some ⟨g, 0, none⟩) (k + m) cap) (k + m) (xs ++ news) → w.grownBy w' (some g) → K (a.put o.dst (.slice (some ⟨g, 0, none⟩) (k + m) cap)) w') :
    if Region.wanted o (yielded ops a.tmps) = true then Oper.wp P o a w K Q else E := by
  have hw : Region.wanted o (yielded ops a.tmps) = true := by simp [Region.wanted, hgd]
  rw [if_pos hw]
  obtain ⟨w', hrun, r1, r2⟩ := run_append_fits (P := P) w base t o.type e i size h1 h2 h4 g k cap xs hown ad m c news hn hc h1c b1
  unfold Oper.wp
  simp [execOp, ho, resolve, invoke, builtin, hs, hx, hrun, Result.andThen]
  exact hK w' r1 r2

/-- the children taken up: (character, chain node, 0) -/
def up3 (l : List (Int × Nat)) : List (Int × Int × Int) := l.map (fun a => (a.1, (a.2 : Int), 0))
theorem up3_len (l : List (Int × Nat)) : (up3 l).length = l.length := by simp [up3]
theorem up3_snoc (l : List (Int × Nat)) (a : Int × Nat) : up3 (l ++ [a]) = up3 l ++ [(a.1, (a.2 : Int), 0)] := by simp [up3]
theorem pairs_snoc (C : List CN) (dn : List Nat) (m : Nat) (y : CN) (hy : C[m]? = some y) : pairs C (dn ++ [m]) = pairs C dn ++ [(y.c, m)] := by simp [pairs, hy]
theorem pairs_len (C : List CN) (ks : List Nat) : (pairs C ks).length = ks.length := by simp [pairs]

/-- the stepped layout fits the chains -/
theorem Lay.room {w1 w : World} {gc sz gn bt : Nat} {T : List Path} {C : List CN} {P : List Path} {i : Nat} {Qs : List Path} {fs : List (Nat × Nat)} {K : List Nat} {vl : Value} (h : Lay w1 w gc sz gn bt T C P i Qs fs K vl) (hc : Chn C P) (hL : Lists T P)
    {q : Path} {c : Nat} {x : CN} {ks : List Nat} {l : List (Int × Nat)} (hq : Qs[i]? = some q) (hx : C[c]? = some x) (hp : P[c]? = some q) (hk : Link C x.f ks) (hl : l.Perm (pairs C ks)) (hs : l.Pairwise (fun a b => a.1 ≤ b.1)) :
    Bfs (Starts T) (i + 1) (Qs ++ (l.map Prod.fst).map (fun r => q ++ [r])) (fs ++ [(Qs.length, l.length)]) ∧ Qs.length + ks.length ≤ C.length := by
  obtain ⟨s1, s2, s3⟩ := hc.sorted hx hp hk hl hs
  have hb := Bfs.step h.bfs hq s1 (fun r => by rw [s2 r, hL.mem])
  rw [List.length_map] at hb
  refine ⟨hb, ?_⟩
  have := hb.le_size hL
  rw [hc.len] at this
  have e := hl.length_eq
  rw [pairs_len] at e
  simp at this
  omega
end Go.Proofs.Qxb6608903a
