/-
  What the laws' tails read: rows, ends, headers.
-/
import Derived.Test.Qxb6614154aTwo
namespace Go.Proofs.Qxb6614154a
open Go.ChangeShapes Go.WideShapes Go.ChangeAt Go.RowKit
set_option linter.unusedSimpArgs false
set_option linter.unusedVariables false

theorem InV.at {w : World} {x : Option Addr} {n c : Nat} {vs : List Value} (h : InV w (.slice x n c) vs) (hp : 0 < vs.length) :
    ∃ g o, x = some ⟨g, o, none⟩ ∧ n = vs.length ∧ n ≤ c ∧ ∀ j u, vs[j]? = some u → w.cell? ⟨g, o + j, none⟩ = some u := by
  rcases h with ⟨h, h0⟩ | ⟨y, c', h, hc, hx⟩
  · rw [h0] at hp; simp at hp
  · simp only [Value.slice.injEq] at h
    obtain ⟨rfl, rfl, rfl⟩ := h
    have e := addr_plain (hx 0 _ (List.getElem?_eq_getElem hp))
    refine ⟨y.block, y.off, by rw [← e], rfl, hc, fun j u hj => ?_⟩
    have := hx j u hj
    rw [e, Addr.add_mid] at this
    exact this
theorem InV.len {w : World} {x : Option Addr} {n c : Nat} {vs : List Value} (h : InV w (.slice x n c) vs) : n = vs.length := by
  rcases h with ⟨h, h0⟩ | ⟨y, c', h, hc, hx⟩
  · simp only [Value.slice.injEq] at h; rw [h0]; simp [h.2.1]
  · simp only [Value.slice.injEq] at h; exact h.2.1
theorem own_max {w : World} {B : Nat} {e : TypeId} {v : Value} {n : Nat} {xs : List Value} (h : w.ownsRow B e 1 v n xs) : n ≤ maxLen := by
  rcases h.2 with ⟨rfl, rfl⟩ | ⟨g, cap, cur, rfl, hb, hg, hnc, hcm, hcs, ht⟩
  · simp
  · omega
/-- the row, as it came -/
theorem row8 {w : World} {x : Option Addr} {n c : Nat} {l : List Int} (h : InV w (.slice x n c) (B8 l)) {k : Nat} (hk : k < l.length) :
    ∃ g o, x = some ⟨g, o, none⟩ ∧ w.cell? ⟨g, o + k, none⟩ = some (.int .u8 (l.getD k 0)) := by
  obtain ⟨g, o, e, _, _, hc⟩ := h.at (by rw [B8_len]; omega)
  exact ⟨g, o, e, hc k _ (B8_get rfl hk)⟩
theorem row64 {w : World} {x : Option Addr} {n c : Nat} {l : List Int} (h : InV w (.slice x n c) (I64 l)) {k : Nat} (hk : k < l.length) :
    ∃ g o, x = some ⟨g, o, none⟩ ∧ w.cell? ⟨g, o + k, none⟩ = some (.int .i64 (l.getD k 0)) := by
  obtain ⟨g, o, e, _, _, hc⟩ := h.at (by rw [I64_len]; omega)
  exact ⟨g, o, e, hc k _ (I64_get rfl hk)⟩

theorem Chk.le {S : List Int} {L : List Un} {en : Nat} {lim : Int} {D : List Int} {p i fin : Nat} {r : List Int} (h : Chk S L en lim D p i r fin) : p ≤ D.length := by
  cases h with
  | nil p i h => omega
  | cons p i e fin x r pre post hx hk hD hp he next => rw [hD]; simp; omega
theorem Chk.mem {S : List Int} {L : List Un} {en : Nat} {lim : Int} {D : List Int} {p i fin : Nat} {r : List Int} (h : Chk S L en lim D p i r fin) : ∀ e ∈ r, (0 : Int) ≤ e ∧ e ≤ (D.length : Int) := by
  induction h with
  | nil p i h => simp
  | cons p i e fin x r pre post hx hk hD hp he next ih =>
    intro e' h'
    rcases List.mem_cons.1 h' with rfl | h'
    · have := next.le; omega
    · exact ih e' h'
theorem Chk.fin_nil {S : List Int} {L : List Un} {en : Nat} {lim : Int} {D : List Int} {p i fin : Nat} (h : Chk S L en lim D p i [] fin) : p = D.length ∧ fin = i := by
  cases h with
  | nil p i h => exact ⟨h, rfl⟩
theorem Chk.ne {S : List Int} {L : List Un} {en : Nat} {lim : Int} {D : List Int} {p i fin : Nat} {r : List Int} (h : Chk S L en lim D p i r fin) (hi : i < fin) : 0 < r.length := by
  cases h with
  | nil p i h => omega
  | cons p i e fin x r pre post hx hk hD hp he next => simp

theorem getD_drop {l : List Int} {k : Nat} {e : Int} {r : List Int} (h : l.drop k = e :: r) : k < l.length ∧ l.getD k 0 = e ∧ l.drop (k + 1) = r := by
  have hk : k < l.length := by
    apply Nat.lt_of_not_le; intro hn; rw [List.drop_eq_nil_of_le hn] at h; cases h
  rw [List.drop_eq_getElem_cons hk] at h
  simp only [List.cons.injEq] at h
  exact ⟨hk, by simp [List.getElem?_eq_getElem hk, h.1], h.2⟩

/-- one round of the header's reading -/
theorem Chk.step {S : List Int} {L : List Un} {en : Nat} {lim : Int} {D E : List Int} {p i fin k : Nat} (h : Chk S L en lim D p i (E.drop k) fin) (hk : k < E.length) (good : ∀ (j : Nat) (y : Un), L[j]? = some y → y.good) (lie : Lie L en) (hen : (en + 7) / 8 ≤ S.length) :
    ∃ (e : Nat) (x : Un), L[i]? = some x ∧ x.ok = true ∧ E.getD k 0 = (e : Int) ∧ p + 4 ≤ e ∧ e ≤ D.length ∧ Chk S L en lim D e (nxt L en lim i) (E.drop (k + 1)) fin ∧
      (0 ≤ hdrW L en lim i x ∧ hdrW L en lim i x < 4294967296) ∧
      (D.getD p 0 = hdrW L en lim i x / 16777216 ∧ D.getD (p + 1) 0 = hdrW L en lim i x / 65536 % 256 ∧ D.getD (p + 2) 0 = hdrW L en lim i x / 256 % 256 ∧ D.getD (p + 3) 0 = hdrW L en lim i x % 256) ∧
      8 * ((e : Int) - (p : Int) - 4) - hdrW L en lim i x / 536870912 % 8 - hdrW L en lim i x / 67108864 % 8 = (uu L en (nxt L en lim i) : Int) - (uu L en i : Int) ∧
      e = p + (pay S L en i (nxt L en lim i) x).length ∧ ∃ pre post, D = pre ++ pay S L en i (nxt L en lim i) x ++ post ∧ pre.length = p := by
  generalize hr : E.drop k = r at h
  cases h with
  | nil p i h => have := congrArg List.length hr; simp at this; omega
  | cons p i e fin x r pre post hx hok hD hp he next =>
    obtain ⟨_, h1, h2⟩ := getD_drop hr
    have hb := bits_step S L en lim i x hx hok (good i x hx) lie hen p
    rw [h2]
    refine ⟨e, x, hx, hok, h1, by omega, next.le, next, hdrW_bd L en lim i x hok (good i x hx), ?_, by rw [he]; exact hb.1, he, pre, post, hD, hp⟩
    subst hp
    rw [hD, pay_eq]
    have hq : ∀ j, j < 4 → (pre ++ (be4 (hdrW L en lim i x) ++ win S (ua L i) (ue L en (nxt L en lim i - 1))) ++ post).getD (pre.length + j) 0 = (be4 (hdrW L en lim i x)).getD j 0 := by
      intro j hj
      have : j < (be4 (hdrW L en lim i x)).length := by rw [be4_len]; exact hj
      simp only [List.getD_eq_getElem?_getD, List.append_assoc]
      rw [List.getElem?_append_right (by omega), List.getElem?_append_left (by omega)]
      simp
    refine ⟨hq 0 (by omega), hq 1 (by omega), hq 2 (by omega), hq 3 (by omega)⟩

theorem err_eql {b : Bool} {er : Value} (h : ErrIs b (.returned er)) (W : World) : (binOp .eql 37 er .nilIface).run Try.prog W = .ok (.bool b) W := by
  rcases h with ⟨rfl, h⟩ | ⟨rfl, a, h⟩
  · obtain rfl : er = .nilIface := by simpa using h
    kernel_rfl
  · obtain rfl : er = .iface 71 (.pointer (some a)) := by simpa using h
    kernel_rfl
theorem err_neq {b : Bool} {er : Value} (h : ErrIs b (.returned er)) (W : World) : (binOp .neq 37 er .nilIface).run Try.prog W = .ok (.bool (!b)) W := by
  rcases h with ⟨rfl, h⟩ | ⟨rfl, a, h⟩
  · obtain rfl : er = .nilIface := by simpa using h
    kernel_rfl
  · obtain rfl : er = .iface 71 (.pointer (some a)) := by simpa using h
    kernel_rfl
theorem same_bool (b : Bool) (W : World) : (binOp .neq 4 (.bool b) (.bool b)).run Try.prog W = .ok (.bool false) W := by
  cases b <;> kernel_rfl
theorem getD_app_left {l m : List Int} {k : Nat} (h : k < l.length) : (l ++ m).getD k 0 = l.getD k 0 := by
  simp [List.getElem?_append_left h]
theorem getD_app_right {l m : List Int} {k : Nat} : (l ++ m).getD (l.length + k) 0 = m.getD k 0 := by
  simp [List.getElem?_append_right]
theorem getD_map_add {l : List Int} {d : Int} {k : Nat} (h : k < l.length) : (l.map (· + d)).getD k 0 = l.getD k 0 + d := by
  simp [List.getElem?_eq_getElem h]
end Go.Proofs.Qxb6614154a
