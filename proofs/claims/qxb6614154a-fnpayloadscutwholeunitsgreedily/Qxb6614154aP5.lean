/-
  The greedy law, plain.
-/
import Derived.Test.Qxb6614154aTl
import Derived.Test.Qxb6614154aSt
namespace Go.Proofs.Qxb6614154a
open Go.ChangeShapes Go.WideShapes Go.ChangeAt Go.RowKit
set_option linter.unusedSimpArgs false
set_option linter.unusedVariables false

theorem adv_fits (L : List Un) (en : Nat) (lim : Int) (i : Nat) : ∀ f j, adv L en lim i f j = j ∨ spanI (ua L i) (ue L en (adv L en lim i f j - 1)) ≤ lim
  | 0, j => .inl rfl
  | f + 1, j => by
    unfold adv; split
    · rename_i hc
      rcases adv_fits L en lim i f (j + 1) with h | h
      · rw [h]; exact .inr hc.2
      · exact .inr h
    · exact .inl rfl
theorem adv_full (L : List Un) (en : Nat) (lim : Int) (i : Nat) : ∀ f j, L.length ≤ f + j → adv L en lim i f j < L.length → lim < spanI (ua L i) (ue L en (adv L en lim i f j))
  | 0, j, h, h2 => by simp only [adv] at h2; omega
  | f + 1, j, h, h2 => by
    unfold adv at h2 ⊢
    by_cases hc : j < L.length ∧ spanI (ua L i) (ue L en j) ≤ lim
    · rw [if_pos hc] at h2 ⊢
      exact adv_full L en lim i f (j + 1) (by omega) h2
    · rw [if_neg hc] at h2 ⊢
      omega
theorem nxt_fits (L : List Un) (en : Nat) (lim : Int) (i : Nat) (h : i + 1 < nxt L en lim i) : spanI (ua L i) (ue L en (nxt L en lim i - 1)) ≤ lim := by
  rcases adv_fits L en lim i (L.length - (i + 1)) (i + 1) with e | e
  · unfold nxt at h; omega
  · exact e
theorem nxt_full (L : List Un) (en : Nat) (lim : Int) (i : Nat) (h : nxt L en lim i < L.length) : lim < spanI (ua L i) (ue L en (nxt L en lim i)) :=
  adv_full L en lim i _ _ (by omega) h

/-- the word's other fields -/
theorem hdrW_rest (L : List Un) (en : Nat) (lim : Int) (i : Nat) (x : Un) (hk : x.ok = true) (hg : x.good) :
    hdrW L en lim i x / 16777216 % 2 = 1 ∧ hdrW L en lim i x / 33554432 % 2 = flagI x.i ∧ hdrW L en lim i x / 1048576 % 16 = x.g ∧ hdrW L en lim i x / 32768 % 32 = x.m ∧ hdrW L en lim i x / 1024 % 32 = x.q ∧ hdrW L en lim i x / 32 % 32 = x.h % 32 ∧ hdrW L en lim i x % 32 = x.u % 32 := by
  have h := of_decide_eq_true hk
  have f := flag_bd x.i
  have s := sb_bd (ua L i)
  have e := eb_bd (ue L en (nxt L en lim i - 1))
  obtain ⟨g0, m0, q0⟩ := hg
  unfold hdrW wordN
  generalize sbI (ua L i) = sb at *
  generalize ebI (ue L en (nxt L en lim i - 1)) = eb at *
  generalize flagI x.i = fl at *
  omega

/-- one packet of the law: what the walk reads -/
structure Step5 (S : List Int) (L : List Un) (en : Nat) (lim : Int) (D E : List Int) (p i fin k e dl s0 sb eb st j : Nat) (x : Un) (W : Int) : Prop where
  hx : L[i]? = some x
  ok : x.ok = true
  good : x.good
  hs0 : s0 = x.ats
  he : E.getD k 0 = (e : Int)
  hdl : e = p + 4 + dl
  heD : e ≤ D.length
  next : Chk S L en lim D e j (E.drop (k + 1)) fin
  w0 : 0 ≤ W
  w1 : W < 4294967296
  b0 : D.getD p 0 = W / 16777216
  b1 : D.getD (p + 1) 0 = W / 65536 % 256
  b2 : D.getD (p + 2) 0 = W / 256 % 256
  b3 : D.getD (p + 3) 0 = W % 256
  f1 : W / 536870912 % 8 = (sb : Int)
  f2 : W / 67108864 % 8 = (eb : Int)
  f3 : W / 16777216 % 2 = 1
  f4 : W / 33554432 % 2 = flagI x.i
  f5 : W / 1048576 % 16 = x.g
  f6 : W / 32768 % 32 = x.m
  f7 : W / 1024 % 32 = x.q
  f8 : W / 32 % 32 = x.h % 32
  f9 : W % 32 = x.u % 32
  sbv : sb = s0 % 8
  eb8 : eb < 8
  cnt : 8 * dl = sb + eb + (st - s0)
  lt : s0 < st
  room : s0 / 8 + dl ≤ S.length
  same : ∀ t, t < dl → D.getD (p + 4 + t) 0 = S.getD (s0 / 8 + t) 0
  hst : st = uu L en j
  sten : st ≤ en
  ij : i < j
  jn : j ≤ L.length
  small : i + 1 < j → (dl : Int) ≤ lim
  big : j < L.length → lim < (((ue L en j + 7) / 8 : Nat) : Int) - ((s0 / 8 : Nat) : Int)

theorem Chk.step5 {S : List Int} {L : List Un} {en : Nat} {lim : Int} {D E : List Int} {p i fin k : Nat} (h : Chk S L en lim D p i (E.drop k) fin) (hk : k < E.length) (good : ∀ (j : Nat) (y : Un), L[j]? = some y → y.good) (lie : Lie L en) (hen : (en + 7) / 8 ≤ S.length) :
    ∃ e dl s0 sb eb st j x W, Step5 S L en lim D E p i fin k e dl s0 sb eb st j x W := by
  obtain ⟨e, x, hx, hok, he, h4, hD, next, hb, hB, hc, hlen, pre, post, hDD, hpre⟩ := h.step hk good lie hen
  have hl : i < L.length := (List.getElem?_eq_some_iff.1 hx).1
  have hn := nxt_gt L en lim i
  have hn2 := nxt_le L en lim i hl
  have b := lie.ue_bd (i := i) (k := nxt L en lim i - 1) (by omega) (by omega)
  have hs := hdrW_sb L en lim i x hok (good i x hx)
  have hr := hdrW_rest L en lim i x hok (good i x hx)
  have hpl := pay_len S L en i (nxt L en lim i) x (by omega)
  have ua1 := (uu_ua (en := en) hx)
  have ue1 := uu_ue (L := L) (en := en) (j := nxt L en lim i) (by omega)
  refine ⟨e, (ue L en (nxt L en lim i - 1) + 7) / 8 - ua L i / 8, ua L i, ua L i % 8, (8 - ue L en (nxt L en lim i - 1) % 8) % 8, ue L en (nxt L en lim i - 1), nxt L en lim i, x, hdrW L en lim i x,
    { hx := hx, ok := hok, good := good i x hx, hs0 := ua1.2, he := he, hdl := by omega, heD := hD, next := next, w0 := hb.1, w1 := hb.2, b0 := hB.1, b1 := hB.2.1, b2 := hB.2.2.1, b3 := hB.2.2.2, f1 := hs.1, f2 := hs.2, f3 := hr.1, f4 := hr.2.1, f5 := hr.2.2.1, f6 := hr.2.2.2.1, f7 := hr.2.2.2.2.1, f8 := hr.2.2.2.2.2.1, f9 := hr.2.2.2.2.2.2,
      sbv := rfl, eb8 := by omega, cnt := by omega, lt := b.1, room := by omega, same := ?_, hst := ue1, sten := b.2, ij := hn, jn := hn2, small := ?_, big := ?_ }⟩
  · intro t ht
    subst hpre
    rw [hDD, pay_eq]
    simp only [List.getD_eq_getElem?_getD, List.append_assoc]
    rw [show pre.length + 4 + t = pre.length + (4 + t) by omega, List.getElem?_append_right (by omega), Nat.add_sub_cancel_left, List.getElem?_append_right (by rw [be4_len]; omega), be4_len, Nat.add_sub_cancel_left, List.getElem?_append_left (by rw [win_len _ _ _ (by omega)]; omega), win_get _ _ _ _ ht]
  · intro h
    have := nxt_fits L en lim i h
    unfold spanI at this
    omega
  · intro h
    have := nxt_full L en lim i h
    unfold spanI at this
    omega
theorem rowI8 {w : World} {x : Option Addr} {n c : Nat} {l : List Int} (h : InV w (.slice x n c) (I8 l)) {k : Nat} (hk : k < l.length) :
    ∃ g o, x = some ⟨g, o, none⟩ ∧ w.cell? ⟨g, o + k, none⟩ = some (.int .i8 (l.getD k 0)) := by
  obtain ⟨g, o, e, _, _, hc⟩ := h.at (by rw [I8_len]; omega)
  exact ⟨g, o, e, hc k _ (I8_get rfl hk)⟩
theorem rowBo {w : World} {x : Option Addr} {n c : Nat} {l : List Bool} (h : InV w (.slice x n c) (Bo l)) {k : Nat} (hk : k < l.length) :
    ∃ g o, x = some ⟨g, o, none⟩ ∧ w.cell? ⟨g, o + k, none⟩ = some (.bool (l.getD k false)) := by
  obtain ⟨g, o, e, _, _, hc⟩ := h.at (by rw [Bo_len]; omega)
  exact ⟨g, o, e, hc k _ (Bo_get rfl hk)⟩
theorem and1 (h : Int) (h0 : 0 ≤ h) (h1 : h < 4294967296) : bits .and .u32 h 1 = h % 2 := by
  obtain ⟨x, rfl⟩ := Int.eq_ofNat_of_zero_le h0
  have e : bits .and .u32 (x : Int) ((1 : Nat) : Int) = ((x &&& 1 : Nat) : Int) := and_u32_nat x 1 (by omega) (by omega)
  rw [show (1 : Int) = ((1 : Nat) : Int) from rfl, e]
  rw [Nat.and_one_is_mod]
  omega
theorem and15 (h : Int) (h0 : 0 ≤ h) (h1 : h < 4294967296) : bits .and .u32 h 15 = h % 16 := by
  obtain ⟨x, rfl⟩ := Int.eq_ofNat_of_zero_le h0
  have e : bits .and .u32 (x : Int) ((15 : Nat) : Int) = ((x &&& 15 : Nat) : Int) := and_u32_nat x 15 (by omega) (by omega)
  rw [show (15 : Int) = ((15 : Nat) : Int) from rfl, e]
  have := Nat.and_two_pow_sub_one_eq_mod x 4
  simp at this
  rw [this]
  omega
theorem and31p (h : Int) (h0 : 0 ≤ h) (h1 : h < 4294967296) : bits .and .u32 h 31 = h % 32 := by
  obtain ⟨x, rfl⟩ := Int.eq_ofNat_of_zero_le h0
  have e : bits .and .u32 (x : Int) ((31 : Nat) : Int) = ((x &&& 31 : Nat) : Int) := and_u32_nat x 31 (by omega) (by omega)
  rw [show (31 : Int) = ((31 : Nat) : Int) from rfl, e]
  have := Nat.and_two_pow_sub_one_eq_mod x 5
  simp at this
  rw [this]
  omega
theorem row8k {w : World} {g o n c : Nat} {l : List Int} (h : InV w (.slice (some ⟨g, o, none⟩) n c) (B8 l)) {k : Nat} (hk : k < l.length) : w.cell? ⟨g, o + k, none⟩ = some (.int .u8 (l.getD k 0)) := by
  obtain ⟨g', o', e, hc⟩ := row8 h hk
  simp only [Option.some.injEq, Addr.mk.injEq, and_true] at e
  rw [e.1, e.2]
  exact hc
theorem row64k {w : World} {g o n c : Nat} {l : List Int} (h : InV w (.slice (some ⟨g, o, none⟩) n c) (I64 l)) {k : Nat} (hk : k < l.length) : w.cell? ⟨g, o + k, none⟩ = some (.int .i64 (l.getD k 0)) := by
  obtain ⟨g', o', e, hc⟩ := row64 h hk
  simp only [Option.some.injEq, Addr.mk.injEq, and_true] at e
  rw [e.1, e.2]
  exact hc
theorem uu_lt {L : List Un} {en : Nat} (lie : Lie L en) {a b : Nat} (h : a < b) (hb : b ≤ L.length) : ua L a < uu L en b := by
  have := lie.ue_bd (i := a) (k := b - 1) (by omega) (by omega)
  rw [uu_ue (by omega)] at this
  exact this.1
theorem mkL_ua {A G Mb Q H V : List Int} {I : List Bool} {k : Nat} (hk : k < A.length) (h0 : 0 ≤ A.getD k 0) : (ua (mkL A G Mb Q H V I) k : Int) = A.getD k 0 := by
  have hx : (mkL A G Mb Q H V I)[k]? = some (mkUn A G Mb Q H V I k) := by rw [mkL, List.getElem?_map, List.getElem?_range hk]; rfl
  rw [(uu_ua (en := 0) hx).2]
  show (((A.getD k 0).toNat : Nat) : Int) = _
  omega
theorem uu_at {L : List Un} {en k : Nat} (hk : k < L.length) : uu L en k = ua L k := by
  have hx : L[k]? = some L[k] := List.getElem?_eq_getElem hk
  rw [(uu_ua (en := en) hx).1, (uu_ua (en := en) hx).2]
theorem ue_uu (L : List Un) (en k : Nat) : ue L en k = uu L en (k + 1) := rfl
theorem Chk.pos {S : List Int} {L : List Un} {en : Nat} {lim : Int} {D : List Int} {p i fin : Nat} {r : List Int} (h : Chk S L en lim D p i r fin) (hr : 0 < r.length) : i < L.length := by
  cases h with
  | nil p i h => simp at hr
  | cons p i e fin x r pre post hx hk hD hp he next => exact (List.getElem?_eq_some_iff.1 hx).1
end Go.Proofs.Qxb6614154a
