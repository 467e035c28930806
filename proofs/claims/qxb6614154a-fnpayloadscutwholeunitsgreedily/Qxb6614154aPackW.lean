/-
  packUnits, walked.
-/
import Derived.Test.Qxb6614154aPack
namespace Go.Proofs.Qxb6614154a
open Go.ChangeShapes Go.WideShapes Go.ChangeAt Go.RowKit
set_option linter.unusedSimpArgs false
set_option linter.unusedVariables false

/-- packUnits' own boxes -/
def boxed (w : World) (n x8 en : Nat) : World := ((w.alloc (.cells #[.int .i64 (n : Int)] 3)).alloc (.cells #[.func (.func 23) #[] #[.pointer (some ⟨x8, 0, none⟩)]] 59)).alloc (.cells #[.int .i64 (en : Int)] 3)
theorem boxed_size (w : World) (n x8 en : Nat) : (boxed w n x8 en).heap.size = w.heap.size + 3 := by simp [boxed]
theorem boxed_0 (w : World) (n x8 en : Nat) : (boxed w n x8 en).heap[w.heap.size]? = some (.cells #[.int .i64 (n : Int)] 3 (0, 0)) := by
  show (((w.heap.push _).push _).push _)[w.heap.size]? = _
  simp only [Array.getElem?_push, Array.size_push]
  rw [if_neg (by omega), if_neg (by omega), if_pos trivial]
theorem boxed_1 (w : World) (n x8 en : Nat) : (boxed w n x8 en).heap[w.heap.size + 1]? = some (.cells #[.func (.func 23) #[] #[.pointer (some ⟨x8, 0, none⟩)]] 59 (0, 0)) := by
  show (((w.heap.push _).push _).push _)[w.heap.size + 1]? = _
  simp only [Array.getElem?_push, Array.size_push]
  rw [if_neg (by omega), if_pos trivial]
theorem boxed_2 (w : World) (n x8 en : Nat) : (boxed w n x8 en).heap[w.heap.size + 1 + 1]? = some (.cells #[.int .i64 (en : Int)] 3 (0, 0)) := by
  show (((w.heap.push _).push _).push _)[w.heap.size + 1 + 1]? = _
  simp only [Array.getElem?_push, Array.size_push]
  rw [if_pos trivial]
theorem boxed_upd (w : World) (n x8 en : Nat) (X : Nat → Prop) : Upd X w (boxed w n x8 en) := (((Upd.refl X w).alloc _).alloc _).alloc _

/-- what holds at every packet's head -/
structure Inv (w1 wr : World) (B bb k f : Nat) (S : List Int) (L : List Un) (en : Nat) (lim : Int) (M : Nat) (F : List Int × List Int × Bool) (vd0 ve0 vd ve : Value) (D E : List Int) : Prop where
  buf : Buf wr bb vd ve
  od : wr.ownsRow B 5 1 vd D.length (B8 D)
  oe : wr.ownsRow B 3 1 ve E.length (I64 E)
  ld : Lies w1 vd0 vd
  le : Lies w1 ve0 ve
  up : Upd (Xs bb vd0 ve0) w1 wr
  run : cutRun S L en lim f k D E = F
  fuel : L.length - k ≤ f
  lenD : D.length + (L.length - k) * (S.length + 4) ≤ M
  lenE : E.length + (L.length - k) ≤ M

theorem len_mul {n j k s : Nat} (hk : k < n) (hj : k < j) (hn : j ≤ n) (D a M : Nat) (ha : a ≤ s + 4) (h : D + (n - k) * (s + 4) ≤ M) : D + a + (n - j) * (s + 4) ≤ M := by
  have h1 : (n - k) * (s + 4) = (n - j) * (s + 4) + (j - k) * (s + 4) := by rw [← Nat.add_mul]; congr 1; omega
  have h2 : s + 4 ≤ (j - k) * (s + 4) := Nat.le_mul_of_pos_left _ (by omega)
  omega

/-- a row that stands stays: the boxes -/
theorem box_kept {w1 wr : World} {bb g : Nat} {vd0 ve0 : Value} {c : Array Value} {t : TypeId} (up : Upd (Xs bb vd0 ve0) w1 wr) (h : w1.heap[g]? = some (.cells c t (0, 0))) (hx : ¬ Xs bb vd0 ve0 g) : wr.heap[g]? = some (.cells c t (0, 0)) :=
  (up.block g (Array.getElem?_eq_some_iff.1 h).1 hx).trans h

theorem inv_ok {w1 wr w3 : World} {B bb k f : Nat} {S : List Int} {L : List Un} {en : Nat} {lim : Int} {M : Nat} {F : List Int × List Int × Bool} {vd0 ve0 vd ve vd' ve' : Value} {D E : List Int} {x : Un}
    (I : Inv w1 wr B bb k (f + 1) S L en lim M F vd0 ve0 vd ve D E) (hx : L[k]? = some x) (hk : x.ok = true) (he : (ue L en (nxt L en lim k - 1) + 7) / 8 ≤ S.length)
    (hb : Buf w3 bb vd' ve') (hd : w3.ownsRow B 5 1 vd' (D.length + 4 + ((ue L en (nxt L en lim k - 1) + 7) / 8 - ua L k / 8)) (B8 (D ++ payl S (ua L k) (ue L en (nxt L en lim k - 1)) x.i x.g x.m x.q x.h x.u)))
    (hoe : w3.ownsRow B 3 1 ve' (E.length + 1) (I64 (E ++ [((D.length + 4 + ((ue L en (nxt L en lim k - 1) + 7) / 8 - ua L k / 8) : Nat) : Int)]))) (ld : Lies wr vd vd') (le : Lies wr ve ve') (up : Upd (Xs bb vd ve) wr w3) :
    Inv w1 w3 B bb (nxt L en lim k) f S L en lim M F vd0 ve0 vd' ve' (D ++ pay S L en k (nxt L en lim k) x) (E ++ [((D.length + (pay S L en k (nxt L en lim k) x).length : Nat) : Int)]) := by
  have hlt : k < L.length := (List.getElem?_eq_some_iff.1 hx).1
  have hp := pay_len S L en k (nxt L en lim k) x he
  have h1 := nxt_gt L en lim k
  have h2 := nxt_le L en lim k hlt
  have eD : (D ++ pay S L en k (nxt L en lim k) x).length = D.length + 4 + ((ue L en (nxt L en lim k - 1) + 7) / 8 - ua L k / 8) := by rw [List.length_append, hp]; omega
  have eN : D.length + (pay S L en k (nxt L en lim k) x).length = D.length + 4 + ((ue L en (nxt L en lim k - 1) + 7) / 8 - ua L k / 8) := by rw [hp]; omega
  refine ⟨hb, ?_, ?_, lies_step I.up.size I.ld ld, lies_step I.up.size I.le le, upd_step I.up I.ld I.le up, ?_, ?_, ?_, ?_⟩
  · rw [eD]; exact hd
  · rw [eN, List.length_append]; exact hoe
  · rw [← cutRun_ok f D E hx hk]; exact I.run
  · have := I.fuel; omega
  · rw [eD]
    exact len_mul hlt h1 h2 D.length (4 + ((ue L en (nxt L en lim k - 1) + 7) / 8 - ua L k / 8)) M (by omega) I.lenD |> (by rw [Nat.add_assoc D.length 4]; exact ·)
  · rw [List.length_append]; have := I.lenE; simp; omega

set_option maxHeartbeats 4000000 in
theorem packUnits_any (B bb x6 x7 x8 x9 gu cu gs cs en : Nat) (S : List Int) (L : List Un) (mp : Int) (M : Nat) (vd0 ve0 : Value) (D0 E0 : List Int) (w : World)
    (env : Env w bb x6 x7 x8 x9 gu cu gs cs S L mp) (hbuf : Buf w bb vd0 ve0) (hod : w.ownsRow B 5 1 vd0 D0.length (B8 D0)) (hoe : w.ownsRow B 3 1 ve0 E0.length (I64 E0)) (hB : B ≤ w.heap.size)
    (hgs : some gs ≠ vd0.ownBlock) (hx9 : some x9 ≠ ve0.ownBlock) (lie : Lie L en) (hen : (en + 7) / 8 ≤ S.length) (good : ∀ x ∈ L, x.good)
    (hcs : S.length ≤ cs) (hcl : cs ≤ 1099511627776) (hM : M ≤ 1000000000000) (hD : D0.length + L.length * (S.length + 4) ≤ M) (hE : E0.length + L.length ≤ M) (hSl : S.length ≤ 1000000000) :
    Calls Try.prog 25 #[.int .i64 (L.length : Int), .func (.func 23) #[] #[.pointer (some ⟨x8, 0, none⟩)], .int .i64 (en : Int), .func (.func 24) #[] #[.pointer (some ⟨x9, 0, none⟩)], .func (.func 26) #[] #[.pointer (some ⟨x6, 0, none⟩), .pointer (some ⟨x7, 0, none⟩), .pointer (some ⟨x8, 0, none⟩)]] w fun r w' =>
      ErrIs (cutRun S L en (limI mp) L.length 0 D0 E0).2.2 r ∧ ∃ vd ve, Buf w' bb vd ve ∧ w'.ownsRow B 5 1 vd (cutRun S L en (limI mp) L.length 0 D0 E0).1.length (B8 (cutRun S L en (limI mp) L.length 0 D0 E0).1) ∧
        w'.ownsRow B 3 1 ve (cutRun S L en (limI mp) L.length 0 D0 E0).2.1.length (I64 (cutRun S L en (limI mp) L.length 0 D0 E0).2.1) ∧ Upd (Xs bb vd0 ve0) w w' := by
  generalize hF : cutRun S L en (limI mp) L.length 0 D0 E0 = F
  have HF := hide hF
  have hLl : L.length ≤ 1000000000000 := by omega
  have U1 := boxed_upd w L.length x8 en (Xs bb vd0 ve0)
  have HSTART : Hid (Inv (boxed w L.length x8 en) (boxed w L.length x8 en) B bb 0 L.length S L en (limI mp) M F vd0 ve0 vd0 ve0 D0 E0) := hide
    ⟨(Below.heap_alloc _ _ _ (by simp; have := (Array.getElem?_eq_some_iff.1 hbuf).1; omega)).trans ((Below.heap_alloc _ _ _ (by simp; have := (Array.getElem?_eq_some_iff.1 hbuf).1; omega)).trans ((Below.heap_alloc _ _ _ (Array.getElem?_eq_some_iff.1 hbuf).1).trans hbuf)),
      ((hod.alloc _).alloc _).alloc _, ((hoe.alloc _).alloc _).alloc _, .inl rfl, .inl rfl, Upd.refl _ _, hF, by omega, by simpa using hD, by simpa using hE⟩
  have HE1 : Hid (Env (boxed w L.length x8 en) bb x6 x7 x8 x9 gu cu gs cs S L mp) := hide (env.kept hbuf hod hoe hgs hx9 U1)
  have HBX : Hid (Buf (boxed w L.length x8 en) bb vd0 ve0) := (unhide HSTART).buf
  have HOD : Hid ((boxed w L.length x8 en).ownsRow B 5 1 vd0 D0.length (B8 D0)) := (unhide HSTART).od
  have HOE : Hid ((boxed w L.length x8 en).ownsRow B 3 1 ve0 E0.length (I64 E0)) := (unhide HSTART).oe
  have bl : bb < w.heap.size := (Array.getElem?_eq_some_iff.1 hbuf).1
  have dl : ∀ g, vd0.ownBlock = some g → g < w.heap.size := fun g hg => (hod.lt g hg).2
  have el : ∀ g, ve0.ownBlock = some g → g < w.heap.size := fun g hg => (hoe.lt g hg).2
  have NX : Hid (∀ g, w.heap.size ≤ g → ¬ Xs bb vd0 ve0 g) := hide (fun g hg hx => by
    rcases hx with e | e | e
    · omega
    · have := dl g e.symm; omega
    · have := el g e.symm; omega)
  have HGL : Hid (gs < w.heap.size) := by obtain ⟨c, hc⟩ := env.kS; exact (Array.getElem?_eq_some_iff.1 hc).1
  have HLIE := hide lie
  have HGOOD := hide good
  have HGS := hide hgs
  have HX9 := hide hx9
  clear hF hod hoe hbuf env hgs hx9 lie good U1 dl el
  go_enter Try.func25, Try.ntmps25
  go_wp2
  go_loopw [12] (fun i wr => ∃ (k f : Nat) (D E : List Int) (vd ve : Value), i = .int .i64 (k : Int) ∧ k ≤ L.length ∧ Hid (Inv (boxed w L.length x8 en) wr B bb k f S L en (limI mp) M F vd0 ve0 vd ve D E)) (fun i _ => L.length - (intOf i).toNat)
  case atStart => exact ⟨0, L.length, D0, E0, vd0, ve0, rfl, Nat.zero_le _, HSTART⟩
  case round =>
    obtain ⟨k, f, D, E, vd, ve, rfl, hk, HI⟩ := hrel
    have ENV : Env wr bb x6 x7 x8 x9 gu cu gs cs S L mp := (unhide HE1).kept (unhide HBX) (unhide HOD) (unhide HOE) (unhide HGS) (unhide HX9) (unhide HI).up
    have q5 := box_kept (unhide HI).up (boxed_0 w L.length x8 en) (unhide NX _ (Nat.le_refl _))
    have q6 := box_kept (unhide HI).up (boxed_1 w L.length x8 en) (unhide NX _ (by omega))
    have q7 := box_kept (unhide HI).up (boxed_2 w L.length x8 en) (unhide NX _ (by omega))
    have c5 : wr.cell? ⟨w.heap.size, 0, none⟩ = some (.int .i64 (L.length : Int)) := Joins.cell_of_block q5 0
    have c6 : wr.cell? ⟨w.heap.size + 1, 0, none⟩ = some (.func (.func 23) #[] #[.pointer (some ⟨x8, 0, none⟩)]) := Joins.cell_of_block q6 0
    have H23 : Hid (∀ j : Nat, j < L.length → Calls Try.prog 23 #[.int .i64 j, .pointer (some ⟨x8, 0, none⟩)] wr fun r w' => r = .returned (.int .i64 (ua L j : Int)) ∧ w' = wr) := hide (fun j hj => unitAt_any L x8 gu cu j wr ENV.h8 ENV.hU hj)
    have H24 : Hid (∀ z, Calls Try.prog 24 #[.int .i64 z, .pointer (some ⟨x9, 0, none⟩)] wr fun r w' => r = .returned (.int .i64 (limI mp)) ∧ w' = wr) := hide (fun z => limit_any mp z x9 wr ENV.h9)
    have H29 : Hid (∀ j : Nat, j < L.length → Calls Try.prog 29 #[.int .i64 j, .pointer (some ⟨w.heap.size, 0, none⟩), .pointer (some ⟨w.heap.size + 1, 0, none⟩), .pointer (some ⟨w.heap.size + 1 + 1, 0, none⟩)] wr fun r w' => r = .returned (.int .i64 (ue L en j : Int)) ∧ w' = wr) := hide (fun j hj => unitEnd_any L en x8 gu cu _ _ _ j wr ENV.h8 ENV.hU q5 q6 q7 hj (by omega))
    have hkb : (k : Int) ≤ 1000000000000 := by omega
    clear q5 q6 q7
    by_cases hlt : k < L.length
    · obtain ⟨x, hx⟩ : ∃ x, L[k]? = some x := ⟨_, List.getElem?_eq_getElem hlt⟩
      have hl1 : (k : Int) < (L.length : Int) := by omega
      have HENV := hide ENV
      have HX0 := hide hx
      clear ENV hx
      go_wp2
      go_loop [13] (fun jv => ∃ j : Nat, k + 1 ≤ j ∧ j ≤ L.length ∧ jv = .int .i64 (j : Int) ∧ Hid (adv L en (limI mp) k (L.length - j) j = nxt L en (limI mp) k)) (fun jv => L.length - (intOf jv).toNat)
      case atStart => exact ⟨k + 1, Nat.le_refl _, hlt, by go_num, rfl⟩
      case round =>
        obtain ⟨j, hkj, hjn, rfl, HJ⟩ := hrel
        have hjb : (j : Int) ≤ 1000000000000 := by omega
        by_cases hj : j < L.length
        · have hj1 : (j : Int) < (L.length : Int) := by omega
          have hub := (unhide HLIE).ue_bd (i := k) (k := j) (by omega) hj
          have H30 := hide (bspan_any (ua L k) (ue L en j) wr (by omega) (by omega))
          clear hub
          by_cases hc : spanI (ua L k) (ue L en j) ≤ limI mp
          · have HJ2 : Hid (adv L en (limI mp) k (L.length - (j + 1)) (j + 1) = nxt L en (limI mp) k) := (adv_step hj hc).symm.trans (unhide HJ)
            go_wp2_with (first | (go_at_call 23; refine (unhide H23 k hlt).mono ?_; rintro r w' ⟨rfl, hw⟩; have hw' := hw.symm; clear hw; subst hw') | (go_at_call 29; refine (unhide H29 j hj).mono ?_; rintro r w' ⟨rfl, hw⟩; have hw' := hw.symm; clear hw; subst hw') | (go_at_call 30; refine (unhide H30).mono ?_; rintro r w' ⟨rfl, hw⟩; have hw' := hw.symm; clear hw; subst hw') | (go_at_call 24; refine (unhide H24 _).mono ?_; rintro r w' ⟨rfl, hw⟩; have hw' := hw.symm; clear hw; subst hw'))
            go_round
            case rel => exact ⟨j + 1, by omega, hj, by go_num, HJ2⟩
            case measure => simp [intOf]; omega
          · have HST : Hid (¬ (j < L.length ∧ spanI (ua L k) (ue L en j) ≤ limI mp)) := hide (fun h => hc h.2)
            go_wp2_with (first | (go_at_call_of 23 (Value.int .i64 (k : Int)); have _t := H30; refine (unhide H23 k hlt).mono ?_; rintro r w' ⟨rfl, hw⟩; have hw' := hw.symm; clear hw; subst hw') | (go_at_call 29; have _t := H30; refine (unhide H29 j hj).mono ?_; rintro r w' ⟨rfl, hw⟩; have hw' := hw.symm; clear hw; subst hw') | (go_at_call 30; refine (unhide H30).mono ?_; rintro r w' ⟨rfl, hw⟩; have hw' := hw.symm; clear hw; subst hw') | (go_at_call 24; refine (unhide H24 _).mono ?_; rintro r w' ⟨rfl, hw⟩; have hw' := hw.symm; clear hw; subst hw'; clear H30))
            have ENV := unhide HENV
            have hx := unhide HX0
            have hstop := unhide HST
            clear HST hc
            have hJ : nxt L en (limI mp) k = j := (unhide HJ).symm.trans (adv_stop hstop)
            subst hJ
            clear HJ hstop
            have hj1 : k < nxt L en (limI mp) k := nxt_gt _ _ _ _
            have hub := (unhide HLIE).ue_bd (i := k) (k := nxt L en (limI mp) k - 1) (by omega) (by omega)
            have he8 : (ue L en (nxt L en (limI mp) k - 1) + 7) / 8 ≤ S.length := by omega
            have H29' : Hid (Calls Try.prog 29 #[.int .i64 ((nxt L en (limI mp) k : Int) - 1), .pointer (some ⟨w.heap.size, 0, none⟩), .pointer (some ⟨w.heap.size + 1, 0, none⟩), .pointer (some ⟨w.heap.size + 1 + 1, 0, none⟩)] wr fun r w' => r = .returned (.int .i64 (ue L en (nxt L en (limI mp) k - 1) : Int)) ∧ w' = wr) := by
              have h := unhide H29 (nxt L en (limI mp) k - 1) (by omega)
              rw [show (((nxt L en (limI mp) k - 1 : Nat)) : Int) = (nxt L en (limI mp) k : Int) - 1 by omega] at h
              exact h
            have hnd := (unhide HI).lenD
            have hne' := (unhide HI).lenE
            have hmul : S.length + 4 ≤ (L.length - k) * (S.length + 4) := Nat.le_mul_of_pos_left _ (by omega)
            have hgs' : some gs ≠ vd.ownBlock := by
              rcases (unhide HI).ld with h | ⟨g, hg, hg2⟩
              · rw [h]; exact unhide HGS
              · rw [hg]; intro e; cases e
                have := unhide HGL
                rw [boxed_size] at hg2; omega
            have hgsl : gs < wr.heap.size := Nat.lt_of_lt_of_le (unhide HGL) (Nat.le_trans (by rw [boxed_size]; omega) (unhide HI).up.size)
            have hBr : B ≤ wr.heap.size := Nat.le_trans hB (Nat.le_trans (by rw [boxed_size]; omega) (unhide HI).up.size)
            cases hxok : x.ok
            · have HPK := hide (pack_bad B D.length E.length vd ve D E S gs cs (ua L k) (ue L en (nxt L en (limI mp) k - 1)) bb x6 x7 x8 gu k cu L x wr (unhide HI).buf (unhide HI).od (unhide HI).oe hBr (by omega) (by omega) ENV.h6 ENV.h7 ENV.h8 ENV.hU hx hub.1 he8 hcs hcl ENV.hS hgsl hgs' hxok)
              have HFIN : Hid (F = (D, E, false)) := hide (by
                have h := (unhide HI).run
                have hf := (unhide HI).fuel
                obtain ⟨f', rfl⟩ : ∃ f', f = f' + 1 := ⟨f - 1, by omega⟩
                rw [cutRun_bad f' D E hx hxok] at h; exact h.symm)
              clear hnd hne' hmul hgs' hgsl hBr hub he8 hxok hx
              go_wp2_with (first | (go_at_call 23; refine (unhide H23 k hlt).mono ?_; rintro r w' ⟨rfl, hw⟩; have hw' := hw.symm; clear hw; subst hw') | (go_at_call 29; refine (unhide H29').mono ?_; rintro r w' ⟨rfl, hw⟩; have hw' := hw.symm; clear hw; subst hw') | (go_at_call 26; refine (unhide HPK).mono ?_; rintro r w3 ⟨⟨a, rfl⟩, hb3, hu3⟩))
              go_ret
              rw [unhide HFIN]
              have hx3 : ∀ g, g = bb → Xs bb vd ve g := fun g h => .inl h
              have hupd : Upd (Xs bb vd0 ve0) w w3 := (boxed_upd w L.length x8 en _).trans (upd_step (unhide HI).up (unhide HI).ld (unhide HI).le (hu3.mono (fun g _ h => hx3 g h)))
              exact ⟨ErrIs.no rfl a, vd, ve, hb3, own_row_step (unhide HI).od hu3 (fun g hg e => by
                subst e
                obtain ⟨c, h⟩ := own_kind (unhide HI).od hg
                rw [(unhide HI).buf] at h; simp at h), own_row_step (unhide HI).oe hu3 (fun g hg e => by
                subst e
                obtain ⟨c, h⟩ := own_kind (unhide HI).oe hg
                rw [(unhide HI).buf] at h; simp at h), hupd⟩
            · have HPK := hide (pack_ok B D.length E.length vd ve D E S gs cs (ua L k) (ue L en (nxt L en (limI mp) k - 1)) bb x6 x7 x8 gu k cu L x wr (unhide HI).buf (unhide HI).od (unhide HI).oe hBr (by omega) (by omega) ENV.h6 ENV.h7 ENV.h8 ENV.hU hx hub.1 he8 hcs hcl ENV.hS hgsl hgs' hxok (unhide HGOOD x (List.mem_of_getElem? hx)))
              have HX := hide hx
              have HXK := hide hxok
              have HE8 := hide he8
              clear hnd hne' hmul hgs' hgsl hBr hub he8 hxok hx
              go_wp2_with (first | (go_at_call 23; refine (unhide H23 k hlt).mono ?_; rintro r w' ⟨rfl, hw⟩; have hw' := hw.symm; clear hw; subst hw') | (go_at_call 29; refine (unhide H29').mono ?_; rintro r w' ⟨rfl, hw⟩; have hw' := hw.symm; clear hw; subst hw') | (go_at_call 26; refine (unhide HPK).mono ?_; rintro r w3 ⟨rfl, vd', ve', hb3, hd3, he3, ld3, le3, hu3⟩; have HB3 := hide hb3; have HD3 := hide hd3; have HE3 := hide he3; have HLD3 := hide ld3; have HLE3 := hide le3; have HU3 := hide hu3; clear hb3 hd3 he3 ld3 le3 hu3))
              go_roundw
              case rel =>
                have hf := (unhide HI).fuel
                obtain ⟨f', rfl⟩ : ∃ f', f = f' + 1 := ⟨f - 1, by omega⟩
                exact ⟨_, f', _, _, vd', ve', rfl, nxt_le _ _ _ _ hlt, inv_ok (unhide HI) (unhide HX) (unhide HXK) (unhide HE8) (unhide HB3) (unhide HD3) (unhide HE3) (unhide HLD3) (unhide HLE3) (unhide HU3)⟩
              case measure => simp [intOf]; omega
        · have HST : Hid (¬ (j < L.length ∧ spanI (ua L k) (ue L en j) ≤ limI mp)) := hide (fun h => hj h.1)
          have hj1 : ¬ (j : Int) < (L.length : Int) := by omega
          have ENV := unhide HENV
          have hx := unhide HX0
          have hstop := unhide HST
          clear HST
          have hJ : nxt L en (limI mp) k = j := (unhide HJ).symm.trans (adv_stop hstop)
          subst hJ
          clear HJ hstop
          have hj1 : k < nxt L en (limI mp) k := nxt_gt _ _ _ _
          have hub := (unhide HLIE).ue_bd (i := k) (k := nxt L en (limI mp) k - 1) (by omega) (by omega)
          have he8 : (ue L en (nxt L en (limI mp) k - 1) + 7) / 8 ≤ S.length := by omega
          have H29' : Hid (Calls Try.prog 29 #[.int .i64 ((nxt L en (limI mp) k : Int) - 1), .pointer (some ⟨w.heap.size, 0, none⟩), .pointer (some ⟨w.heap.size + 1, 0, none⟩), .pointer (some ⟨w.heap.size + 1 + 1, 0, none⟩)] wr fun r w' => r = .returned (.int .i64 (ue L en (nxt L en (limI mp) k - 1) : Int)) ∧ w' = wr) := by
            have h := unhide H29 (nxt L en (limI mp) k - 1) (by omega)
            rw [show (((nxt L en (limI mp) k - 1 : Nat)) : Int) = (nxt L en (limI mp) k : Int) - 1 by omega] at h
            exact h
          have hnd := (unhide HI).lenD
          have hne' := (unhide HI).lenE
          have hmul : S.length + 4 ≤ (L.length - k) * (S.length + 4) := Nat.le_mul_of_pos_left _ (by omega)
          have hgs' : some gs ≠ vd.ownBlock := by
            rcases (unhide HI).ld with h | ⟨g, hg, hg2⟩
            · rw [h]; exact unhide HGS
            · rw [hg]; intro e; cases e
              have := unhide HGL
              rw [boxed_size] at hg2; omega
          have hgsl : gs < wr.heap.size := Nat.lt_of_lt_of_le (unhide HGL) (Nat.le_trans (by rw [boxed_size]; omega) (unhide HI).up.size)
          have hBr : B ≤ wr.heap.size := Nat.le_trans hB (Nat.le_trans (by rw [boxed_size]; omega) (unhide HI).up.size)
          cases hxok : x.ok
          · have HPK := hide (pack_bad B D.length E.length vd ve D E S gs cs (ua L k) (ue L en (nxt L en (limI mp) k - 1)) bb x6 x7 x8 gu k cu L x wr (unhide HI).buf (unhide HI).od (unhide HI).oe hBr (by omega) (by omega) ENV.h6 ENV.h7 ENV.h8 ENV.hU hx hub.1 he8 hcs hcl ENV.hS hgsl hgs' hxok)
            have HFIN : Hid (F = (D, E, false)) := hide (by
              have h := (unhide HI).run
              have hf := (unhide HI).fuel
              obtain ⟨f', rfl⟩ : ∃ f', f = f' + 1 := ⟨f - 1, by omega⟩
              rw [cutRun_bad f' D E hx hxok] at h; exact h.symm)
            clear hnd hne' hmul hgs' hgsl hBr hub he8 hxok hx
            go_wp2_with (first | (go_at_call 23; refine (unhide H23 k hlt).mono ?_; rintro r w' ⟨rfl, hw⟩; have hw' := hw.symm; clear hw; subst hw') | (go_at_call 29; refine (unhide H29').mono ?_; rintro r w' ⟨rfl, hw⟩; have hw' := hw.symm; clear hw; subst hw') | (go_at_call 26; refine (unhide HPK).mono ?_; rintro r w3 ⟨⟨a, rfl⟩, hb3, hu3⟩))
            go_ret
            rw [unhide HFIN]
            have hx3 : ∀ g, g = bb → Xs bb vd ve g := fun g h => .inl h
            have hupd : Upd (Xs bb vd0 ve0) w w3 := (boxed_upd w L.length x8 en _).trans (upd_step (unhide HI).up (unhide HI).ld (unhide HI).le (hu3.mono (fun g _ h => hx3 g h)))
            exact ⟨ErrIs.no rfl a, vd, ve, hb3, own_row_step (unhide HI).od hu3 (fun g hg e => by
              subst e
              obtain ⟨c, h⟩ := own_kind (unhide HI).od hg
              rw [(unhide HI).buf] at h; simp at h), own_row_step (unhide HI).oe hu3 (fun g hg e => by
              subst e
              obtain ⟨c, h⟩ := own_kind (unhide HI).oe hg
              rw [(unhide HI).buf] at h; simp at h), hupd⟩
          · have HPK := hide (pack_ok B D.length E.length vd ve D E S gs cs (ua L k) (ue L en (nxt L en (limI mp) k - 1)) bb x6 x7 x8 gu k cu L x wr (unhide HI).buf (unhide HI).od (unhide HI).oe hBr (by omega) (by omega) ENV.h6 ENV.h7 ENV.h8 ENV.hU hx hub.1 he8 hcs hcl ENV.hS hgsl hgs' hxok (unhide HGOOD x (List.mem_of_getElem? hx)))
            have HX := hide hx
            have HXK := hide hxok
            have HE8 := hide he8
            clear hnd hne' hmul hgs' hgsl hBr hub he8 hxok hx
            go_wp2_with (first | (go_at_call 23; refine (unhide H23 k hlt).mono ?_; rintro r w' ⟨rfl, hw⟩; have hw' := hw.symm; clear hw; subst hw') | (go_at_call 29; refine (unhide H29').mono ?_; rintro r w' ⟨rfl, hw⟩; have hw' := hw.symm; clear hw; subst hw') | (go_at_call 26; refine (unhide HPK).mono ?_; rintro r w3 ⟨rfl, vd', ve', hb3, hd3, he3, ld3, le3, hu3⟩; have HB3 := hide hb3; have HD3 := hide hd3; have HE3 := hide he3; have HLD3 := hide ld3; have HLE3 := hide le3; have HU3 := hide hu3; clear hb3 hd3 he3 ld3 le3 hu3))
            go_roundw
            case rel =>
              have hf := (unhide HI).fuel
              obtain ⟨f', rfl⟩ : ∃ f', f = f' + 1 := ⟨f - 1, by omega⟩
              exact ⟨_, f', _, _, vd', ve', rfl, nxt_le _ _ _ _ hlt, inv_ok (unhide HI) (unhide HX) (unhide HXK) (unhide HE8) (unhide HB3) (unhide HD3) (unhide HE3) (unhide HLD3) (unhide HLE3) (unhide HU3)⟩
            case measure => simp [intOf]; omega
    · have hkn : k = L.length := by omega
      have HFIN : Hid (F = (D, E, true)) := hide (by
        have h := (unhide HI).run
        rw [cutRun_end f k D E (by omega)] at h; exact h.symm)
      have hl1 : ¬ (k : Int) < (L.length : Int) := by omega
      clear hkn ENV
      go_wp2
      go_ret
      rw [unhide HFIN]
      exact ⟨ErrIs.yes rfl, vd, ve, (unhide HI).buf, (unhide HI).od, (unhide HI).oe, (boxed_upd w L.length x8 en _).trans (unhide HI).up⟩
end Go.Proofs.Qxb6614154a
