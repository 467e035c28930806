/-
  The law's walk.
-/
import Derived.Test.Qxb6608903aPut
namespace Go.Proofs.Qxb6608903a
open Go.ChangeShapes Go.WideShapes Go.ChangeAt Go.RowKit
set_option linter.unusedSimpArgs false
set_option linter.unusedVariables false
set_option maxRecDepth 8000 in
set_option maxHeartbeats 4000000 in
theorem law_walk (F : List Path → List (Nat × Nat) → List Nd) (hF : ∀ Qs fs, (F Qs fs).length = Qs.length) (Z : ∀ (v : Value) (T : List Path) (w : World), Texts w v T → totL T + T.length ≤ 1048576 → Calls Try.prog 8 #[v] w (NewPost F T w))
    (v0 vx : Value) (T : List Path) (x : Path) (k0 : Int) (w : World) (hT : Texts w v0 T) (hx : InV w vx (I32 x)) :
    Calls Try.prog 4 #[v0, vx, .int .i64 k0] w (Yes w) := by
  have H13 := hide (bytes_any v0 vx T x k0 w hT hx)
  obtain ⟨x0, c0, rfl⟩ := hT.form
  obtain ⟨x1, c1, rfl⟩ := hx.form
  rw [I32_len] at *
  have HT := hide hT
  have HX := hide hx
  have HZ := hide Z
  have HF := hide hF
  clear hT hx Z hF
  go_enter Try.func4, Try.ntmps4
  go_wp2_with fail
  refine (unhide H13).mono ?_
  clear H13
  rintro r w1 ⟨b, rfl, hu⟩
  have HU1 := hide hu
  clear hu
  cases b with
  | false => as_aux_lemma =>
    go_wp2
    go_ret
    exact ⟨rfl, unhide HU1⟩
  | true =>
  by_cases a1 : (65536 : Int) < (T.length : Int)
  · as_aux_lemma =>
    go_wp2
    go_ret
    exact ⟨rfl, unhide HU1⟩
  by_cases a2 : (262144 : Int) < (x.length : Int)
  · as_aux_lemma =>
    go_wp2
    go_ret
    exact ⟨rfl, unhide HU1⟩
  have bx : (x.length : Int) ≤ 262144 := by omega
  have bT : (T.length : Int) ≤ 65536 := by omega
  by_cases a3 : (1048576 : Int) < 24 + 4 * (x.length : Int)
  · as_aux_lemma =>
    go_wp2
    go_ret
    exact ⟨rfl, unhide HU1⟩
  as_aux_lemma =>
  go_wp2
  have HT1 := hide ((unhide HT).kept (unhide HU1))
  go_loopw [7, 8] (fun s i wr => ∃ k : Nat, s = .int .i64 ((24 + 4 * x.length + (24 * k + 4 * totL (T.take k)) : Nat) : Int) ∧ i = .int .i64 (k : Int) ∧ k ≤ T.length ∧ 24 + 4 * x.length + (24 * k + 4 * totL (T.take k)) ≤ 1048576 ∧ wr = w1) (fun _ i _ => T.length - (intOf i).toNat)
  case atStart => exact ⟨0, by simp [totL], by go_num, by omega, by simp [totL]; omega, rfl⟩
  case round =>
  obtain ⟨k, rfl, rfl, hk, hs, hw⟩ := hrel
  have hw' := hw.symm
  clear hw
  subst hw'
  have hkb : (k : Int) ≤ 65536 := by omega
  by_cases hkl : k < T.length
  · as_aux_lemma =>
    have hl : (k : Int) < (T.length : Int) := by omega
    obtain ⟨t, ht⟩ : ∃ t, T[k]? = some t := ⟨_, List.getElem?_eq_getElem hkl⟩
    obtain ⟨g, o, y, d, rfl, hc, _⟩ := (unhide HT1).get ht
    have hsum := totL_take T k t ht
    obtain ⟨s, hs1⟩ : ∃ s, s = 24 + 4 * x.length + (24 * k + 4 * totL (T.take k)) := ⟨_, rfl⟩
    rw [← hs1] at hs ⊢
    have hsb : (s : Int) ≤ 1048576 := by omega
    have HS : Hid (24 + 4 * x.length + (24 * (k + 1) + 4 * totL (T.take (k + 1))) = s + (24 + 4 * t.length)) := hide (by omega)
    clear hs1 hsum ht
    by_cases d1 : (262144 : Int) < (t.length : Int)
    · go_wp2
      go_ret
      exact ⟨rfl, unhide HU1⟩
    have d2 : (t.length : Int) ≤ 262144 := by omega
    by_cases d3 : (1048576 : Int) < (s : Int) + (24 + 4 * (t.length : Int))
    · go_wp2
      go_ret
      exact ⟨rfl, unhide HU1⟩
    go_wp2
    go_roundw
    case rel => exact ⟨k + 1, by rw [unhide HS]; go_num, by go_num, by omega, by rw [unhide HS]; omega, trivial⟩
    case measure => simp [intOf]; omega
  have hl : ¬ (k : Int) < (T.length : Int) := by omega
  obtain rfl : k = T.length := by omega
  rw [List.take_length] at hs ⊢
  have HB : Hid (totL T + x.length + (T.length + 1) ≤ 1048576) := hide (by omega)
  clear hs hk hkl hkb
  as_aux_lemma =>
  by_cases e1 : k0 < 0
  · as_aux_lemma =>
    go_wp2
    go_ret
    exact ⟨rfl, unhide HU1⟩
  by_cases e2 : (T.length : Int) < k0
  · as_aux_lemma =>
    go_wp2
    go_ret
    exact ⟨rfl, unhide HU1⟩
  as_aux_lemma =>
  obtain ⟨n, rfl⟩ : ∃ n : Nat, k0 = (n : Int) := ⟨k0.toNat, by omega⟩
  obtain ⟨i24, hi24, hz24, hs24, hby24⟩ := info_parts info24
  have hn : (n : Int) ≤ (T.length : Int) := by omega
  have hnn : n ≤ T.length := by omega
  have HX1 := hide ((unhide HX).kept (unhide HU1))
  clear HX HT
  obtain ⟨vs, hI, hvl, hE⟩ := unhide HT1
  have hcap : T.length ≤ c0 := hI.cap
  have hcap2 : (T.length : Int) ≤ (c0 : Int) := by omega
  have HI := hide hI
  have HE : Hid (Each w1 vs T) := hide ⟨hvl, hE⟩
  clear hI hvl hE e1 e2
  have hnz : x0 = none → n = 0 ∧ c0 = 0 := fun h => ⟨by have := ((unhide HI).none h).1; omega, ((unhide HI).none h).2⟩
  have hnz0 : x0 = none → T.length = 0 ∧ c0 = 0 := (unhide HI).none
  have hnz2 : (if c0 = n then x0 else Option.map (fun a => a.add n) x0) = none → T.length - n = 0 ∧ c0 - n = 0 := fun h => by
    have : x0 = none := by
      by_cases e : c0 = n
      · rw [if_pos e] at h; exact h
      · rw [if_neg e] at h; simpa using h
    have := hnz0 this
    omega
  rcases Classical.em (c0 = n) with hcn | hcn
  case' inl => (have hcn' := hcn.symm; clear hcn hcap hcap2; subst hcn')
  all_goals as_aux_lemma =>
    go_wp2_with (first | (at_make; refine wpList_make_own _ rfl (.const (.int .i64 0)) (.tmp 69) 22 rfl w1.heap.size 24 i24 (.slice none 0 0) 1 Try.underlying22 hi24 hz24 hs24 .i64 .i64 _ (T.length + 1) rfl rfl (by omega) (by rw [hby24]; omega) (by unfold maxLen; omega) (by omega) ?_; intro w2 ho2 hg2; have HO2 := hide ho2; have HU2 : Hid (Upd (fun _ => False) w1 w2) := hide ((Upd.of_grown hg2).mono (fun i _ e => by simp at e)); clear ho2 hg2)
                        | (at_builtin; refine wpList_append_fits_any _ rfl (.tmp 71) (.tmp 74) 22 rfl w1.heap.size 24 i24 1 Try.underlying22 hi24 hs24 w1.heap.size 0 (T.length + 1) [] rfl (unhide HO2) _ n _ (vs.take n) rfl (by rw [List.length_take, (unhide HE).1]; omega) hnz (((unhide HI).kept (unhide HU2)).to n) ((unhide HE).take n).cell (by omega) ?_; intro w3 ho3 hg3; have HO3 : Hid (w3.ownsRow w1.heap.size 24 1 (.slice (some ⟨w1.heap.size, 0, none⟩) n (T.length + 1)) n (vs.take n)) := hide (by simpa using ho3); have HU3 : Hid (Upd (fun _ => False) w1 w3) := hide (Upd.next (unhide HU2) (Upd.of_grown hg3) (fun i e => by simp at e; omega)); clear ho3 hg3)
                        | (at_builtin; refine wpList_append_fits _ rfl (.tmp 76) (.tmp 78) 22 rfl w1.heap.size 24 i24 1 Try.underlying22 hi24 hs24 w1.heap.size n (T.length + 1) (vs.take n) rfl ((unhide HO3).alloc _) ⟨w3.heap.size, 0, none⟩ 1 1 [.slice x1 x.length c1] rfl rfl (cell_one_new _ _ _) (by intro u hu; rw [List.mem_singleton.1 hu]; rfl) (by omega) ?_; intro w4 ho4 hg4; have HO4 := hide ho4; have HU4 : Hid (Upd (fun _ => False) w1 w4) := hide (Upd.next ((unhide HU3).alloc _) (Upd.of_grown hg4) (fun i e => by simp at e; omega)); clear ho4 hg4)
                        | (at_builtin; refine wpList_append_fits_any _ rfl (.tmp 80) (.tmp 83) 22 rfl w1.heap.size 24 i24 1 Try.underlying22 hi24 hs24 w1.heap.size (n + 1) (T.length + 1) (vs.take n ++ [.slice x1 x.length c1]) rfl (unhide HO4) _ (T.length - n) _ (vs.drop n) rfl (by simp [(unhide HE).1]) (by intro h; have := hnz0 (by first | exact h | simpa using h); omega) (by intro ad h; exact ((unhide HI).kept (unhide HU4)).from n ad (by first | exact h | (rw [if_pos rfl]; exact h) | (rw [if_neg hcn]; exact h) | (simp [hcn] at h ⊢; exact h) | (simp at h ⊢; exact h))) ((unhide HE).drop n).cell (by omega) ?_; intro w5 ho5 hg5; have hm5 : n + 1 + (T.length - n) = T.length + 1 := (by omega); rw [hm5] at ho5 ⊢; have HO5 := hide ho5; have HU5 : Hid (Upd (fun _ => False) w1 w5) := hide (Upd.next (unhide HU4) (Upd.of_grown hg5) (fun i e => by simp at e; omega)); clear ho5 hg5 hm5)
                        | (at_make; refine wpList_make_own _ rfl (.const (.int .i64 0)) (.tmp 87) 22 rfl w5.heap.size 24 i24 (.slice none 0 0) 1 Try.underlying22 hi24 hz24 hs24 .i64 .i64 _ (T.length + 1) rfl rfl (by omega) (by rw [hby24]; omega) (by unfold maxLen; omega) (by omega) ?_; intro w6 ho6 hg6; have HO6 := hide ho6; have HU6 : Hid (Upd (fun _ => False) w5 w6) := hide ((Upd.of_grown hg6).mono (fun i _ e => by simp at e)); clear ho6 hg6)
                        | (at_builtin; refine wpList_append_fits_any _ rfl (.tmp 89) (.tmp 90) 22 rfl w5.heap.size 24 i24 1 Try.underlying22 hi24 hs24 w5.heap.size 0 (T.length + 1) [] rfl (unhide HO6) _ T.length _ vs rfl (by simp [(unhide HE).1]) hnz0 (((unhide HI).kept (unhide HU5)).kept (unhide HU6)).cells (unhide HE).cell (by omega) ?_; intro w7 ho7 hg7; have HO7 : Hid (w7.ownsRow w5.heap.size 24 1 (.slice (some ⟨w5.heap.size, 0, none⟩) T.length (T.length + 1)) T.length vs) := hide (by simpa using ho7); have HU7 : Hid (Upd (fun _ => False) w5 w7) := hide (Upd.next (unhide HU6) (Upd.of_grown hg7) (fun i e => by simp at e; omega)); clear ho7 hg7)
                        | (at_builtin; refine wpList_append_fits _ rfl (.tmp 92) (.tmp 94) 22 rfl w5.heap.size 24 i24 1 Try.underlying22 hi24 hs24 w5.heap.size T.length (T.length + 1) vs rfl ((unhide HO7).alloc _) ⟨w7.heap.size, 0, none⟩ 1 1 [.slice x1 x.length c1] rfl rfl (cell_one_new _ _ _) (by intro u hu; rw [List.mem_singleton.1 hu]; rfl) (by omega) ?_; intro w8 ho8 hg8; have HO8 := hide ho8; have HU8 : Hid (Upd (fun _ => False) w5 w8) := hide (Upd.next ((unhide HU7).alloc _) (Upd.of_grown hg8) (fun i e => by simp at e; omega)); clear ho8 hg8))
    have U8 := (unhide HU5).trans (unhide HU8)
    have HTa := hide ((unhide HT1).kept U8)
    have EE := ((((unhide HE).take n).append (Each.one (unhide HX1))).append ((unhide HE).drop n)).kept U8
    have HTw : Hid (Texts w8 (.slice (some ⟨w1.heap.size, 0, none⟩) (T.length + 1) (T.length + 1)) (T.take n ++ [x] ++ T.drop n)) := hide ⟨_, own_inV (own_row_step (unhide HO5) (unhide HU8) (fun _ _ h => h)), EE.1, EE.2⟩
    have EA := ((unhide HE).append (Each.one (unhide HX1))).kept U8
    have HTe : Hid (Texts w8 (.slice (some ⟨w5.heap.size, 0, none⟩) (T.length + 1) (T.length + 1)) (T ++ [x])) := hide ⟨_, own_inV (unhide HO8), EA.1, EA.2⟩
    have HX8 := hide ((unhide HX1).kept U8)
    have HU8 : Hid (Upd (fun _ => False) w w8) := hide ((unhide HU1).trans U8)
    have HLw : Hid ((T.take n ++ [x] ++ T.drop n).length = T.length + 1) := hide (by simp; omega)
    clear EE EA U8 HO2 HO3 HO4 HO5 HO6 HO7 HO8 HU2 HU3 HU4 HU5 HU6 HU7 HT1 HE HI HX1 HU1 hnz hnz0 hnz2
    refine (unhide HZ _ _ _ (unhide HTa) (by have := unhide HB; omega)).mono ?_
    rintro r w9 ⟨b1, Q1, f1, rfl, t1, y1, q1, u9⟩
    have HY1 := hide y1
    have H91 := hide t1
    have HU9 := hide u9
    clear y1 t1 u9
    go_wp2_with fail
    refine (unhide HZ _ _ _ ((unhide HTw).kept (unhide HU9)) (by have := unhide HB; rw [totL_put, unhide HLw]; omega)).mono ?_
    rintro r w10 ⟨b2, Q2, f2, rfl, t2, y2, q2, u10⟩
    have HY2 := hide y2
    have H102 := hide t2
    have HU10 := hide u10
    clear y2 t2 u10
    go_wp2_with fail
    refine (unhide HZ _ _ _ (((unhide HTe).kept (unhide HU9)).kept (unhide HU10)) (by have := unhide HB; rw [totL_end]; simp; omega)).mono ?_
    rintro r w11 ⟨b3, Q3, f3, rfl, t3, y3, q3, u11⟩
    have HY3 := hide y3
    have H113 := hide t3
    have HU11 := hide u11
    clear y3 t3 u11
    have HTx := hide ((((unhide HTa).kept (unhide HU9)).kept (unhide HU10)).kept (unhide HU11))
    have HXx := hide ((((unhide HX8).kept (unhide HU9)).kept (unhide HU10)).kept (unhide HU11))
    have HT1 := hide (((unhide H91).kept (unhide HU10)).kept (unhide HU11))
    have HT2 := hide ((unhide H102).kept (unhide HU11))
    have HUx := hide ((((unhide HU8).trans (unhide HU9)).trans (unhide HU10)).trans (unhide HU11))
    clear HTa HX8 H91 H102 HU8 HU9 HU10 HU11 HTw HTe HLw
    generalize Option.map (fun a : Addr => a.add n) x0 = xm
    as_aux_lemma =>
    go_wp2
    go_loopw [14, 15, 16] (fun s i l wr => ∃ k : Nat, s = .int .i64 ((share x (T.take k) : Nat) : Int) ∧ i = .int .i64 (k : Int) ∧ k ≤ T.length ∧ Hid (Upd (fun _ => False) w11 wr)) (fun _ i _ _ => T.length - (intOf i).toNat)
    case atStart => exact ⟨0, by simp [share], by go_num, by omega, hide (Upd.refl _ _)⟩
    case round =>
    obtain ⟨k, rfl, rfl, hk, UR⟩ := hrel
    have hkb : (k : Int) ≤ 65536 := by omega
    by_cases hkl : k < T.length
    · as_aux_lemma =>
      have hl : (k : Int) < (T.length : Int) := by omega
      obtain ⟨t, ht⟩ : ∃ t, T[k]? = some t := ⟨_, List.getElem?_eq_getElem hkl⟩
      obtain ⟨g, o, y, d, rfl, hc, hI⟩ := ((unhide HTx).kept (unhide UR)).get ht
      have hsh := share_take x T k t ht
      have hx1 := share_le x (T.take k)
      have hx2 := lcp_le x t
      have H14 := hide (lcp_any _ _ x t wr ((unhide HXx).kept (unhide UR)) hI (by omega) (by have := totL_len T k t ht; have := unhide HB; omega))
      obtain ⟨s, hs⟩ : ∃ s, s = share x (T.take k) := ⟨_, rfl⟩
      obtain ⟨z, hz⟩ : ∃ z, z = lcp x t := ⟨_, rfl⟩
      rw [← hs] at hsh hx1 ⊢
      rw [← hz] at hsh hx2 H14
      have HSH := hide hsh
      clear hs hz hsh ht hI
      go_wp2_with fail
      refine (unhide H14).mono ?_
      rintro r w12 ⟨rfl, hu⟩
      have HU12 : Hid (Upd (fun _ => False) w11 w12) := hide ((unhide UR).trans hu)
      clear hu H14
      by_cases hsz : s < z
      · have hi : (s : Int) < (z : Int) := by omega
        go_wp2
        go_roundw
        case rel => exact ⟨k + 1, by rw [unhide HSH, Nat.max_eq_right (by omega)], by go_num, by omega, HU12⟩
        case measure => simp [intOf]; omega
      · have hi : ¬ (s : Int) < (z : Int) := by omega
        go_wp2
        go_roundw
        case rel => exact ⟨k + 1, by rw [unhide HSH, Nat.max_eq_left (by omega)], by go_num, by omega, HU12⟩
        case measure => simp [intOf]; omega
    as_aux_lemma =>
    have hl : ¬ (k : Int) < (T.length : Int) := by omega
    obtain rfl : k = T.length := by omega
    rw [List.take_length]
    have hsz := size_more ((unhide HY1).lists rfl) ((unhide HY2).lists rfl) (mem_put T x n)
    have hsx := share_le x T
    obtain ⟨rfl, rfl⟩ := (unhide HY2).whole (starts_put T x n) (unhide HY3) rfl rfl
    have hqe : ((F Q3 f3).length : Int) = (Q1.length : Int) + (x.length : Int) - ((share x T : Nat) : Int) := by rw [unhide HF]; omega
    have hF1 : ((F Q1 f1).length : Int) = (Q1.length : Int) := by rw [unhide HF]
    have S2 := hide (size_any b2 _ wr ((unhide HT2).kept (unhide UR)))
    have S1 := hide (size_any b1 _ wr ((unhide HT1).kept (unhide UR)))
    rw [hqe] at S2
    rw [hF1] at S1
    have S3 := hide (same_any b2 b3 _ wr ((unhide HT2).kept (unhide UR)) ((unhide H113).kept (unhide UR)) (by rw [unhide HF]; omega))
    have HUy := hide ((unhide HUx).trans (unhide UR))
    have hq1 : (Q1.length : Int) ≤ 2097152 := by omega
    obtain ⟨sh, hsh⟩ : ∃ sh, sh = share x T := ⟨_, rfl⟩
    rw [← hsh] at S2 hsx ⊢
    clear hqe hF1 hsz hsh HT1 HT2 H113 HY1 HY2 HY3 HTx HXx UR HUx
    go_wp2_with fail
    refine (unhide S2).mono ?_
    rintro r w12 ⟨rfl, hw⟩
    have hw' := hw.symm
    clear hw
    subst hw'
    go_wp2_with fail
    refine (unhide S1).mono ?_
    rintro r w12 ⟨rfl, hw⟩
    have hw' := hw.symm
    clear hw
    subst hw'
    go_wp2_with fail
    refine (unhide S3).mono ?_
    rintro r w12 ⟨rfl, hu⟩
    have HU12 := hide ((unhide HUy).trans hu)
    clear hu
    go_wp2
    go_ret
    exact ⟨rfl, unhide HU12⟩
end Go.Proofs.Qxb6608903a
