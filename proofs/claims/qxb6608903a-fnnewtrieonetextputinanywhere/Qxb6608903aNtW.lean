/-
  newTrie, walked whole.
-/
import Derived.Test.Qxb6608903aNtI
namespace Go.Proofs.Qxb6608903a
open Go.ChangeShapes Go.WideShapes Go.ChangeAt Go.RowKit
set_option linter.unusedSimpArgs false
set_option linter.unusedVariables false
def TriePost (T : List Path) (w : World) (r : Ending) (w' : World) : Prop := ∃ gn cap Qs fs, r = .returned (.agg #[.slice (some ⟨gn, 0, none⟩) (whole Qs fs).length cap]) ∧ (∀ (j : Nat) (x : Nd), (whole Qs fs)[j]? = some x → w'.cell? ⟨gn, j * 3, none⟩ = some (.int .i32 x.1) ∧ w'.cell? ⟨gn, j * 3 + 1, none⟩ = some (.int .i32 (x.2.1 : Int)) ∧ w'.cell? ⟨gn, j * 3 + 2, none⟩ = some (.int .i32 (x.2.2 : Int))) ∧ Bfs (Starts T) Qs.length Qs fs ∧ Qs.length ≤ 2097152 ∧ Upd (fun _ => False) w w'
set_option maxRecDepth 8000 in
set_option maxHeartbeats 8000000 in
theorem newTrie_any (x0 : Option Addr) (c0 : Nat) (T : List Path) (w : World) (hT : Texts w (.slice x0 T.length c0) T) (hb : tot T + T.length ≤ 1048576) :
    Calls Try.prog 26 #[.slice x0 T.length c0] w (TriePost T w) := by
  obtain ⟨i78, hi78, hz78, hs78, hby78⟩ := info_parts info78
  have HT := hide hT
  have bT : (T.length : Int) ≤ 1048576 := by omega
  have bS : (tot T : Int) ≤ 1048576 := by omega
  clear hT
  go_enter Try.func26, Try.ntmps26
  go_wp2
  have HT1 : Hid (Texts (w.alloc (.cells #[.slice none 0 0] 65)) (.slice x0 T.length c0) T) := hide ((unhide HT).kept ((Upd.refl _ _).alloc _))
  have HU1 : Hid (Upd (fun _ => False) w (w.alloc (.cells #[.slice none 0 0] 65))) := hide ((Upd.refl _ _).alloc _)
  generalize hw1 : w.alloc (.cells #[.slice none 0 0] 65) = w1 at *
  have HW1 := hide hw1
  clear hw1
  go_loopw [3, 23] (fun s i wr => ∃ k : Nat, s = .int .i64 (1 + (tot (T.take k) : Int)) ∧ i = .int .i64 (k : Int) ∧ k ≤ T.length ∧ wr = w1) (fun _ i _ => T.length - (intOf i).toNat)
  case atStart => exact ⟨0, by simp [tot], by go_num, by omega, rfl⟩
  case round =>
  obtain ⟨k, rfl, rfl, hk, hw⟩ := hrel
  have hw' := hw.symm
  clear hw
  subst hw'
  have hkb : (k : Int) ≤ 1048576 := by omega
  have htk := tot_le T k
  by_cases hkl : k < T.length
  · have hl : (k : Int) < (T.length : Int) := by omega
    obtain ⟨t, ht⟩ : ∃ t, T[k]? = some t := ⟨_, List.getElem?_eq_getElem hkl⟩
    obtain ⟨g, o, y, d, rfl, hc, _⟩ := (unhide HT1).get ht
    have hsum := tot_take T k t ht
    have htl := tot_le T (k + 1)
    obtain ⟨s, hs⟩ : ∃ s, s = tot (T.take k) := ⟨_, rfl⟩
    rw [← hs] at hsum htk ⊢
    have hsb : (s : Int) ≤ 1048576 := by omega
    have hlb : (t.length : Int) ≤ 1048576 := by omega
    have HS := hide hsum
    clear ht hsum htl hs
    go_wp2
    go_roundw
    case rel => exact ⟨k + 1, by rw [unhide HS]; go_num, by go_num, by omega, trivial⟩
    case measure => simp [intOf]; omega
  have hl : ¬ (k : Int) < (T.length : Int) := by omega
  obtain rfl : k = T.length := by omega
  rw [List.take_length]
  clear hk hkl htk hl hkb
  obtain ⟨sz, hsz⟩ : ∃ sz : Nat, (sz : Int) = 1 + (tot T : Int) := ⟨1 + tot T, by omega⟩
  rw [← hsz]
  have hsz1 : sz = 1 + tot T := by omega
  have HSZ := hide hsz1
  clear hsz hsz1
  go_wp2_with (at_make; refine wpList_make_two _ rfl (.const (.int .i64 1)) (.tmp 32) 76 rfl 78 i78 _ 3 Try.underlying76 hi78 hz78 hs78 .i64 .i64 1 sz rfl rfl (by have := unhide HSZ; omega) (by rw [hby78]; have := unhide HSZ; omega) (by unfold maxLen; have := unhide HSZ; omega) _ (made3 sz) ?_)
  have HC : Hid (Cha w1 (w1.alloc (.cells (flat (List.replicate sz (0, 0, 0))).toArray 78)) w1.heap.size sz [] [] [⟨0, 0, 0⟩] [[]] 1) := hide (Cha.start w1 w1 sz (Upd.refl _ _) (by have := unhide HSZ; omega) (by unfold maxLen; have := unhide HSZ; omega))
  generalize w1.alloc (.cells (flat (List.replicate sz (0, 0, 0))).toArray 78) = w2 at *
  generalize hgc : w1.heap.size = gc at *
  have HGC := hide hgc
  clear hgc
  skip
  go_wp2
  go_loopw [6, 36] (fun v i wr => ∃ (k : Nat) (C : List CN) (P : List Path), v = .slice (some ⟨gc, 0, none⟩) C.length sz ∧ i = .int .i64 (k : Int) ∧ k ≤ T.length ∧ Hid (Cha w1 wr gc sz (T.take k) [] C P (1 + tot (T.take k)))) (fun _ i _ => T.length - (intOf i).toNat)
  case atStart => exact ⟨0, _, _, rfl, by go_num, by omega, HC⟩
  case round =>
  clear HC
  obtain ⟨k, C, P, rfl, rfl, hk, HC⟩ := hrel
  have hkb : (k : Int) ≤ 1048576 := by omega
  by_cases hkl : k < T.length
  · as_aux_lemma =>
    have hl : (k : Int) < (T.length : Int) := by omega
    obtain ⟨t, ht⟩ : ∃ t, T[k]? = some t := ⟨_, List.getElem?_eq_getElem hkl⟩
    have HU2 : Hid (∀ W, Upd (fun k => k = gc) w1 W → Upd (fun _ => False) w1 W) := hide (fun W h => h.mono (fun i hi e => by have := unhide HGC; omega))
    obtain ⟨g, o, y, d, rfl, hc, hI⟩ := ((unhide HT1).kept (unhide HU2 _ (unhide HC).upd)).get ht
    obtain ⟨vs, vh⟩ : ∃ vs, vs = I32 t := ⟨_, rfl⟩
    have htl := tot_len T k t ht
    have hlb : (t.length : Int) ≤ 1048576 := by omega
    have HTX : Hid (∀ W, Upd (fun k => k = gc) w1 W → InV W (.slice y t.length d) (I32 t)) := hide (fun W h => by
      obtain ⟨g', o', y', d', e, hc', hI'⟩ := ((unhide HT1).kept (unhide HU2 W h)).get ht
      simp only [Option.some.injEq, Addr.mk.injEq, and_true] at e
      obtain ⟨rfl, rfl⟩ := e
      have hlow : g < w1.heap.size := by
        obtain ⟨g1, o1, y1, d1, e1, hc1, _⟩ := (unhide HT1).get ht
        simp only [Option.some.injEq, Addr.mk.injEq, and_true] at e1
        obtain ⟨rfl, rfl⟩ := e1
        exact World.block_lt_of_cell? _ _ hc1
      have h1 : W.cell? ⟨g, o + k, none⟩ = wr.cell? ⟨g, o + k, none⟩ :=
        (World.cell?_of_block (a := ⟨g, o + k, none⟩) ((unhide HU2 W h).block g hlow (fun h => h))).trans (World.cell?_of_block (a := ⟨g, o + k, none⟩) ((unhide HU2 _ (unhide HC).upd).block g hlow (fun h => h))).symm
      rw [h1, hc] at hc'
      simp only [Option.some.injEq, Value.slice.injEq, true_and] at hc'
      obtain ⟨rfl, rfl⟩ := hc'
      exact hI')
    have HTK := hide ht
    clear hI ht htl vh vs
    go_wp2
    go_loopw [6, 9, 42] (fun v a i wr => ∃ (j n : Nat) (C : List CN) (P : List Path), v = .slice (some ⟨gc, 0, none⟩) C.length sz ∧ a = .int .i32 (n : Int) ∧ i = .int .i64 (j : Int) ∧ j ≤ t.length ∧ n < C.length ∧ Hid (Cha w1 wr gc sz (T.take k) (t.take j) C P (1 + tot (T.take k) + j) ∧ P[n]? = some (t.take j))) (fun _ _ i _ => t.length - (intOf i).toNat)
    case atStart => exact ⟨0, 0, C, P, rfl, by go_num, by go_num, by omega, (unhide HC).pos, hide ⟨unhide HC, (unhide HC).chn.root⟩⟩
    case round =>
    clear HC
    obtain ⟨j, n, C, P, rfl, rfl, rfl, hj, hn, HI⟩ := hrel
    have hjb : (j : Int) ≤ 1048576 := by omega
    by_cases hjl : j < t.length
    · as_aux_lemma =>
      have hl2 : (j : Int) < (t.length : Int) := by omega
      obtain ⟨gt, ot, rfl, hcr⟩ := row32 (unhide HTX _ (unhide HI).1.upd) hjl
      have hpre : t.take (j + 1) = t.take j ++ [t.getD j 0] := by rw [List.take_add_one, get_some hjl]; rfl
      obtain ⟨r, hr⟩ : ∃ r, r = t.getD j 0 := ⟨_, rfl⟩
      rw [← hr] at hpre hcr
      obtain ⟨x, hx⟩ : ∃ x, C[n]? = some x := ⟨_, List.getElem?_eq_getElem hn⟩
      have hcf := ((unhide HI).1.node hx).2.1
      have hnl : (n : Int) < (C.length : Int) := by omega
      have hle := (unhide HI).1.le
      have hnb : (C.length : Int) ≤ 2097152 := by
        have h1 := tot_le T k
        omega
      have HPR := hide hpre
      have HX := hide hx
      obtain ⟨ks, hks, hksn, hksm⟩ := (unhide HI).1.chn.kids n x _ hx (unhide HI).2
      have HKS := hide hks
      clear hr hpre hx hle hks hksn hksm
      go_wp2
      go_quiet (fail)
      all_goals go_wp2
      as_aux_lemma =>
      go_loopw [12, 13] (fun a b wr => ∃ (m : Nat) (dn td : List Nat), a = .int .i32 ((dn.getLast?.getD 0 : Nat) : Int) ∧ b = .int .i32 (m : Int) ∧ Hid (Cha w1 wr gc sz (T.take k) (t.take j) C P (1 + tot (T.take k) + j) ∧ P[n]? = some (t.take j) ∧ ks = dn ++ td ∧ Link C m td ∧ ∀ a ∈ dn, ∀ y, C[a]? = some y → y.c ≠ r)) (fun _ b _ => chainLen C (intOf b).toNat)
      case atStart => exact ⟨x.f, [], ks, rfl, rfl, hide ⟨(unhide HI).1.drewN _, (unhide HI).2, rfl, unhide HKS, by simp⟩⟩
      case round =>
      clear HI hcr hcf
      obtain ⟨m, dn, td, rfl, rfl, HJ⟩ := hrel
      by_cases hm0 : m = 0
      · as_aux_lemma =>
        have hmz : ((m : Int) == 0) = true := by rw [hm0]; rfl
        have hmn : ((m : Int) != 0) = false := by rw [bne, hmz]; rfl
        have hdn : ks = dn := by
          have h := (unhide HJ).2.2.2.1
          rw [hm0] at h
          cases h with
          | nil => have := (unhide HJ).2.2.1; simpa using this
          | cons hm => exact absurd rfl hm
        have HNO : Hid (∀ a ∈ ks, ∀ y, C[a]? = some y → y.c ≠ r) := hide (by rw [hdn]; exact (unhide HJ).2.2.2.2)
        have hbd : C.length + 1 ≤ sz := (unhide HJ).1.bound (unhide HTK) hjl (unhide HSZ)
        have HOW : Hid ((wr.alloc (.cells #[.int .i32 r, .int .i32 0, .int .i32 0] 78)).ownsRow w1.heap.size 78 3 (.slice (some ⟨gc, 0, none⟩) C.length sz) C.length (rowC C)) := hide ((unhide HJ).1.row.alloc _)
        have HCE : Hid (∀ (q : Nat) (u : Value), [Value.int .i32 r, .int .i32 0, .int .i32 0][q]? = some u → (wr.alloc (.cells #[.int .i32 r, .int .i32 0, .int .i32 0] 78)).cell? ((⟨wr.heap.size, 0, none⟩ : Addr).add q) = some u) := hide (fun q u hq => by
          rw [Addr.add_mid, Joins.cell_of_block (heap_alloc_new _ _)]
          simpa using hq)
        rw [← hdn]
        have hdl : Hid (ks = dn) := hide hdn
        clear hm0 hdn
        have HUP : Hid (∀ W, (wr.alloc (.cells #[.int .i32 r, .int .i32 0, .int .i32 0] 78)).grownBy W (some gc) → Upd (fun k => k = gc) w1 W) := hide (fun W h => ((unhide HJ).1.upd.alloc _).trans ((Upd.of_grown h).mono (fun i _ e => Option.some.inj e)))
        have HPN : Hid ((P ++ [t.take (j + 1)])[C.length]? = some (t.take (j + 1))) := hide (by rw [← (unhide HJ).1.chn.len]; simp)
        have hn3 : (n : Int) < (C.length : Int) + 1 := by omega
        cases hgl : ks.getLast? with
        | none =>
          simp only [Option.getD_none]
          have HGL := hide hgl
          clear hgl
          go_wp2_with (at_builtin; refine wpList_append_fits _ rfl (.tmp 73) (.tmp 76) 76 rfl w1.heap.size 78 i78 3 Try.underlying76 hi78 hs78 gc C.length sz (rowC C) rfl (unhide HOW) ⟨wr.heap.size, 0, none⟩ 1 1 [Value.int .i32 r, .int .i32 0, .int .i32 0] rfl rfl (unhide HCE) (three_one r 0 0) hbd ?_; intro w3 hrow3 hgr3; have HR3 := hide hrow3; have HG3 := hide hgr3; clear hrow3 hgr3; have hcx := own_cell3 (unhide HR3) (j := n * 3 + 1) (by rw [List.getElem?_append_left (by rw [rowC_len]; omega)]; exact (rowC_get (unhide HX)).2.1); have hfz := own_nf (unhide HR3) (n * 3 + 1))
          go_roundw
          case rel => exact ⟨j + 1, C.length, addC C n x ks r, P ++ [t.take (j + 1)], by rw [addC_len], rfl, by go_num, by omega, by rw [addC_len]; omega, hide ⟨Cha.addF (unhide HJ).1 (unhide HPR) (unhide HX) (unhide HJ).2.1 (unhide HKS) (unhide HNO) (unhide HGL) (unhide HR3) (unhide HUP _ (unhide HG3)), unhide HPN⟩⟩
          case measure => simp [intOf]; omega
        | some l =>
          simp only [Option.getD_some]
          obtain ⟨z, hz, _, hl0, _⟩ := (unhide HKS).last0 l hgl
          have HGL := hide hgl
          have HZ := hide hz
          have hll : l < C.length := (List.getElem?_eq_some_iff.1 hz).1
          have hl3 : (l : Int) < (C.length : Int) + 1 := by omega
          have hlz : ((l : Int) == 0) = false := beq_eq_false_iff_ne.2 (by omega)
          clear hgl hz hl0
          go_wp2_with (at_builtin; refine wpList_append_fits _ rfl (.tmp 73) (.tmp 76) 76 rfl w1.heap.size 78 i78 3 Try.underlying76 hi78 hs78 gc C.length sz (rowC C) rfl (unhide HOW) ⟨wr.heap.size, 0, none⟩ 1 1 [Value.int .i32 r, .int .i32 0, .int .i32 0] rfl rfl (unhide HCE) (three_one r 0 0) hbd ?_; intro w3 hrow3 hgr3; have HR3 := hide hrow3; have HG3 := hide hgr3; clear hrow3 hgr3; have hcx := own_cell3 (unhide HR3) (j := l * 3 + 2) (by rw [List.getElem?_append_left (by rw [rowC_len]; omega)]; exact (rowC_get (unhide HZ)).2.2); have hfz := own_nf (unhide HR3) (l * 3 + 2))
          go_roundw
          case rel => exact ⟨j + 1, C.length, addC C n x ks r, P ++ [t.take (j + 1)], by rw [addC_len], rfl, by go_num, by omega, by rw [addC_len]; omega, hide ⟨Cha.addS (unhide HJ).1 (unhide HPR) (unhide HX) (unhide HJ).2.1 (unhide HKS) (unhide HNO) (unhide HGL) (unhide HZ) (unhide HR3) (unhide HUP _ (unhide HG3)), unhide HPN⟩⟩
          case measure => simp [intOf]; omega
      as_aux_lemma =>
      obtain ⟨y, td2, hy, htd, hlk⟩ : ∃ y td2, C[m]? = some y ∧ td = m :: td2 ∧ Link C y.s td2 := by
        have h := (unhide HJ).2.2.2.1
        cases h with
        | nil => exact absurd rfl hm0
        | cons hm hy next => exact ⟨_, _, hy, rfl, next⟩
      have hcc := ((unhide HJ).1.node hy).1
      have hcs := ((unhide HJ).1.node hy).2.2
      have hml : m < C.length := (List.getElem?_eq_some_iff.1 hy).1
      have hmi : (m : Int) < (C.length : Int) := by omega
      have hmz : ((m : Int) == 0) = false := beq_eq_false_iff_ne.2 (by omega)
      have hmz2 : ((m : Int) != 0) = true := by rw [bne, hmz]; rfl
      have HY := hide (And.intro hy (And.intro htd hlk))
      clear hy htd hlk
      by_cases hyr : y.c = r
      · as_aux_lemma =>
        have HYR := hide hyr
        rw [hyr] at hcc
        clear hyr
        have HP2 : Hid (P[m]? = some (t.take (j + 1))) := hide (by
          have h := (unhide HJ).1.chn.child (unhide HX) (unhide HJ).2.1 (unhide HKS) (m := m) (by rw [(unhide HJ).2.2.1, (unhide HY).2.1]; simp) (unhide HY).1
          rw [h, unhide HYR, unhide HPR])
        go_wp2
        go_roundw
        case rel => exact ⟨j + 1, m, C, P, rfl, rfl, by go_num, by omega, hml, hide ⟨(unhide HJ).1.found (unhide HPR) (List.mem_of_getElem? (unhide HP2)), unhide HP2⟩⟩
        case measure => simp [intOf]; omega
      as_aux_lemma =>
      have hyb : (y.c == r) = false := beq_eq_false_iff_ne.2 hyr
      have hyb2 : (y.c != r) = true := by rw [bne, hyb]; rfl
      have HYR := hide hyr
      clear hyr
      go_wp2
      go_quiet (fail)
      all_goals go_wp2
      go_roundw
      case rel => exact ⟨y.s, dn ++ [m], td2, by simp, rfl, hide ⟨(unhide HJ).1.drewN _, (unhide HJ).2.1, by rw [(unhide HJ).2.2.1, (unhide HY).2.1]; simp, (unhide HY).2.2, fun a ha z hz => by
        rcases List.mem_append.1 ha with h | h
        · exact (unhide HJ).2.2.2.2 a h z hz
        · rw [List.mem_singleton.1 h, (unhide HY).1] at hz
          rw [← Option.some.inj hz]
          exact unhide HYR⟩⟩
      case measure =>
        have e1 := chainLen_eq (unhide HY).2.2
        have e2 := chainLen_eq (unhide HJ).2.2.2.1
        rw [(unhide HY).2.1] at e2
        simp [intOf, e1, e2]
    as_aux_lemma =>
    have hl2 : ¬ (j : Int) < (t.length : Int) := by omega
    obtain rfl : j = t.length := by omega
    have HCN : Hid (Cha w1 wr gc sz (T.take (k + 1)) [] C P (1 + tot (T.take (k + 1)))) := hide (Cha.next (by have h := (unhide HI).1; rw [List.take_length] at h; exact h) (unhide HTK))
    clear HI hjl hj
    go_wp2
    go_roundw
    case rel => exact ⟨k + 1, C, P, rfl, by go_num, by omega, HCN⟩
    case measure => simp [intOf]; omega
  skip
  have hl : ¬ (k : Int) < (T.length : Int) := by omega
  obtain rfl : k = T.length := by omega
  have HC2 : Hid (Cha w1 wr gc sz T [] C P (1 + tot T)) := hide (by have h := unhide HC; rw [List.take_length] at h; exact h)
  have bC : (C.length : Int) ≤ 2097152 := by have := (unhide HC2).le; omega
  have pC := (unhide HC2).pos
  obtain ⟨i68, hi68, hz68, hs68, hby68⟩ := info_parts info68
  clear hk hkl HC hkb
  go_wp2_with (at_make; refine wpList_make_two _ rfl (.const (.int .i64 1)) (.tmp 94) 63 rfl 68 i68 _ 3 Try.underlying63 hi68 hz68 hs68 .i64 .i64 1 C.length rfl rfl (by omega) (by rw [hby68]; omega) (by unfold maxLen; omega) _ (made3 C.length) ?_)
  have HL := hide (Lay.start (unhide HC2) (unhide HGC) (by unfold maxLen; omega))
  obtain ⟨gn, hgn⟩ : ∃ gn, gn = wr.heap.size := ⟨_, rfl⟩
  have HGW : Hid (w1.heap.size ≤ gn) := hide (by rw [hgn]; exact (unhide HC2).upd.size)
  rw [← hgn] at HL ⊢
  have hLs := Upto.lists (unhide HC2).upto (unhide HC2).chn
  have HLS := hide hLs
  have HCH := hide (unhide HC2).chn
  clear hgn hLs HC2 hi78 hz78 hs78 hby78
  skip
  go_loopw [15, 16] (fun v i w5 => ∃ (k : Nat) (Qs : List Path) (fs : List (Nat × Nat)) (KL : List Nat) (xl : Option Addr) (cl : Nat), v = .slice xl KL.length cl ∧ i = .int .i64 (k : Int) ∧ k ≤ Qs.length ∧ Qs.length ≤ C.length ∧ KL.length = Qs.length ∧ Hid (Lay w1 w5 gc sz gn (gn + 1) T C P k Qs fs KL (.slice xl KL.length cl))) (fun _ i _ => C.length - (intOf i).toNat)
  case atStart => exact ⟨0, [[]], [], [0], _, _, rfl, by go_num, by simp, by simp; omega, rfl, HL⟩
  case round =>
  clear HL
  rename World => w5
  obtain ⟨k, Qs, fs, KL, xl, cl, rfl, rfl, hk, hQ, hKl, HL⟩ := hrel
  have hkb : (k : Int) ≤ 2097152 := by omega
  have hQb : (Qs.length : Int) ≤ 2097152 := by omega
  by_cases hkl : k < Qs.length
  · skip
    have hl : (k : Int) < (KL.length : Int) := by omega
    obtain ⟨q, hq⟩ : ∃ q, Qs[k]? = some q := ⟨_, List.getElem?_eq_getElem hkl⟩
    obtain ⟨c, hc⟩ : ∃ c, KL[k]? = some c := ⟨_, List.getElem?_eq_getElem (by omega)⟩
    have hp := (unhide HL).same k c q hc hq
    have hcl : c < C.length := by have := (List.getElem?_eq_some_iff.1 hp).1; rw [(unhide HCH).len] at this; exact this
    obtain ⟨x, hx⟩ : ∃ x, C[c]? = some x := ⟨_, List.getElem?_eq_getElem hcl⟩
    obtain ⟨ks, hks, hksn, hksm⟩ := (unhide HCH).kids c x q hx hp
    have hcb : (c : Int) < (C.length : Int) := by omega
    have hcf := own_cell3 (unhide HL).chain (rowC_get hx).2.1
    have hbt : w5.cell? ⟨gn + 1, 0, none⟩ = some (.slice (some ⟨gn, 0, none⟩) Qs.length C.length) := by rw [Joins.cell_of_block (unhide HL).cell]; rfl
    obtain ⟨gl, ol, rfl, hcl1⟩ := row32 (own_inV (unhide HL).laid) (k := k) (by simp; omega)
    have hcl2 : (KL.map Int.ofNat).getD k 0 = (c : Int) := by simp [hc]
    rw [hcl2] at hcl1
    have HQ := hide (And.intro hq (And.intro hc (And.intro hp (And.intro hx (And.intro hks hksn)))))
    have HKL := hide hKl
    clear hq hc hp hx hks hksn hksm hcl hcl2 hKl
    go_wp2
    have hroom := (unhide HL).room0 (unhide HCH) (unhide HLS) (unhide HQ).1 (unhide HQ).2.2.2.1 (unhide HQ).2.2.1 (unhide HQ).2.2.2.2.1
    clear hcf hbt hcl1
    skip
    go_loopw [18] (fun v w6 => ∃ (m : Nat) (dn td : List Nat), v = .int .i32 (m : Int) ∧ dn.length + td.length = ks.length ∧ Hid (Kid w1 w6 gc sz gn (gn + 1) C Qs fs KL (.slice (some ⟨gl, ol, none⟩) KL.length cl) dn ∧ ks = dn ++ td ∧ Link C m td)) (fun b _ => chainLen C (intOf b).toNat)
    case atStart => exact ⟨x.f, [], ks, rfl, by simp, hide ⟨(unhide HL).kid, rfl, (unhide HQ).2.2.2.2.1⟩⟩
    case round =>
    rename World => w6
    obtain ⟨m, dn, td, rfl, hdt, HK⟩ := hrel
    by_cases hm0 : m = 0
    · as_aux_lemma =>
      have hdn : ks = dn := by
        have h := (unhide HK).2.2
        rw [hm0] at h
        cases h with
        | nil => have := (unhide HK).2.1; simpa using this
        | cons hm => exact absurd rfl hm
      have HK2 : Hid (Kid w1 w6 gc sz gn (gn + 1) C Qs fs KL (.slice (some ⟨gl, ol, none⟩) KL.length cl) ks) := hide (by rw [hdn]; exact (unhide HK).1)
      have hmz : ((m : Int) == 0) = true := by rw [hm0]; rfl
      have hmn : ((m : Int) != 0) = false := by rw [bne, hmz]; rfl
      have hbt : w6.cell? ⟨gn + 1, 0, none⟩ = some (.slice (some ⟨gn, 0, none⟩) (Qs.length + ks.length) C.length) := by rw [Joins.cell_of_block (unhide HK2).cell]; rfl
      have hsl : (Qs.length : Int) ≤ (Qs.length : Int) + (ks.length : Int) := by omega
      have hkn : (ks.length : Int) ≤ 2097152 := by omega
      clear hdn hm0 hdt HK
      go_wp2_with (refine wpList_slice_from _ rfl (.tmp 136) (.tmp 137) 63 rfl 3 under63 size63 gn (Qs.length + ks.length) C.length Qs.length .i32 rfl rfl (by omega) ?_; intro off hoff; have HOF := hide hoff; clear hoff; rw [Nat.add_sub_cancel_left])
      have H31 := hide (sort_kids (unhide HK2) off (C.length - Qs.length) (by
        rcases unhide HOF with h | h
        · exact .inl h
        · exact .inr (List.eq_nil_of_length_eq_zero (by omega))) (by omega))
      have HOF2 : Hid (0 < ks.length → off = Qs.length * 3) := hide (by
        intro h0
        rcases unhide HOF with h | h
        · exact h
        · omega)
      clear HOF
      refine (unhide H31).mono ?_
      rintro r w7 ⟨rfl, l, hl1, hl2, hsb⟩
      have HP := hide (And.intro hl1 hl2)
      have HS := hide hsb
      clear hl1 hl2 hsb H31 HK2 hbt
      as_aux_lemma =>
      dsimp only
      go_wp2
      obtain ⟨i21, hi21, hz21, hs21, hby21⟩ := info_parts info21
      as_aux_lemma =>
      go_loopw [15, 20, 143] (fun v a i wr => ∃ (j : Nat) (xl : Option Addr) (cl : Nat), v = .slice xl (KL.length + j) cl ∧ i = .int .i64 (j : Int) ∧ j ≤ ks.length ∧ Hid (Sib w1 wr gc sz gn (gn + 1) C Qs fs KL ks.length l j (.slice xl (KL.length + j) cl))) (fun _ _ i _ => ks.length - (intOf i).toNat)
      case atStart => exact ⟨0, _, _, rfl, by go_num, by omega, HS⟩
      case round =>
      rename World => w8
      clear HS
      obtain ⟨j, xl, cl2, rfl, rfl, hj, HS⟩ := hrel
      have hjb : (j : Int) ≤ 2097152 := by omega
      by_cases hjl : j < ks.length
      · as_aux_lemma =>
        have hl : (j : Int) < (ks.length : Int) := by omega
        obtain ⟨a, ha⟩ : ∃ a, l[j]? = some a := ⟨_, List.getElem?_eq_getElem (by rw [(unhide HS).len]; exact hjl)⟩
        have hck := (unhide HS).kid ha
        have hof := unhide HOF2 (by omega)
        have hca : w8.cell? ⟨gn, off + j * 3 + 1, none⟩ = some (.int .i32 (a.2 : Int)) := by rw [hof, Nat.add_assoc]; exact hck
        have HA := hide ha
        clear hck hof ha
        have hKb : KL.length ≤ 2097152 := by have := unhide HKL; omega
        have hwb : w1.heap.size ≤ w8.heap.size := (unhide HS).upd.size
        go_wp2_with (at_builtin; refine wpList_append_own_at _ rfl (.tmp 146) (.tmp 152) 24 rfl w1.heap.size 21 i21 (.int .i32 0) 1 4 Try.underlying24 hi21 hz21 hs21 hby21 rfl (by decide) (.slice xl (KL.length + j) cl2) (KL.length + j) (I32 ((KL ++ (l.take j).map Prod.snd).map Int.ofNat)) rfl ((unhide HS).laid.alloc _) ⟨w8.heap.size, 0, none⟩ 1 1 [.int .i32 (a.2 : Int)] rfl rfl (cell_one_new _ _ _) (by intro u hu; rw [List.mem_singleton.1 hu]; rfl) (by unfold maxLen; omega) (by omega) (by simp; omega) ?_; intro v2 w9 ho9 hg9 hn9 hb9; have HS9 := hide ((unhide HS).next (unhide HA) (Upd.trans (((Upd.refl _ _).alloc _)) ((Upd.of_grown hg9))) ho9); obtain ⟨gv, cv, rfl⟩ := own_form ho9 (by omega); clear ho9 hg9 hn9 hb9)
        go_roundw
        case rel => exact ⟨j + 1, _, _, rfl, by go_num, by omega, HS9⟩
        case measure => simp [intOf]; omega
      as_aux_lemma =>
      have hl : ¬ (j : Int) < (ks.length : Int) := by omega
      obtain rfl : j = ks.length := by omega
      have hbt : w8.cell? ⟨gn + 1, 0, none⟩ = some (.slice (some ⟨gn, 0, none⟩) (Qs.length + ks.length) C.length) := by rw [Joins.cell_of_block (unhide HS).cell]; rfl
      have hkq : (k : Int) < (Qs.length : Int) + (ks.length : Int) := by omega
      obtain ⟨z, hz⟩ : ∃ z, (mid Qs fs KL ++ up3 l)[k]? = some z := ⟨_, List.getElem?_eq_getElem (by rw [List.length_append, mid_len]; omega)⟩
      have hc1 := own_cell3 (unhide HS).nodes (flat_get _ k 1 z hz (by omega))
      have hc2 := own_cell3 (unhide HS).nodes (flat_get _ k 2 z hz (by omega))
      have hf1 := own_nf (unhide HS).nodes (k * 3 + 1)
      have hf2 := own_nf (unhide HS).nodes (k * 3 + 2)
      have HZ := hide hz
      clear hz hj hjl
      as_aux_lemma =>
      go_wp2
      go_region
      all_goals go_wp2
      go_roundw
      case rel =>
        have hn := (unhide HS).len
        have eK : KL.length + ks.length = (KL ++ l.map Prod.snd).length := by rw [List.length_append, List.length_map, hn]
        have eQ : (Qs ++ (l.map Prod.fst).map (fun r => q ++ [r])).length = Qs.length + ks.length := by simp [hn]
        have hst := (unhide HS).store (unhide HQ).1
        have hly := (unhide HS).done (unhide HL).bfs (unhide HKL) (unhide HL).same (unhide HCH) (unhide HLS) (unhide HQ).1 (unhide HQ).2.2.2.1 (unhide HQ).2.2.1 (unhide HQ).2.2.2.2.1 (unhide HP).1 (unhide HP).2 hst.1 hst.2
        rw [eK] at hly ⊢
        exact ⟨k + 1, _, _, _, xl, cl2, rfl, by go_num, by rw [eQ]; omega, by rw [eQ]; exact hroom, hly.lenK, hide hly⟩
      case measure => simp [intOf]; omega
    skip
    obtain ⟨y, td2, hy, htd, hlk⟩ : ∃ y td2, C[m]? = some y ∧ td = m :: td2 ∧ Link C y.s td2 := by
      have h := (unhide HK).2.2
      cases h with
      | nil => exact absurd rfl hm0
      | cons hm hy next => exact ⟨_, _, hy, rfl, next⟩
    have hcc := own_cell3 (unhide HK).1.chain (rowC_get hy).1
    have hcs := own_cell3 (unhide HK).1.chain (rowC_get hy).2.2
    have hml : m < C.length := (List.getElem?_eq_some_iff.1 hy).1
    have hmi : (m : Int) < (C.length : Int) := by omega
    have hmz : ((m : Int) == 0) = false := beq_eq_false_iff_ne.2 (by omega)
    have hmz2 : ((m : Int) != 0) = true := by rw [bne, hmz]; rfl
    have hbt : w6.cell? ⟨gn + 1, 0, none⟩ = some (.slice (some ⟨gn, 0, none⟩) (Qs.length + dn.length) C.length) := by rw [Joins.cell_of_block (unhide HK).1.cell]; rfl
    have hfit : Qs.length + dn.length + 1 ≤ C.length := by rw [htd] at hdt; simp at hdt; omega
    have HY := hide (And.intro hy (And.intro htd hlk))
    have HOW : Hid ((w6.alloc (.cells #[.int .i32 y.c, .int .i32 (m : Int), .int .i32 0] 68)).ownsRow w1.heap.size 68 3 (.slice (some ⟨gn, 0, none⟩) (Qs.length + dn.length) C.length) (Qs.length + dn.length) (flat (mid Qs fs KL ++ up3 (pairs C dn)))) := hide ((unhide HK).1.nodes.alloc _)
    have HCE : Hid (∀ (q : Nat) (u : Value), [Value.int .i32 y.c, .int .i32 (m : Int), .int .i32 0][q]? = some u → (w6.alloc (.cells #[.int .i32 y.c, .int .i32 (m : Int), .int .i32 0] 68)).cell? ((⟨w6.heap.size, 0, none⟩ : Addr).add q) = some u) := hide (fun q u hq => by
      rw [Addr.add_mid, Joins.cell_of_block (heap_alloc_new _ _)]
      simpa using hq)
    have hbl : gn + 1 < w6.heap.size := (Array.getElem?_eq_some_iff.1 (unhide HK).1.cell).1
    have HDT := hide hdt
    clear hy htd hlk hdt hm0 hcs
    go_wp2
    go_region_law (refine step_append_fits rfl (.tmp 124) (.tmp 132) 63 rfl w1.heap.size 68 i68 3 Try.underlying63 hi68 hs68 gn (Qs.length + dn.length) C.length (flat (mid Qs fs KL ++ up3 (pairs C dn))) rfl (unhide HOW) ⟨w6.heap.size, 0, none⟩ 1 1 [Value.int .i32 y.c, .int .i32 (m : Int), .int .i32 0] rfl rfl (unhide HCE) (three_one _ _ _) hfit ?_; intro w3 hr3 hg3; have b3 : w3.heap[gn + 1]? = some (.cells #[.slice (some ⟨gn, 0, none⟩) (Qs.length + dn.length) C.length] 65 (0, 0)) := (hg3.block (gn + 1) (by simp; omega) (by simp)).trans ((Below.heap_alloc w6 _ (gn + 1) hbl).trans (unhide HK).1.cell); have d3 : w3.cell? ⟨gn + 1, 0, none⟩ = some (.slice (some ⟨gn, 0, none⟩) (Qs.length + dn.length) C.length) := Joins.cell_of_block b3 0; have f3 : w3.frozen? ⟨gn + 1, 0, none⟩ = false := Joins.unfrozen_of_block b3 0; have K3 := (unhide HK).1.add (w2 := w3) (by have := unhide HGW; omega) (unhide HY).1 ((((Upd.refl _ _).alloc _).drew).trans ((Upd.of_grown hg3).mono (fun i _ e => Option.some.inj e))) hr3; have hcs3 := own_cell3 K3.chain (rowC_get (unhide HY).1).2.2; have HK3 := hide K3; clear b3 K3 hr3 hg3)
    all_goals go_wp2
    all_goals go_roundw
    all_goals first
      | exact ⟨y.s, dn ++ [m], td2, rfl, by have := unhide HDT; rw [(unhide HY).2.1] at this; simp at this ⊢; omega, hide ⟨unhide HK3, by rw [(unhide HK).2.1, (unhide HY).2.1]; simp, (unhide HY).2.2⟩⟩
      | (have e1 := chainLen_eq (unhide HY).2.2; have e2 := chainLen_eq (unhide HK).2.2; rw [(unhide HY).2.1] at e2; simp [intOf, e1, e2])
  as_aux_lemma =>
  have hl : ¬ (k : Int) < (KL.length : Int) := by omega
  have HB5 : Hid (Bfs (Starts T) Qs.length Qs fs) := hide (by have h := (unhide HL).bfs; rw [show k = Qs.length by omega] at h; exact h)
  have hbt : w5.cell? ⟨gn + 1, 0, none⟩ = some (.slice (some ⟨gn, 0, none⟩) Qs.length C.length) := by rw [Joins.cell_of_block (unhide HL).cell]; rfl
  have hb0 : w5.heap[w.heap.size]? = some (.cells #[.slice none 0 0] 65 (0, 0)) := by
    rw [(unhide HL).upd.block w.heap.size (by rw [← unhide HW1]; simp) (fun h => h), ← unhide HW1]
    exact heap_alloc_new w _
  have hr0 : w5.cell? ⟨w.heap.size, 0, none⟩ = some (.slice none 0 0) := by rw [Joins.cell_of_block hb0]; rfl
  have hrf : w5.frozen? ⟨w.heap.size, 0, none⟩ = false := Joins.unfrozen_of_block hb0 0
  have HB0 := hide hb0
  have HKL := hide hKl
  clear hb0 hKl hk hkl hkb
  go_wp2
  have hgn := unhide HGW
  have hw1s : w1.heap.size = w.heap.size + 1 := by rw [← unhide HW1]; simp
  have hset : (w5.setCell ⟨w.heap.size, 0, none⟩ (.slice (some ⟨gn, 0, none⟩) Qs.length C.length)).heap[w.heap.size]? = some (.cells #[.slice (some ⟨gn, 0, none⟩) Qs.length C.length] 65 (0, 0)) := by
    rw [Go.heap_setCell_same w5 w.heap.size 0 _ 65 _ (unhide HB0)]
    rfl
  have hlen : (whole Qs fs).length = Qs.length := by simp [whole]
  (try simp only [Exit.inBlock, Exit.then])
  refine bodyPost_ret (results_cell_row (P := Try.prog) rfl _ _ w.heap.size 65 _ (0, 0) _ rfl hset Try.underlying65 rfl size65) rfl ?_
  refine ⟨gn, C.length, Qs, fs, by rw [hlen], fun j y hy => ?_, unhide HB5, by omega, ?_⟩
  · have hrow := own_row_step (unhide HL).nodes ((Upd.refl (fun k => k = w.heap.size) w5).setCell ⟨w.heap.size, 0, none⟩ (.slice (some ⟨gn, 0, none⟩) Qs.length C.length) (.inl rfl)) (fun g hg e => by
      simp [Value.ownBlock] at hg
      omega)
    rw [mid_whole (unhide HB5).ok.len] at hrow
    have hy2 : ((whole Qs fs).map (fun x : Nd => ((x.1, (x.2.1 : Int), (x.2.2 : Int)) : Int × Int × Int)))[j]? = some (y.1, (y.2.1 : Int), (y.2.2 : Int)) := by rw [List.getElem?_map, hy]; rfl
    exact ⟨own_cell3 hrow (flat_get _ j 0 _ hy2 (by omega)), own_cell3 hrow (flat_get _ j 1 _ hy2 (by omega)), own_cell3 hrow (flat_get _ j 2 _ hy2 (by omega))⟩
  · exact Upd.setCell ((unhide HU1).trans (unhide HL).upd) _ _ (.inr (by simp))
end Go.Proofs.Qxb6608903a
