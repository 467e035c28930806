/-
  MediaType: the walks. At v, w <= 2 no call of fmt is on the road.
-/
import Derived.Test.Qxb6614154aFmtCards
import Derived.WalkKit
import Derived.ProofKit
import Derived.Outline
import Derived.LoopTactic
import Derived.WalkSpells
import Derived.Deep.QuietTactic
import Derived.BigQuiet
import Derived.Deep.RegionWith
namespace Go.Proofs.Qxb6614154aFmt
open Go.ChangeShapes Go.WideShapes Go.ChangeAt Go.RowKit

theorem hide {p : Prop} (h : p) : Hid p := h
theorem unhide {p : Prop} (h : Hid p) : p := h

/-! the three names -/
def n0 : ByteArray := ⟨#[72, 50, 54, 51, 45, 49, 57, 57, 56]⟩
def n1 : ByteArray := ⟨#[72, 50, 54, 51, 45, 50, 48, 48, 48]⟩
def n2 : ByteArray := ⟨#[72, 50, 54, 51]⟩
def vid : ByteArray := ⟨#[118, 105, 100, 101, 111, 47]⟩
theorem st0 (w : World) : Calls Tryf.prog 9 #[.int .u8 0] w fun e w' => e = .returned (.string n0) ∧ w' = w := by
  go_enter Tryf.func9, Tryf.ntmps9
  go_wp2
  go_ret
  exact ⟨rfl, rfl⟩
theorem st1 (w : World) : Calls Tryf.prog 9 #[.int .u8 1] w fun e w' => e = .returned (.string n1) ∧ w' = w := by
  go_enter Tryf.func9, Tryf.ntmps9
  go_wp2
  go_ret
  exact ⟨rfl, rfl⟩
theorem st2 (w : World) : Calls Tryf.prog 9 #[.int .u8 2] w fun e w' => e = .returned (.string n2) ∧ w' = w := by
  go_enter Tryf.func9, Tryf.ntmps9
  go_wp2
  go_ret
  exact ⟨rfl, rfl⟩

theorem mty (v : Int) (n : ByteArray) (w : World) (hn : n.size ≤ 1000) (h : ∀ W, Calls Tryf.prog 9 #[.int .u8 v] W fun e w' => e = .returned (.string n) ∧ w' = W) :
    Calls Tryf.prog 7 #[.int .u8 v] w fun e w' => e = .returned (.string (vid ++ n)) ∧ w' = w := by
  have H := hide h
  clear h
  have hadd : ∀ W, (Op.stringOp .add ⟨#[118, 105, 100, 101, 111, 47]⟩ n).run Tryf.prog W = .ok (.string (vid ++ n)) W := fun W => run_string_add_sum W _ n (by have : (⟨#[118, 105, 100, 101, 111, 47]⟩ : ByteArray).size = 6 := rfl; omega)
  go_enter Tryf.func7, Tryf.ntmps7
  go_wp2_with (go_at_call 9; refine (unhide H _).mono ?_; rintro e w' ⟨rfl, rfl⟩)
  go_ret
  exact ⟨rfl, rfl⟩
theorem zmty (v : Int) (n : ByteArray) (w : World) (hn : n.size ≤ 1000) (h : ∀ W, Calls Tryf.prog 9 #[.int .u8 v] W fun e w' => e = .returned (.string n) ∧ w' = W) :
    Calls Tryf.prog 4 #[.int .u8 v] w fun e w' => e = .returned (.string (vid ++ n)) ∧ w' = w := by
  have H := hide (fun W => mty v n W hn h)
  clear h
  go_enter Tryf.func4, Tryf.ntmps4
  go_wp2_with (go_at_call 7; refine (unhide H _).mono ?_; rintro e w' ⟨rfl, rfl⟩)
  go_ret
  exact ⟨rfl, rfl⟩

theorem pre_any (s p : ByteArray) (w : World) (_hs : s.size ≤ maxLen) (_hp : p.size ≤ maxLen) (h : p.size ≤ s.size) : Calls Tryf.prog 5 #[.string s, .string p] w fun e w' => e = .returned (.bool ((s.extract 0 p.size).toList == p.toList)) ∧ w' = w := by
  unfold maxLen at *
  have h' : (p.size : Int) ≤ s.size := by omega
  go_enter Tryf.func5, Tryf.ntmps5
  go_wp2
  go_ret
  exact ⟨rfl, rfl⟩

def lowI (c : Int) : Int := if 65 ≤ c ∧ c ≤ 90 then c + 32 else c
theorem low_any (c : Int) (w : World) (h0 : 0 ≤ c) (h1 : c ≤ 255) : Calls Tryf.prog 8 #[.int .u8 c] w fun e w' => e = .returned (.int .u8 (lowI c)) ∧ w' = w := by
  by_cases ha : 65 ≤ c
  · by_cases hb : c ≤ 90
    · have e : lowI c = c + 32 := by simp [lowI, ha, hb]
      rw [e]; clear e
      go_enter Tryf.func8, Tryf.ntmps8
      go_wp2
      go_ret
      exact ⟨rfl, rfl⟩
    · have e : lowI c = c := by simp [lowI, hb]
      rw [e]; clear e
      go_enter Tryf.func8, Tryf.ntmps8
      go_wp2
      go_ret
      exact ⟨rfl, rfl⟩
  · have e : lowI c = c := by simp [lowI, ha]
    rw [e]; clear e
    go_enter Tryf.func8, Tryf.ntmps8
    go_wp2
    go_ret
    exact ⟨rfl, rfl⟩

theorem low_u8 (u : UInt8) (w : World) : Calls Tryf.prog 8 #[.int .u8 (u.toNat : Int)] w fun e w' => e = .returned (.int .u8 (lowI (u.toNat : Int))) ∧ w' = w :=
  low_any _ w (by omega) (by have := u.toNat_lt; omega)

/-- the two bytes at i agree but for ASCII case -/
def sameAtB (a b : ByteArray) (i : Nat) : Bool := lowI (a[i]!.toNat : Int) == lowI (b[i]!.toNat : Int)
def foldB (a b : ByteArray) : Bool := a.size == b.size && (List.range a.size).all (sameAtB a b)

theorem same_of (a b : ByteArray) (k : Nat) (ha : k < a.size) (hb : k < b.size) : (lowI (a[k].toNat : Int) != lowI (b[k].toNat : Int)) = !sameAtB a b k := by
  unfold sameAtB
  rw [getElem!_pos a k ha, getElem!_pos b k hb]
  rfl

theorem fold_no {a b : ByteArray} {k : Nat} (hk : k < a.size) (h : sameAtB a b k = false) : foldB a b = false := by
  unfold foldB
  rw [Bool.and_eq_false_iff]
  right
  rw [List.all_eq_false]
  exact ⟨k, by simpa using hk, by simp [h]⟩
theorem fold_yes {a b : ByteArray} (hs : a.size = b.size) (h : ∀ j, j < a.size → sameAtB a b j = true) : foldB a b = true := by
  unfold foldB
  rw [Bool.and_eq_true]
  refine ⟨by simp [hs], ?_⟩
  rw [List.all_eq_true]
  intro j hj
  exact h j (by simpa using hj)
theorem fold_len {a b : ByteArray} (h : ¬ a.size = b.size) : foldB a b = false := by
  unfold foldB; simp [h]
theorem ret_bool {a b : Bool} (h : a = b) : Ending.returned (.bool a) = .returned (.bool b) := by rw [h]

set_option maxHeartbeats 1000000 in
theorem fold_any (a b : ByteArray) (w : World) (_ha : a.size ≤ maxLen) (_hb : b.size ≤ maxLen) :
    Calls Tryf.prog 6 #[.string a, .string b] w fun e w' => e = .returned (.bool (foldB a b)) ∧ ∃ n, w' = w.drewN n := by
  unfold maxLen at *
  cases hne : ((a.size : Int) != (b.size : Int))
  · have HS : Hid (a.size = b.size) := by simp at hne; show a.size = b.size; omega
    go_enter Tryf.func6, Tryf.ntmps6
    go_wp2
    go_loopw [5] (fun i wr => ∃ k n : Nat, k ≤ a.size ∧ i = .int .i64 k ∧ Hid (∀ j, j < k → sameAtB a b j = true) ∧ wr = w.drewN n) (fun i _ => a.size - (intOf i).toNat)
    case atStart => exact ⟨0, 0, Nat.zero_le _, rfl, (fun j hj => by omega : ∀ j, j < 0 → sameAtB a b j = true), rfl⟩
    case round =>
      obtain ⟨k, n, hk, rfl, hall, rfl⟩ := hrel
      by_cases hlt : k < a.size
      · have hlt2 : k < b.size := by have := HS.out; omega
        have hl : (k : Int) < (a.size : Int) := by omega
        have hl2 : (k : Int) < (b.size : Int) := by omega
        have hc := same_of a b k hlt hlt2
        cases hv : sameAtB a b k
        · rw [hv] at hc
          have HF := hide (fold_no hlt hv)
          clear hv
          go_wp2
          go_region_with (go_at_call 8; refine (low_u8 _ _).mono ?_; rintro e w' ⟨rfl, rfl⟩)
          all_goals go_wp2
          all_goals go_ret
          all_goals exact ⟨ret_bool (unhide HF).symm, n + 1, rfl⟩
        · rw [hv] at hc
          have HA : Hid (∀ j, j < k + 1 → sameAtB a b j = true) := fun j hj => by
            by_cases e : j = k
            · rw [e]; exact hv
            · exact unhide hall j (by omega)
          clear hv
          go_wp2
          go_region_with (go_at_call 8; refine (low_u8 _ _).mono ?_; rintro e w' ⟨rfl, rfl⟩)
          all_goals go_wp2
          all_goals
            go_roundw
            case rel => exact ⟨k + 1, n + 1, by omega, by go_num, HA, rfl⟩
            case measure => simp [intOf]; omega
      · have HF := hide (fold_yes HS.out (fun j hj => unhide hall j (by omega)))
        go_wp2
        go_ret
        exact ⟨ret_bool (unhide HF).symm, n, rfl⟩
  · have HF := hide (fold_len (a := a) (b := b) (by simp at hne; omega))
    go_enter Tryf.func6, Tryf.ntmps6
    go_wp2
    go_ret
    exact ⟨ret_bool (unhide HF).symm, 0, rfl⟩

set_option maxHeartbeats 1000000 in
/-- the law at two versions out of three -/
theorem law_pair (v u : Int) (nv nu : ByteArray) (w : World) (hv : ¬ 2 < v) (hu : ¬ 2 < u)
    (cv : ∀ W, Calls Tryf.prog 9 #[.int .u8 v] W fun e w' => e = .returned (.string nv) ∧ w' = W) (cu : ∀ W, Calls Tryf.prog 9 #[.int .u8 u] W fun e w' => e = .returned (.string nu) ∧ w' = W)
    (sv : nv.size ≤ 1000) (su : nu.size ≤ 1000) (bv : (vid ++ nv).size ≤ 1000) (bu : (vid ++ nu).size ≤ 1000) (gv : 10 ≤ (vid ++ nv).size) (gu : 10 ≤ (vid ++ nu).size)
    (pv : (((vid ++ nv).extract 0 10).toList == [118, 105, 100, 101, 111, 47, 72, 50, 54, 51]) = true) (pu : (((vid ++ nu).extract 0 10).toList == [118, 105, 100, 101, 111, 47, 72, 50, 54, 51]) = true)
    (hf : foldB (vid ++ nv) (vid ++ nu) = (v == u)) :
    Calls Tryf.prog 3 #[.int .u8 v, .int .u8 u] w fun e w' => e = .returned (.bool true) ∧ ∃ n, w' = w.drewN n := by
  have Zv := hide (fun W => zmty v nv W sv cv)
  have Zu := hide (fun W => zmty u nu W su cu)
  generalize vid ++ nv = X at *
  generalize vid ++ nu = Y at *
  have px : ((⟨#[118, 105, 100, 101, 111, 47, 72, 50, 54, 51]⟩ : ByteArray)).toList = [118, 105, 100, 101, 111, 47, 72, 50, 54, 51] := by simp [ByteArray.toList_eq]
  have ps : ((⟨#[118, 105, 100, 101, 111, 47, 72, 50, 54, 51]⟩ : ByteArray)).size = 10 := rfl
  have Pv : Hid (∀ W, Calls Tryf.prog 5 #[.string X, .string ⟨#[118, 105, 100, 101, 111, 47, 72, 50, 54, 51]⟩] W fun e w' => e = .returned (.bool true) ∧ w' = W) := fun W => by
    have := pre_any X ⟨#[118, 105, 100, 101, 111, 47, 72, 50, 54, 51]⟩ W (by unfold maxLen; omega) (by unfold maxLen; omega) (by omega)
    rw [ps, px, pv] at this; exact this
  have Pu : Hid (∀ W, Calls Tryf.prog 5 #[.string Y, .string ⟨#[118, 105, 100, 101, 111, 47, 72, 50, 54, 51]⟩] W fun e w' => e = .returned (.bool true) ∧ w' = W) := fun W => by
    have := pre_any Y ⟨#[118, 105, 100, 101, 111, 47, 72, 50, 54, 51]⟩ W (by unfold maxLen; omega) (by unfold maxLen; omega) (by omega)
    rw [ps, px, pu] at this; exact this
  have Fo : Hid (∀ W, Calls Tryf.prog 6 #[.string X, .string Y] W fun e w' => e = .returned (.bool (v == u)) ∧ ∃ n, w' = W.drewN n) := fun W => by
    have := fold_any X Y W (by unfold maxLen; omega) (by unfold maxLen; omega)
    rw [hf] at this; exact this
  clear px ps pv pu hf cv cu sv su bv bu gv gu
  go_enter Tryf.func3, Tryf.ntmps3
  go_wp2_with fail
  refine (unhide Zv _).mono ?_
  rintro e w' ⟨rfl, rfl⟩
  go_wp2_with fail
  refine (unhide Zu _).mono ?_
  rintro e w' ⟨rfl, rfl⟩
  go_wp2_with fail
  refine (unhide Pv _).mono ?_
  rintro e w' ⟨rfl, rfl⟩
  go_wp2_with fail
  refine (unhide Pu _).mono ?_
  rintro e w' ⟨rfl, rfl⟩
  go_wp2_with fail
  refine (unhide Fo _).mono ?_
  rintro e w' ⟨rfl, n, rfl⟩
  go_wp2
  go_ret
  exact ⟨rfl, n, rfl⟩

theorem bd (c : Int) (h : (Lit.int .u8 c).wf = true) : 0 ≤ c ∧ c ≤ 255 := by
  simp [Lit.wf, IntKind.min, IntKind.max, IntKind.signed, IntKind.bits] at h; omega

set_option maxHeartbeats 1000000 in
theorem walk (v u : Int) (w0 : (Lit.int .u8 v).wf = true) (w1 : (Lit.int .u8 u).wf = true) (w : World) :
    Calls Tryf.prog 3 #[.int .u8 v, .int .u8 u] w fun e w' => e = .returned (.bool true) ∧ ∃ n, w' = w.drewN n := by
  have hv := bd v w0
  have hu := bd u w1
  clear w0 w1
  by_cases cv : 2 < v
  · go_enter Tryf.func3, Tryf.ntmps3
    go_wp2
    go_ret
    exact ⟨rfl, 0, rfl⟩
  by_cases cu : 2 < u
  · go_enter Tryf.func3, Tryf.ntmps3
    go_wp2
    go_ret
    exact ⟨rfl, 0, rfl⟩
  obtain rfl | rfl | rfl : v = 0 ∨ v = 1 ∨ v = 2 := by omega
  all_goals obtain rfl | rfl | rfl : u = 0 ∨ u = 1 ∨ u = 2 := by omega
  · exact law_pair 0 0 n0 n0 w cv cu st0 st0 (by decide) (by decide) (by decide) (by decide) (by decide) (by decide) (by decide +kernel) (by decide +kernel) (by decide +kernel)
  · exact law_pair 0 1 n0 n1 w cv cu st0 st1 (by decide) (by decide) (by decide) (by decide) (by decide) (by decide) (by decide +kernel) (by decide +kernel) (by decide +kernel)
  · exact law_pair 0 2 n0 n2 w cv cu st0 st2 (by decide) (by decide) (by decide) (by decide) (by decide) (by decide) (by decide +kernel) (by decide +kernel) (by decide +kernel)
  · exact law_pair 1 0 n1 n0 w cv cu st1 st0 (by decide) (by decide) (by decide) (by decide) (by decide) (by decide) (by decide +kernel) (by decide +kernel) (by decide +kernel)
  · exact law_pair 1 1 n1 n1 w cv cu st1 st1 (by decide) (by decide) (by decide) (by decide) (by decide) (by decide) (by decide +kernel) (by decide +kernel) (by decide +kernel)
  · exact law_pair 1 2 n1 n2 w cv cu st1 st2 (by decide) (by decide) (by decide) (by decide) (by decide) (by decide) (by decide +kernel) (by decide +kernel) (by decide +kernel)
  · exact law_pair 2 0 n2 n0 w cv cu st2 st0 (by decide) (by decide) (by decide) (by decide) (by decide) (by decide) (by decide +kernel) (by decide +kernel) (by decide +kernel)
  · exact law_pair 2 1 n2 n1 w cv cu st2 st1 (by decide) (by decide) (by decide) (by decide) (by decide) (by decide) (by decide +kernel) (by decide +kernel) (by decide +kernel)
  · exact law_pair 2 2 n2 n2 w cv cu st2 st2 (by decide) (by decide) (by decide) (by decide) (by decide) (by decide) (by decide +kernel) (by decide +kernel) (by decide +kernel)
end Go.Proofs.Qxb6614154aFmt
