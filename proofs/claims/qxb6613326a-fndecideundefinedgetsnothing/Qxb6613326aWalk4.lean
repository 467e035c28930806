/-
  The walk of FnDecideUndefinedGetsNothing: out of the callees' contracts; three cases of q.
-/
import Derived.Test.Qxb6613326aWalk3
namespace Go.Proofs.Qxb6613326a
open Go.ChangeShapes Go.WideShapes Go.ChangeAt Go.RowKit

theorem dec_some0 (w : World) (bp ba bm n : Nat) (look : ByteArray → Option Nat) (hP : Pol w bp ba bm n look) (q t typ ten : ByteArray) (hq : look q = some 0) (hA : Acc w ba 0 typ ten) :
    Calls Try.prog 11 #[.pointer (some ⟨bp, 0, none⟩), .string q, .string t] w fun e w' => e = .returned (.tuple #[.pointer (some ⟨ba, 0, none⟩), .string (orS t ten), .bool (superB typ)]) ∧ Below w.heap.size w w' :=
  zzdecide_some w bp ba bm n look hP q t typ ten 0 hq hA.1 hA.2
theorem dec_some1 (w : World) (bp ba bm n : Nat) (look : ByteArray → Option Nat) (hP : Pol w bp ba bm n look) (q t typ ten : ByteArray) (hq : look q = some 1) (hA : Acc w ba 1 typ ten) :
    Calls Try.prog 11 #[.pointer (some ⟨bp, 0, none⟩), .string q, .string t] w fun e w' => e = .returned (.tuple #[.pointer (some ⟨ba, 8, none⟩), .string (orS t ten), .bool (superB typ)]) ∧ Below w.heap.size w w' :=
  zzdecide_some w bp ba bm n look hP q t typ ten 1 hq hA.1 hA.2
theorem at0 (w : World) (bp ba bm n : Nat) (look : ByteArray → Option Nat) (hP : Pol w bp ba bm n look) (hn : 0 < n) :
    Calls Try.prog 12 #[.pointer (some ⟨bp, 0, none⟩), .int .i64 0] w fun e w' => e = .returned (.pointer (some ⟨ba, 0, none⟩)) ∧ w' = w :=
  accountAt w bp ba bm n look hP 0 hn
theorem at1 (w : World) (bp ba bm n : Nat) (look : ByteArray → Option Nat) (hP : Pol w bp ba bm n look) (hn : 1 < n) :
    Calls Try.prog 12 #[.pointer (some ⟨bp, 0, none⟩), .int .i64 1] w fun e w' => e = .returned (.pointer (some ⟨ba, 8, none⟩)) ∧ w' = w :=
  accountAt w bp ba bm n look hP 1 hn
theorem eql29 (a : Addr) (W : World) : (binOp .eql 29 (.pointer (some a)) (.pointer (some a))).run Try.prog W = .ok (.bool true) W :=
  run_eql_ptr_same (w := W) _ Try.underlying29 info36

theorem look_0 (a0 a3 q : ByteArray) (h : (q.toList == a0.toList) = true) : look2 a0 a3 q = some 0 ∧ look1 a0 q = some 0 := by simp [look2, look1, h]
theorem look_1' (a0 a3 q : ByteArray) (h : (q.toList == a0.toList) = false) (h3 : (q.toList == a3.toList) = true) : look2 a0 a3 q = some 1 ∧ look1 a0 q = none := by simp [look2, look1, h, h3]
theorem look_n (a0 a3 q : ByteArray) (h : (q.toList == a0.toList) = false) (h3 : (q.toList == a3.toList) = false) : look2 a0 a3 q = none ∧ look1 a0 q = none := by simp [look2, look1, h, h3]

set_option maxHeartbeats 4000000 in
set_option maxRecDepth 100000 in
theorem walk4_eq (a0 : ByteArray) (a1 : ByteArray) (a2 : ByteArray) (a3 : ByteArray) (a4 : ByteArray) (a5 : ByteArray) (q : ByteArray) (t : ByteArray) (w0 : a0.size ≤ maxLen) (w1 : a1.size ≤ maxLen) (w2 : a2.size ≤ maxLen) (w3 : a3.size ≤ maxLen) (w4 : a4.size ≤ maxLen) (w5 : a5.size ≤ maxLen) (w6 : q.size ≤ maxLen) (w7 : t.size ≤ maxLen) (w : World) (h03 : (a0.toList == a3.toList) = true) :
    Calls Try.prog 4 #[.string a0, .string a1, .string a2, .string a3, .string a4, .string a5, .string q, .string t] w fun e w' => e = .returned (.bool true) ∧ Below w.heap.size w w' := by
  have HB := hide (fun W => bytes9_any a0 a1 a2 a3 a4 a5 q t W w0 w1 w2 w3 w4 w5 w6 w7)
  have V0 := hide (fun W => valid_any a0 W w0)
  have V2 := hide (fun W => valid_any a2 W w2)
  have V3 := hide (fun W => valid_any a3 W w3)
  have V5 := hide (fun W => valid_any a5 W w5)
  unfold maxLen at w0 w1 w2 w3 w4 w5 w6 w7
  go_enter Try.func4, Try.ntmps4
  go_wp2_with (first | (go_at_call 9; refine (unhide HB _).mono ?_; rintro e w' ⟨⟨b, rfl⟩, rfl⟩) | (go_at_call_of 6 (Value.string a0); refine (unhide V0 _).mono ?_; rintro e w' ⟨⟨b, rfl⟩, rfl⟩) | (go_at_call_of 6 (Value.string a2); refine (unhide V2 _).mono ?_; rintro e w' ⟨⟨b, rfl⟩, rfl⟩) | (go_at_call_of 6 (Value.string a3); refine (unhide V3 _).mono ?_; rintro e w' ⟨⟨b, rfl⟩, rfl⟩) | (go_at_call_of 6 (Value.string a5); refine (unhide V5 _).mono ?_; rintro e w' ⟨⟨b, rfl⟩, rfl⟩))
  all_goals (go_ret; exact ⟨rfl, Below.refl _ _⟩)

set_option maxHeartbeats 4000000 in
set_option maxRecDepth 100000 in
theorem walk4_fst (a0 : ByteArray) (a1 : ByteArray) (a2 : ByteArray) (a3 : ByteArray) (a4 : ByteArray) (a5 : ByteArray) (q : ByteArray) (t : ByteArray) (w0 : a0.size ≤ maxLen) (w1 : a1.size ≤ maxLen) (w2 : a2.size ≤ maxLen) (w3 : a3.size ≤ maxLen) (w4 : a4.size ≤ maxLen) (w5 : a5.size ≤ maxLen) (w6 : q.size ≤ maxLen) (w7 : t.size ≤ maxLen) (w : World) (h03 : (a0.toList == a3.toList) = false) (h30 : (a3.toList == a0.toList) = false) (hq : (q.toList == a0.toList) = true) :
    Calls Try.prog 4 #[.string a0, .string a1, .string a2, .string a3, .string a4, .string a5, .string q, .string t] w fun e w' => e = .returned (.bool true) ∧ Below w.heap.size w w' := by
  have HB := hide (fun W => bytes9_any a0 a1 a2 a3 a4 a5 q t W w0 w1 w2 w3 w4 w5 w6 w7)
  have V0 := hide (fun W => valid_any a0 W w0)
  have V2 := hide (fun W => valid_any a2 W w2)
  have V3 := hide (fun W => valid_any a3 W w3)
  have V5 := hide (fun W => valid_any a5 W w5)
  unfold maxLen at w0 w1 w2 w3 w4 w5 w6 w7
  have HP := hide (fun W => newPolicy2 a0 a1 a2 a3 a4 a5 W h03 h30)
  have HP1 := hide (fun W => newPolicy1 a0 a1 a2 W)
  obtain ⟨l2, l1⟩ := look_0 a0 a3 q hq
  have L2 := hide l2
  have L1 := hide l1
  clear l2 l1
  have hs : (a1.toList == [115, 117, 112, 101, 114, 95, 97, 100, 109, 105, 110]) = superB a1 := rfl
  cases ht : t.toList.isEmpty
  · have e3 : orS t a2 = t := orS_yes ht
    go_enter Try.func4, Try.ntmps4
    go_wp2_with (first | (go_at_call 9; refine (unhide HB _).mono ?_; rintro e w' ⟨⟨b, rfl⟩, rfl⟩) | (go_at_call_of 6 (Value.string a0); refine (unhide V0 _).mono ?_; rintro e w' ⟨⟨b, rfl⟩, rfl⟩) | (go_at_call_of 6 (Value.string a2); refine (unhide V2 _).mono ?_; rintro e w' ⟨⟨b, rfl⟩, rfl⟩) | (go_at_call_of 6 (Value.string a3); refine (unhide V3 _).mono ?_; rintro e w' ⟨⟨b, rfl⟩, rfl⟩) | (go_at_call_of 6 (Value.string a5); refine (unhide V5 _).mono ?_; rintro e w' ⟨⟨b, rfl⟩, rfl⟩))
    all_goals first
      | (go_ret; exact ⟨rfl, Below.refl _ _⟩)
      | (refine (unhide HP _).mono ?_
         rintro e w1 ⟨bp, ba, bm, rfl, hP, hA0, hA1, hb⟩
         go_wp2_with (go_at_call 10; refine (unhide HP1 _).mono ?_; rintro e w2 ⟨cp, ca, cm, rfl, hQ, hC0, hb2⟩)
         have D2 := hide (dec_some0 w2 bp ba bm 2 (look2 a0 a3) (hP.kept hb2) q t a1 a2 (unhide L2) (hA0.kept hP.ba_lt hb2))
         have D1 := hide (fun W (h : Below w2.heap.size w2 W) => dec_some0 W cp ca cm 1 (look1 a0) (hQ.kept h) q t a1 a2 (unhide L1) (hC0.kept hQ.ba_lt h))
         have A2 := hide (fun W (h : Below w2.heap.size w2 W) => at0 W bp ba bm 2 (look2 a0 a3) ((hP.kept hb2).kept h) (by omega))
         have A1 := hide (fun W (h : Below w2.heap.size w2 W) => at0 W cp ca cm 1 (look1 a0) (hQ.kept h) (by omega))
         have q2 := eql29 ⟨ba, 0, none⟩
         have q1 := eql29 ⟨ca, 0, none⟩
         clear hP hA0 hA1 hQ hC0
         go_wp2_with (first | (go_at_call_of 11 (Value.pointer (some ⟨bp, 0, none⟩)); refine (unhide D2).mono ?_; rintro e w3 ⟨rfl, hb3⟩) | (go_at_call_of 11 (Value.pointer (some ⟨cp, 0, none⟩)); refine (unhide D1 _ (by assumption)).mono ?_; rintro e w4 ⟨rfl, hb4⟩; have hb5 := hb3.trans (hb4.mono hb3.size)) | (go_at_call_of 12 (Value.pointer (some ⟨bp, 0, none⟩)); refine (unhide A2 _ (by assumption)).mono ?_; rintro e w5 ⟨rfl, rfl⟩) | (go_at_call_of 12 (Value.pointer (some ⟨cp, 0, none⟩)); refine (unhide A1 _ (by assumption)).mono ?_; rintro e w6 ⟨rfl, rfl⟩))
         go_ret
         exact ⟨rfl, hb.trans ((hb2.mono hb.size).trans ((hb3.mono (Nat.le_trans hb.size hb2.size)).trans (hb4.mono (Nat.le_trans hb.size (Nat.le_trans hb2.size hb3.size)))))⟩)
  · have e3 : orS t a2 = a2 := orS_no ht
    go_enter Try.func4, Try.ntmps4
    go_wp2_with (first | (go_at_call 9; refine (unhide HB _).mono ?_; rintro e w' ⟨⟨b, rfl⟩, rfl⟩) | (go_at_call_of 6 (Value.string a0); refine (unhide V0 _).mono ?_; rintro e w' ⟨⟨b, rfl⟩, rfl⟩) | (go_at_call_of 6 (Value.string a2); refine (unhide V2 _).mono ?_; rintro e w' ⟨⟨b, rfl⟩, rfl⟩) | (go_at_call_of 6 (Value.string a3); refine (unhide V3 _).mono ?_; rintro e w' ⟨⟨b, rfl⟩, rfl⟩) | (go_at_call_of 6 (Value.string a5); refine (unhide V5 _).mono ?_; rintro e w' ⟨⟨b, rfl⟩, rfl⟩))
    all_goals first
      | (go_ret; exact ⟨rfl, Below.refl _ _⟩)
      | (refine (unhide HP _).mono ?_
         rintro e w1 ⟨bp, ba, bm, rfl, hP, hA0, hA1, hb⟩
         go_wp2_with (go_at_call 10; refine (unhide HP1 _).mono ?_; rintro e w2 ⟨cp, ca, cm, rfl, hQ, hC0, hb2⟩)
         have D2 := hide (dec_some0 w2 bp ba bm 2 (look2 a0 a3) (hP.kept hb2) q t a1 a2 (unhide L2) (hA0.kept hP.ba_lt hb2))
         have D1 := hide (fun W (h : Below w2.heap.size w2 W) => dec_some0 W cp ca cm 1 (look1 a0) (hQ.kept h) q t a1 a2 (unhide L1) (hC0.kept hQ.ba_lt h))
         have A2 := hide (fun W (h : Below w2.heap.size w2 W) => at0 W bp ba bm 2 (look2 a0 a3) ((hP.kept hb2).kept h) (by omega))
         have A1 := hide (fun W (h : Below w2.heap.size w2 W) => at0 W cp ca cm 1 (look1 a0) (hQ.kept h) (by omega))
         have q2 := eql29 ⟨ba, 0, none⟩
         have q1 := eql29 ⟨ca, 0, none⟩
         clear hP hA0 hA1 hQ hC0
         go_wp2_with (first | (go_at_call_of 11 (Value.pointer (some ⟨bp, 0, none⟩)); refine (unhide D2).mono ?_; rintro e w3 ⟨rfl, hb3⟩) | (go_at_call_of 11 (Value.pointer (some ⟨cp, 0, none⟩)); refine (unhide D1 _ (by assumption)).mono ?_; rintro e w4 ⟨rfl, hb4⟩; have hb5 := hb3.trans (hb4.mono hb3.size)) | (go_at_call_of 12 (Value.pointer (some ⟨bp, 0, none⟩)); refine (unhide A2 _ (by assumption)).mono ?_; rintro e w5 ⟨rfl, rfl⟩) | (go_at_call_of 12 (Value.pointer (some ⟨cp, 0, none⟩)); refine (unhide A1 _ (by assumption)).mono ?_; rintro e w6 ⟨rfl, rfl⟩))
         go_ret
         exact ⟨rfl, hb.trans ((hb2.mono hb.size).trans ((hb3.mono (Nat.le_trans hb.size hb2.size)).trans (hb4.mono (Nat.le_trans hb.size (Nat.le_trans hb2.size hb3.size)))))⟩)

set_option maxHeartbeats 4000000 in
set_option maxRecDepth 100000 in
theorem walk4_snd (a0 : ByteArray) (a1 : ByteArray) (a2 : ByteArray) (a3 : ByteArray) (a4 : ByteArray) (a5 : ByteArray) (q : ByteArray) (t : ByteArray) (w0 : a0.size ≤ maxLen) (w1 : a1.size ≤ maxLen) (w2 : a2.size ≤ maxLen) (w3 : a3.size ≤ maxLen) (w4 : a4.size ≤ maxLen) (w5 : a5.size ≤ maxLen) (w6 : q.size ≤ maxLen) (w7 : t.size ≤ maxLen) (w : World) (h03 : (a0.toList == a3.toList) = false) (h30 : (a3.toList == a0.toList) = false) (hq : (q.toList == a0.toList) = false) (hq3 : (q.toList == a3.toList) = true) :
    Calls Try.prog 4 #[.string a0, .string a1, .string a2, .string a3, .string a4, .string a5, .string q, .string t] w fun e w' => e = .returned (.bool true) ∧ Below w.heap.size w w' := by
  have HB := hide (fun W => bytes9_any a0 a1 a2 a3 a4 a5 q t W w0 w1 w2 w3 w4 w5 w6 w7)
  have V0 := hide (fun W => valid_any a0 W w0)
  have V2 := hide (fun W => valid_any a2 W w2)
  have V3 := hide (fun W => valid_any a3 W w3)
  have V5 := hide (fun W => valid_any a5 W w5)
  unfold maxLen at w0 w1 w2 w3 w4 w5 w6 w7
  have HP := hide (fun W => newPolicy2 a0 a1 a2 a3 a4 a5 W h03 h30)
  have HP1 := hide (fun W => newPolicy1 a0 a1 a2 W)
  obtain ⟨l2, l1⟩ := look_1' a0 a3 q hq hq3
  have L2 := hide l2
  have L1 := hide l1
  clear l2 l1
  have hs : (a4.toList == [115, 117, 112, 101, 114, 95, 97, 100, 109, 105, 110]) = superB a4 := rfl
  cases ht : t.toList.isEmpty
  · have e3 : orS t a5 = t := orS_yes ht
    go_enter Try.func4, Try.ntmps4
    go_wp2_with (first | (go_at_call 9; refine (unhide HB _).mono ?_; rintro e w' ⟨⟨b, rfl⟩, rfl⟩) | (go_at_call_of 6 (Value.string a0); refine (unhide V0 _).mono ?_; rintro e w' ⟨⟨b, rfl⟩, rfl⟩) | (go_at_call_of 6 (Value.string a2); refine (unhide V2 _).mono ?_; rintro e w' ⟨⟨b, rfl⟩, rfl⟩) | (go_at_call_of 6 (Value.string a3); refine (unhide V3 _).mono ?_; rintro e w' ⟨⟨b, rfl⟩, rfl⟩) | (go_at_call_of 6 (Value.string a5); refine (unhide V5 _).mono ?_; rintro e w' ⟨⟨b, rfl⟩, rfl⟩))
    all_goals first
      | (go_ret; exact ⟨rfl, Below.refl _ _⟩)
      | (refine (unhide HP _).mono ?_
         rintro e w1 ⟨bp, ba, bm, rfl, hP, hA0, hA1, hb⟩
         go_wp2_with (go_at_call 10; refine (unhide HP1 _).mono ?_; rintro e w2 ⟨cp, ca, cm, rfl, hQ, hC0, hb2⟩)
         have D2 := hide (dec_some1 w2 bp ba bm 2 (look2 a0 a3) (hP.kept hb2) q t a4 a5 (unhide L2) (hA1.kept hP.ba_lt hb2))
         have D1 := hide (fun W (h : Below w2.heap.size w2 W) => zzdecide_none W cp ca cm 1 (look1 a0) (hQ.kept h) q t (unhide L1))
         have A2 := hide (fun W (h : Below w2.heap.size w2 W) => at1 W bp ba bm 2 (look2 a0 a3) ((hP.kept hb2).kept h) (by omega))
         have q2 := eql29 ⟨ba, 8, none⟩
         clear hP hA0 hA1 hQ hC0
         go_wp2_with (first | (go_at_call_of 11 (Value.pointer (some ⟨bp, 0, none⟩)); refine (unhide D2).mono ?_; rintro e w3 ⟨rfl, hb3⟩) | (go_at_call_of 11 (Value.pointer (some ⟨cp, 0, none⟩)); refine (unhide D1 _ (by assumption)).mono ?_; rintro e w4 ⟨rfl, hb4⟩; have hb5 := hb3.trans (hb4.mono hb3.size)) | (go_at_call_of 12 (Value.pointer (some ⟨bp, 0, none⟩)); refine (unhide A2 _ (by assumption)).mono ?_; rintro e w5 ⟨rfl, rfl⟩))
         go_ret
         exact ⟨rfl, hb.trans ((hb2.mono hb.size).trans ((hb3.mono (Nat.le_trans hb.size hb2.size)).trans (hb4.mono (Nat.le_trans hb.size (Nat.le_trans hb2.size hb3.size)))))⟩)
  · have e3 : orS t a5 = a5 := orS_no ht
    go_enter Try.func4, Try.ntmps4
    go_wp2_with (first | (go_at_call 9; refine (unhide HB _).mono ?_; rintro e w' ⟨⟨b, rfl⟩, rfl⟩) | (go_at_call_of 6 (Value.string a0); refine (unhide V0 _).mono ?_; rintro e w' ⟨⟨b, rfl⟩, rfl⟩) | (go_at_call_of 6 (Value.string a2); refine (unhide V2 _).mono ?_; rintro e w' ⟨⟨b, rfl⟩, rfl⟩) | (go_at_call_of 6 (Value.string a3); refine (unhide V3 _).mono ?_; rintro e w' ⟨⟨b, rfl⟩, rfl⟩) | (go_at_call_of 6 (Value.string a5); refine (unhide V5 _).mono ?_; rintro e w' ⟨⟨b, rfl⟩, rfl⟩))
    all_goals first
      | (go_ret; exact ⟨rfl, Below.refl _ _⟩)
      | (refine (unhide HP _).mono ?_
         rintro e w1 ⟨bp, ba, bm, rfl, hP, hA0, hA1, hb⟩
         go_wp2_with (go_at_call 10; refine (unhide HP1 _).mono ?_; rintro e w2 ⟨cp, ca, cm, rfl, hQ, hC0, hb2⟩)
         have D2 := hide (dec_some1 w2 bp ba bm 2 (look2 a0 a3) (hP.kept hb2) q t a4 a5 (unhide L2) (hA1.kept hP.ba_lt hb2))
         have D1 := hide (fun W (h : Below w2.heap.size w2 W) => zzdecide_none W cp ca cm 1 (look1 a0) (hQ.kept h) q t (unhide L1))
         have A2 := hide (fun W (h : Below w2.heap.size w2 W) => at1 W bp ba bm 2 (look2 a0 a3) ((hP.kept hb2).kept h) (by omega))
         have q2 := eql29 ⟨ba, 8, none⟩
         clear hP hA0 hA1 hQ hC0
         go_wp2_with (first | (go_at_call_of 11 (Value.pointer (some ⟨bp, 0, none⟩)); refine (unhide D2).mono ?_; rintro e w3 ⟨rfl, hb3⟩) | (go_at_call_of 11 (Value.pointer (some ⟨cp, 0, none⟩)); refine (unhide D1 _ (by assumption)).mono ?_; rintro e w4 ⟨rfl, hb4⟩; have hb5 := hb3.trans (hb4.mono hb3.size)) | (go_at_call_of 12 (Value.pointer (some ⟨bp, 0, none⟩)); refine (unhide A2 _ (by assumption)).mono ?_; rintro e w5 ⟨rfl, rfl⟩))
         go_ret
         exact ⟨rfl, hb.trans ((hb2.mono hb.size).trans ((hb3.mono (Nat.le_trans hb.size hb2.size)).trans (hb4.mono (Nat.le_trans hb.size (Nat.le_trans hb2.size hb3.size)))))⟩)

set_option maxHeartbeats 4000000 in
set_option maxRecDepth 100000 in
theorem walk4_non (a0 : ByteArray) (a1 : ByteArray) (a2 : ByteArray) (a3 : ByteArray) (a4 : ByteArray) (a5 : ByteArray) (q : ByteArray) (t : ByteArray) (w0 : a0.size ≤ maxLen) (w1 : a1.size ≤ maxLen) (w2 : a2.size ≤ maxLen) (w3 : a3.size ≤ maxLen) (w4 : a4.size ≤ maxLen) (w5 : a5.size ≤ maxLen) (w6 : q.size ≤ maxLen) (w7 : t.size ≤ maxLen) (w : World) (h03 : (a0.toList == a3.toList) = false) (h30 : (a3.toList == a0.toList) = false) (hq : (q.toList == a0.toList) = false) (hq3 : (q.toList == a3.toList) = false) :
    Calls Try.prog 4 #[.string a0, .string a1, .string a2, .string a3, .string a4, .string a5, .string q, .string t] w fun e w' => e = .returned (.bool true) ∧ Below w.heap.size w w' := by
  have HB := hide (fun W => bytes9_any a0 a1 a2 a3 a4 a5 q t W w0 w1 w2 w3 w4 w5 w6 w7)
  have V0 := hide (fun W => valid_any a0 W w0)
  have V2 := hide (fun W => valid_any a2 W w2)
  have V3 := hide (fun W => valid_any a3 W w3)
  have V5 := hide (fun W => valid_any a5 W w5)
  unfold maxLen at w0 w1 w2 w3 w4 w5 w6 w7
  have HP := hide (fun W => newPolicy2 a0 a1 a2 a3 a4 a5 W h03 h30)
  have HP1 := hide (fun W => newPolicy1 a0 a1 a2 W)
  obtain ⟨l2, l1⟩ := look_n a0 a3 q hq hq3
  have L2 := hide l2
  have L1 := hide l1
  clear l2 l1
  go_enter Try.func4, Try.ntmps4
  go_wp2_with (first | (go_at_call 9; refine (unhide HB _).mono ?_; rintro e w' ⟨⟨b, rfl⟩, rfl⟩) | (go_at_call_of 6 (Value.string a0); refine (unhide V0 _).mono ?_; rintro e w' ⟨⟨b, rfl⟩, rfl⟩) | (go_at_call_of 6 (Value.string a2); refine (unhide V2 _).mono ?_; rintro e w' ⟨⟨b, rfl⟩, rfl⟩) | (go_at_call_of 6 (Value.string a3); refine (unhide V3 _).mono ?_; rintro e w' ⟨⟨b, rfl⟩, rfl⟩) | (go_at_call_of 6 (Value.string a5); refine (unhide V5 _).mono ?_; rintro e w' ⟨⟨b, rfl⟩, rfl⟩))
  all_goals first
    | (go_ret; exact ⟨rfl, Below.refl _ _⟩)
    | (refine (unhide HP _).mono ?_
       rintro e w1 ⟨bp, ba, bm, rfl, hP, hA0, hA1, hb⟩
       go_wp2_with (go_at_call 10; refine (unhide HP1 _).mono ?_; rintro e w2 ⟨cp, ca, cm, rfl, hQ, hC0, hb2⟩)
       have D2 := hide (zzdecide_none w2 bp ba bm 2 (look2 a0 a3) (hP.kept hb2) q t (unhide L2))
       have D1 := hide (fun W (h : Below w2.heap.size w2 W) => zzdecide_none W cp ca cm 1 (look1 a0) (hQ.kept h) q t (unhide L1))
       clear hP hA0 hA1 hQ hC0
       go_wp2_with (first | (go_at_call_of 11 (Value.pointer (some ⟨bp, 0, none⟩)); refine (unhide D2).mono ?_; rintro e w3 ⟨rfl, hb3⟩) | (go_at_call_of 11 (Value.pointer (some ⟨cp, 0, none⟩)); refine (unhide D1 _ (by assumption)).mono ?_; rintro e w4 ⟨rfl, hb4⟩))
       go_ret
       exact ⟨rfl, hb.trans ((hb2.mono hb.size).trans ((hb3.mono (Nat.le_trans hb.size hb2.size)).trans (hb4.mono (Nat.le_trans hb.size (Nat.le_trans hb2.size hb3.size)))))⟩)

theorem walk4 (a0 : ByteArray) (a1 : ByteArray) (a2 : ByteArray) (a3 : ByteArray) (a4 : ByteArray) (a5 : ByteArray) (a6 : ByteArray) (a7 : ByteArray) (w0 : a0.size ≤ maxLen) (w1 : a1.size ≤ maxLen) (w2 : a2.size ≤ maxLen) (w3 : a3.size ≤ maxLen) (w4 : a4.size ≤ maxLen) (w5 : a5.size ≤ maxLen) (w6 : a6.size ≤ maxLen) (w7 : a7.size ≤ maxLen) (w : World) :
    Calls Try.prog 4 #[.string a0, .string a1, .string a2, .string a3, .string a4, .string a5, .string a6, .string a7] w fun e w' => e = .returned (.bool true) ∧ Below w.heap.size w w' := by
  cases h03 : (a0.toList == a3.toList)
  · have h30 := beq_swap _ _ h03
    cases hq : (a6.toList == a0.toList)
    · cases hq3 : (a6.toList == a3.toList)
      · exact walk4_non a0 a1 a2 a3 a4 a5 a6 a7 w0 w1 w2 w3 w4 w5 w6 w7 w h03 h30 hq hq3
      · exact walk4_snd a0 a1 a2 a3 a4 a5 a6 a7 w0 w1 w2 w3 w4 w5 w6 w7 w h03 h30 hq hq3
    · exact walk4_fst a0 a1 a2 a3 a4 a5 a6 a7 w0 w1 w2 w3 w4 w5 w6 w7 w h03 h30 hq
  · exact walk4_eq a0 a1 a2 a3 a4 a5 a6 a7 w0 w1 w2 w3 w4 w5 w6 w7 w h03
end Go.Proofs.Qxb6613326a
