/-
  The walk of FnDecideOwnTenantAndSuper: out of the callees' contracts.
-/
import Derived.Test.Qxb6613326aOwn
namespace Go.Proofs.Qxb6613326a
open Go.ChangeShapes Go.WideShapes Go.ChangeAt Go.RowKit

theorem look2_fst (a0 a3 : ByteArray) : look2 a0 a3 a0 = some 0 := by simp [look2]
theorem look2_snd (a0 a3 : ByteArray) (h : (a3.toList == a0.toList) = false) : look2 a0 a3 a3 = some 1 := by simp [look2, h]
theorem beq_swap (a b : ByteArray) (h : (a.toList == b.toList) = false) : (b.toList == a.toList) = false := by
  rw [beq_eq_false_iff_ne] at *; exact fun e => h e.symm

theorem own0 (w : World) (bp ba bm : Nat) (a0 a1 a2 a3 t : ByteArray) (hP : Pol w bp ba bm 2 (look2 a0 a3)) (hA : Acc w ba 0 a1 a2) :
    Calls Try.prog 8 #[.pointer (some ⟨bp, 0, none⟩), .int .i64 0, .string a0, .string a1, .string a2, .string t] w fun e w' => e = .returned (.bool true) ∧ Below w.heap.size w w' :=
  decideOwn w bp ba bm 2 (look2 a0 a3) hP 0 a0 a1 a2 t (look2_fst a0 a3) hA
theorem own1 (w : World) (bp ba bm : Nat) (a0 a3 a4 a5 t : ByteArray) (h : (a3.toList == a0.toList) = false) (hP : Pol w bp ba bm 2 (look2 a0 a3)) (hA : Acc w ba 1 a4 a5) :
    Calls Try.prog 8 #[.pointer (some ⟨bp, 0, none⟩), .int .i64 1, .string a3, .string a4, .string a5, .string t] w fun e w' => e = .returned (.bool true) ∧ Below w.heap.size w w' :=
  decideOwn w bp ba bm 2 (look2 a0 a3) hP 1 a3 a4 a5 t (look2_snd a0 a3 h) hA
theorem Acc.kept {w w' : World} {ba i : Nat} {typ ten : ByteArray} (h : Acc w ba i typ ten) (hlt : ba < w.heap.size) (hb : Below w.heap.size w w') : Acc w' ba i typ ten :=
  ⟨by rw [hb.cell (p := ⟨ba, i * 8 + 1, none⟩) hlt]; exact h.1, by rw [hb.cell (p := ⟨ba, i * 8 + 2, none⟩) hlt]; exact h.2⟩

set_option maxHeartbeats 2000000 in
set_option maxRecDepth 100000 in
theorem walk3 (a0 : ByteArray) (a1 : ByteArray) (a2 : ByteArray) (a3 : ByteArray) (a4 : ByteArray) (a5 : ByteArray) (a6 : ByteArray) (w0 : a0.size ≤ maxLen) (w1 : a1.size ≤ maxLen) (w2 : a2.size ≤ maxLen) (w3 : a3.size ≤ maxLen) (w4 : a4.size ≤ maxLen) (w5 : a5.size ≤ maxLen) (w6 : a6.size ≤ maxLen) (w : World) :
    Calls Try.prog 3 #[.string a0, .string a1, .string a2, .string a3, .string a4, .string a5, .string a6] w fun e w' => e = .returned (.bool true) ∧ Below w.heap.size w w' := by
  have HB := hide (fun W => bytes5_any a0 a1 a2 a3 a4 a5 a6 W w0 w1 w2 w3 w4 w5 w6)
  have V0 := hide (fun W => valid_any a0 W w0)
  have V2 := hide (fun W => valid_any a2 W w2)
  have V3 := hide (fun W => valid_any a3 W w3)
  have V5 := hide (fun W => valid_any a5 W w5)
  unfold maxLen at w0 w1 w2 w3 w4 w5 w6
  cases h03 : (a0.toList == a3.toList)
  · have h30 := beq_swap _ _ h03
    have HP := hide (fun W => newPolicy2 a0 a1 a2 a3 a4 a5 W h03 h30)
    go_enter Try.func3, Try.ntmps3
    go_wp2_with (first | (go_at_call 5; refine (unhide HB _).mono ?_; rintro e w' ⟨⟨b, rfl⟩, rfl⟩) | (go_at_call_of 6 (Value.string a0); refine (unhide V0 _).mono ?_; rintro e w' ⟨⟨b, rfl⟩, rfl⟩) | (go_at_call_of 6 (Value.string a2); refine (unhide V2 _).mono ?_; rintro e w' ⟨⟨b, rfl⟩, rfl⟩) | (go_at_call_of 6 (Value.string a3); refine (unhide V3 _).mono ?_; rintro e w' ⟨⟨b, rfl⟩, rfl⟩) | (go_at_call_of 6 (Value.string a5); refine (unhide V5 _).mono ?_; rintro e w' ⟨⟨b, rfl⟩, rfl⟩))
    all_goals first
      | (go_ret; exact ⟨rfl, Below.refl _ _⟩)
      | (refine (unhide HP _).mono ?_
         rintro e w1 ⟨bp, ba, bm, rfl, hP, hA0, hA1, hb⟩
         have D0 := hide (own0 w1 bp ba bm a0 a1 a2 a3 a6 hP hA0)
         have D1 := hide (fun W (h : Below w1.heap.size w1 W) => own1 W bp ba bm a0 a3 a4 a5 a6 h30 (hP.kept h) (hA1.kept hP.ba_lt h))
         clear hP hA0 hA1
         go_wp2_with (first | (go_at_call_of 8 (Value.string a0); refine (unhide D0).mono ?_; rintro e w2 ⟨rfl, hb2⟩) | (go_at_call_of 8 (Value.string a3); refine (unhide D1 _ (by assumption)).mono ?_; rintro e w3 ⟨rfl, hb3⟩))
         go_ret
         exact ⟨rfl, hb.trans ((hb2.mono hb.size).trans (hb3.mono (Nat.le_trans hb.size hb2.size)))⟩)
  · go_enter Try.func3, Try.ntmps3
    go_wp2_with (first | (go_at_call 5; refine (unhide HB _).mono ?_; rintro e w' ⟨⟨b, rfl⟩, rfl⟩) | (go_at_call_of 6 (Value.string a0); refine (unhide V0 _).mono ?_; rintro e w' ⟨⟨b, rfl⟩, rfl⟩) | (go_at_call_of 6 (Value.string a2); refine (unhide V2 _).mono ?_; rintro e w' ⟨⟨b, rfl⟩, rfl⟩) | (go_at_call_of 6 (Value.string a3); refine (unhide V3 _).mono ?_; rintro e w' ⟨⟨b, rfl⟩, rfl⟩) | (go_at_call_of 6 (Value.string a5); refine (unhide V5 _).mono ?_; rintro e w' ⟨⟨b, rfl⟩, rfl⟩))
    all_goals (go_ret; exact ⟨rfl, Below.refl _ _⟩)
end Go.Proofs.Qxb6613326a
