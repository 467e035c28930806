/-
  Decide: ZZnewPolicy2, ZZnewPolicy1 (the composite literals) and zzDecideOwn by contracts.
-/
import Derived.Test.Qxb6613326aDecide
import Derived.LaidEqlPtr
namespace Go.Proofs.Qxb6613326a
open Go.ChangeShapes Go.WideShapes Go.ChangeAt Go.RowKit

def look2 (a0 a3 q : ByteArray) : Option Nat := if q.toList == a0.toList then some 0 else if q.toList == a3.toList then some 1 else none
def look1 (a0 q : ByteArray) : Option Nat := if q.toList == a0.toList then some 0 else none

theorem find_two (q k1 k2 : ByteArray) (n1 n2 : Int) (b1 b2 : Nat) : Instr.findNow .string (.string q) [en k1 n1 b1, en k2 n2 b2] 0 =
    some (if q.toList == k1.toList then some (0, .int .i64 n1) else if q.toList == k2.toList then some (1, .int .i64 n2) else none) := by
  simp only [Instr.findNow, Instr.sameNow, en, beq_toListBytes]
  cases q.toList == k1.toList
  · cases q.toList == k2.toList <;> simp
  · simp
theorem look_12 (a0 a3 : ByteArray) (q : ByteArray) : ∃ a, Instr.findNow .string (.string q) [en a0 0 0, en a3 1 1] 0 = some a ∧ a.map Prod.snd = (look2 a0 a3 q).map (fun i => .int .i64 (i : Int)) := by
  refine ⟨_, find_two q a0 a3 0 1 0 1, ?_⟩
  unfold look2
  cases q.toList == a0.toList
  · cases q.toList == a3.toList <;> simp
  · simp
theorem look_21 (a0 a3 : ByteArray) (h03 : (a0.toList == a3.toList) = false) (q : ByteArray) : ∃ a, Instr.findNow .string (.string q) [en a3 1 0, en a0 0 1] 0 = some a ∧ a.map Prod.snd = (look2 a0 a3 q).map (fun i => .int .i64 (i : Int)) := by
  refine ⟨_, find_two q a3 a0 1 0 0 1, ?_⟩
  unfold look2
  cases h0 : q.toList == a0.toList
  · cases q.toList == a3.toList <;> simp
  · have h3 : (q.toList == a3.toList) = false := by
      have e := eq_of_beq h0
      rw [e]; exact h03
    simp [h3]
theorem look_1 (a0 : ByteArray) (q : ByteArray) : ∃ a, Instr.findNow .string (.string q) [en a0 0 0] 0 = some a ∧ a.map Prod.snd = (look1 a0 q).map (fun i => .int .i64 (i : Int)) := by
  refine ⟨if q.toList == a0.toList then some (0, .int .i64 0) else none, ?_, ?_⟩
  · simp only [Instr.findNow, Instr.sameNow, en, beq_toListBytes]
    cases q.toList == a0.toList <;> simp
  · unfold look1
    cases q.toList == a0.toList <;> simp

theorem heap_at0 (w : World) (o1 o2 o3 : Obj) : (((w.alloc o1).alloc o2).alloc o3).drew.heap[w.heap.size]? = some o1 := by
  show (((w.heap.push o1).push o2).push o3)[w.heap.size]? = _
  simp only [Array.getElem?_push, Array.size_push]
  rw [if_neg (by omega), if_neg (by omega), if_pos trivial]
theorem heap_at1 (w : World) (o1 o2 o3 : Obj) : (((w.alloc o1).alloc o2).alloc o3).drew.heap[w.heap.size + 1]? = some o2 := by
  show (((w.heap.push o1).push o2).push o3)[w.heap.size + 1]? = _
  simp only [Array.getElem?_push, Array.size_push]
  rw [if_neg (by omega), if_pos trivial]
theorem heap_at2 (w : World) (o1 o2 o3 : Obj) : (((w.alloc o1).alloc o2).alloc o3).drew.heap[w.heap.size + 1 + 1]? = some o3 := by
  show (((w.heap.push o1).push o2).push o3)[w.heap.size + 1 + 1]? = _
  simp only [Array.getElem?_push, Array.size_push]
  rw [if_pos trivial]
theorem cellw {w : World} {g : Nat} {cs : Array Value} {t : TypeId} {fr : Nat × Nat} (h : w.heap[g]? = some (.cells cs t fr)) (i : Nat) : w.cell? ⟨g, i, none⟩ = cs[i]? := by simp [World.cell?, h]
theorem below3 (w : World) (o1 o2 o3 : Obj) : Below w.heap.size w (((w.alloc o1).alloc o2).alloc o3).drew :=
  ((((Below.refl _ _).alloc (Nat.le_refl _) _).alloc (by simp) _).alloc (by simp; omega) _).drew

/-- the accounts ahead of the index -/
theorem polA (w : World) (es : Array MapEntry) (c n : Nat) (S : Array Value) (P0 P1 P2 P3 P4 P7 : Value) (R : List Value) (look : ByteArray → Option Nat) (hlt : ∀ q i, look q = some i → i < n)
    (hf : ∀ q, ∃ a, Instr.findNow .string (.string q) es.toList 0 = some a ∧ a.map Prod.snd = (look q).map (fun i => .int .i64 (i : Int))) :
    Pol (((w.alloc (.cells S 36)).alloc (.map es c)).alloc (.cells (P0 :: P1 :: P2 :: P3 :: P4 :: .slice (some ⟨w.heap.size, 0, none⟩) n n :: .map (some (w.heap.size + 1)) :: P7 :: R).toArray 49)).drew (w.heap.size + 1 + 1) w.heap.size (w.heap.size + 1) n look where
  hp := by rw [cellw (heap_at2 _ _ _ _)]; rfl
  hm := by rw [cellw (heap_at2 _ _ _ _)]; rfl
  hmap := ⟨es, c, heap_at1 _ _ _ _, hf⟩
  hlt := hlt
  bp_lt := by simp
  ba_lt := by simp; omega
  bm_lt := by simp
/-- the index ahead of the accounts -/
theorem polB (w : World) (es : Array MapEntry) (c n : Nat) (S : Array Value) (P0 P1 P2 P3 P4 P7 : Value) (R : List Value) (look : ByteArray → Option Nat) (hlt : ∀ q i, look q = some i → i < n)
    (hf : ∀ q, ∃ a, Instr.findNow .string (.string q) es.toList 0 = some a ∧ a.map Prod.snd = (look q).map (fun i => .int .i64 (i : Int))) :
    Pol (((w.alloc (.map es c)).alloc (.cells S 36)).alloc (.cells (P0 :: P1 :: P2 :: P3 :: P4 :: .slice (some ⟨w.heap.size + 1, 0, none⟩) n n :: .map (some w.heap.size) :: P7 :: R).toArray 49)).drew (w.heap.size + 1 + 1) (w.heap.size + 1) w.heap.size n look where
  hp := by rw [cellw (heap_at2 _ _ _ _)]; rfl
  hm := by rw [cellw (heap_at2 _ _ _ _)]; rfl
  hmap := ⟨es, c, heap_at0 _ _ _ _, hf⟩
  hlt := hlt
  bp_lt := by simp
  ba_lt := by simp
  bm_lt := by simp; omega
theorem look2_lt (a0 a3 : ByteArray) : ∀ q i, look2 a0 a3 q = some i → i < 2 := by
  intro q i h; unfold look2 at h; split at h
  · cases h; omega
  · split at h <;> cases h; omega
theorem look1_lt (a0 : ByteArray) : ∀ q i, look1 a0 q = some i → i < 1 := by
  intro q i h; unfold look1 at h; split at h <;> cases h; omega

/-- what the accounts' block holds of account i -/
def Acc (w : World) (ba i : Nat) (typ ten : ByteArray) : Prop := w.cell? ⟨ba, i * 8 + 1, none⟩ = some (.string typ) ∧ w.cell? ⟨ba, i * 8 + 2, none⟩ = some (.string ten)
theorem acc_of {w : World} {g : Nat} {S : Array Value} {fr : Nat × Nat} (h : w.heap[g]? = some (.cells S 36 fr)) (i : Nat) (typ ten : ByteArray) (h1 : S[i * 8 + 1]? = some (.string typ)) (h2 : S[i * 8 + 2]? = some (.string ten)) : Acc w g i typ ten :=
  ⟨by rw [cellw h]; exact h1, by rw [cellw h]; exact h2⟩

set_option maxHeartbeats 1000000 in
theorem newPolicy2 (a0 a1 a2 a3 a4 a5 : ByteArray) (w : World) (h03 : (a0.toList == a3.toList) = false) (h30 : (a3.toList == a0.toList) = false) :
    Calls Try.prog 7 #[.string a0, .string a1, .string a2, .string a3, .string a4, .string a5] w fun e w' =>
      ∃ bp ba bm, e = .returned (.pointer (some ⟨bp, 0, none⟩)) ∧ Pol w' bp ba bm 2 (look2 a0 a3) ∧ Acc w' ba 0 a1 a2 ∧ Acc w' ba 1 a4 a5 ∧ Below w.heap.size w w' := by
  have hmm := @run_makeMap Try.prog
  have u38 : Try.prog.underlying 38 = some (.map 9 3) := by kernel_rfl
  have u9 : Try.prog.underlying 9 = some .string := by kernel_rfl
  have iA0 := fun S => insA (P := Try.prog) w 38 9 3 S #[] 0 a0 0 u38 u9 (find_nil a0)
  have iA1 := fun S => insA (P := Try.prog) w 38 9 3 S #[] 0 a3 1 u38 u9 (find_nil a3)
  have iA2 := fun S => insA (P := Try.prog) w 38 9 3 S #[en a0 0 0] 1 a3 1 u38 u9 (find_one a3 a0 0 0 h30)
  have iA3 := fun S => insA (P := Try.prog) w 38 9 3 S #[en a3 1 0] 1 a0 0 u38 u9 (find_one a0 a3 1 0 h03)
  have iB0 := insB (P := Try.prog) w 38 9 3 #[] 0 a0 0 u38 u9 (find_nil a0)
  have iB1 := insB (P := Try.prog) w 38 9 3 #[] 0 a3 1 u38 u9 (find_nil a3)
  have iB2 := insB (P := Try.prog) w 38 9 3 #[en a0 0 0] 1 a3 1 u38 u9 (find_one a3 a0 0 0 h30)
  have iB3 := insB (P := Try.prog) w 38 9 3 #[en a3 1 0] 1 a0 0 u38 u9 (find_one a0 a3 1 0 h03)
  have iC0 := fun S => insC (P := Try.prog) w 38 9 3 S #[] 0 a0 0 u38 u9 (find_nil a0)
  have iC1 := fun S => insC (P := Try.prog) w 38 9 3 S #[] 0 a3 1 u38 u9 (find_nil a3)
  have iC2 := fun S => insC (P := Try.prog) w 38 9 3 S #[en a0 0 0] 1 a3 1 u38 u9 (find_one a3 a0 0 0 h30)
  have iC3 := fun S => insC (P := Try.prog) w 38 9 3 S #[en a3 1 0] 1 a0 0 u38 u9 (find_one a0 a3 1 0 h03)
  have H21 := hide (look_21 a0 a3 h03)
  clear u38 u9 h03 h30
  simp only [List.push_toArray, List.nil_append, List.cons_append, Nat.zero_add, Nat.reduceAdd] at iA0 iA1 iA2 iA3 iB0 iB1 iB2 iB3 iC0 iC1 iC2 iC3
  go_enter Try.func7, Try.ntmps7
  go_wp2
  go_region
  all_goals clear iA0 iA1 iA2 iA3 iB0 iB1 iB2 iB3 iC0 iC1 iC2 iC3 hmm
  all_goals go_wp2
  all_goals go_ret
  all_goals first
    | exact ⟨_, _, _, rfl, polA w _ _ 2 _ _ _ _ _ _ _ _ _ (look2_lt a0 a3) (look_12 a0 a3), acc_of (heap_at0 _ _ _ _) 0 _ _ rfl rfl, acc_of (heap_at0 _ _ _ _) 1 _ _ rfl rfl, below3 _ _ _ _⟩
    | exact ⟨_, _, _, rfl, polA w _ _ 2 _ _ _ _ _ _ _ _ _ (look2_lt a0 a3) (unhide H21), acc_of (heap_at0 _ _ _ _) 0 _ _ rfl rfl, acc_of (heap_at0 _ _ _ _) 1 _ _ rfl rfl, below3 _ _ _ _⟩
    | exact ⟨_, _, _, rfl, polB w _ _ 2 _ _ _ _ _ _ _ _ _ (look2_lt a0 a3) (look_12 a0 a3), acc_of (heap_at1 _ _ _ _) 0 _ _ rfl rfl, acc_of (heap_at1 _ _ _ _) 1 _ _ rfl rfl, below3 _ _ _ _⟩
    | exact ⟨_, _, _, rfl, polB w _ _ 2 _ _ _ _ _ _ _ _ _ (look2_lt a0 a3) (unhide H21), acc_of (heap_at1 _ _ _ _) 0 _ _ rfl rfl, acc_of (heap_at1 _ _ _ _) 1 _ _ rfl rfl, below3 _ _ _ _⟩

theorem Pol.undrew {w : World} {bp ba bm n : Nat} {look : ByteArray → Option Nat} (h : Pol w.drew bp ba bm n look) : Pol w bp ba bm n look := ⟨h.hp, h.hm, h.hmap, h.hlt, h.bp_lt, h.ba_lt, h.bm_lt⟩
theorem Acc.undrew {w : World} {ba i : Nat} {typ ten : ByteArray} (h : Acc w.drew ba i typ ten) : Acc w ba i typ ten := h
theorem below3' (w : World) (o1 o2 o3 : Obj) : Below w.heap.size w (((w.alloc o1).alloc o2).alloc o3) :=
  (((Below.refl _ _).alloc (Nat.le_refl _) _).alloc (by simp) _).alloc (by simp; omega) _
theorem insD {P : Program} (w : World) (mty kt et : TypeId) (S : Obj) (es : Array MapEntry) (c : Nat) (s : ByteArray) (n : Int) (hm : P.underlying mty = some (.map kt et)) (hk : P.underlying kt = some .string) (hf : Instr.findNow .string (.string s) es.toList 0 = some none) :
    (Instr.mapUpdate mty (.map (some (w.heap.size + 1))) (.string s) (.int .i64 n)).run P ((w.alloc S).alloc (.map es c)) = .ok () ((w.alloc S).alloc (.map (es.push (en s n c)) (c + 1))) := by
  have e : w.heap.size + 1 = (w.alloc S).heap.size := by simp
  rw [e, ins_gen _ mty kt et (w.alloc S).heap.size c es s _ hm hk (by show ((w.alloc S).heap.push _)[(w.alloc S).heap.size]? = _; exact Array.getElem?_push_size) hf]
  have h2 : ({ ((w.alloc S).alloc (.map es c)) with heap := ((w.alloc S).heap.push (.map es c)).setIfInBounds (w.alloc S).heap.size (.map (es.push (en s n c)) (c + 1)) } : World) = (w.alloc S).alloc (.map (es.push (en s n c)) (c + 1)) := by
    rw [arr_set_last]; rfl
  exact congrArg _ h2

set_option maxHeartbeats 1000000 in
set_option maxRecDepth 10000 in
theorem newPolicy1 (a0 a1 a2 : ByteArray) (w : World) :
    Calls Try.prog 10 #[.string a0, .string a1, .string a2] w fun e w' =>
      ∃ bp ba bm, e = .returned (.pointer (some ⟨bp, 0, none⟩)) ∧ Pol w' bp ba bm 1 (look1 a0) ∧ Acc w' ba 0 a1 a2 ∧ Below w.heap.size w w' := by
  have hmm := @run_makeMap Try.prog
  have u38 : Try.prog.underlying 38 = some (.map 9 3) := by kernel_rfl
  have u9 : Try.prog.underlying 9 = some .string := by kernel_rfl
  have iA0 := fun S => insD (P := Try.prog) w 38 9 3 S #[] 0 a0 0 u38 u9 (find_nil a0)
  clear u38 u9
  simp only [List.push_toArray, List.nil_append, Nat.zero_add] at iA0
  go_enter Try.func10, Try.ntmps10
  go_wp2
  go_ret
  exact ⟨_, _, _, rfl, (polA w _ _ 1 _ _ _ _ _ _ _ _ _ (look1_lt a0) (look_1 a0)).undrew, (acc_of (heap_at0 _ _ _ _) 0 _ _ rfl rfl).undrew, below3' _ _ _ _⟩

theorem info36 : Try.prog.info? 36 = some (Try.prog.info? 36).get! := by kernel_rfl
/-- zzDecideOwn at an account that the policy defines: true -/
theorem orS_empty (t : ByteArray) : orS ⟨#[]⟩ t = t := orS_no (by simp [ByteArray.toList_eq])
theorem orS_same (t : ByteArray) : orS t t = t := by unfold orS; split <;> rfl
set_option maxHeartbeats 1000000 in
set_option maxRecDepth 100000 in
theorem decideOwn (w : World) (bp ba bm n : Nat) (look : ByteArray → Option Nat) (hP : Pol w bp ba bm n look) (i : Nat) (id typ ten t : ByteArray) (hq : look id = some i) (hA : Acc w ba i typ ten) :
    Calls Try.prog 8 #[.pointer (some ⟨bp, 0, none⟩), .int .i64 i, .string id, .string typ, .string ten, .string t] w fun e w' => e = .returned (.bool true) ∧ Below w.heap.size w w' := by
  have hd : ∀ W u, Below w.heap.size w W → Calls Try.prog 11 #[.pointer (some ⟨bp, 0, none⟩), .string id, .string u] W fun e w' => e = .returned (.tuple #[.pointer (some ⟨ba, i * 8, none⟩), .string (orS u ten), .bool (superB typ)]) ∧ Below w.heap.size w w' := by
    intro W u hb
    have h1 : W.cell? ⟨ba, i * 8 + 1, none⟩ = some (.string typ) := by rw [hb.cell (p := ⟨ba, i * 8 + 1, none⟩) hP.ba_lt]; exact hA.1
    have h2 : W.cell? ⟨ba, i * 8 + 2, none⟩ = some (.string ten) := by rw [hb.cell (p := ⟨ba, i * 8 + 2, none⟩) hP.ba_lt]; exact hA.2
    exact (zzdecide_some W bp ba bm n look (hP.kept hb) id u typ ten i hq h1 h2).mono fun e w' ⟨he, hb'⟩ => ⟨he, hb.trans (hb'.mono hb.size)⟩
  have HD := hide hd
  have HA := hide (accountAt w bp ba bm n look hP i (hP.hlt id i hq))
  clear hd hP hq hA
  obtain ⟨j, hj⟩ : ∃ j, Try.prog.info? 36 = some j := ⟨_, info36⟩
  have heq : ∀ W, (binOp .eql 29 (.pointer (some ⟨ba, i * 8, none⟩)) (.pointer (some ⟨ba, i * 8, none⟩))).run Try.prog W = .ok (.bool true) W := fun W => run_eql_ptr_same (w := W) _ Try.underlying29 hj
  clear hj
  have e1 := orS_empty ten
  have e2 := orS_same ten
  have hs : (typ.toList == [115, 117, 112, 101, 114, 95, 97, 100, 109, 105, 110]) = superB typ := rfl
  cases ht : t.toList.isEmpty
  · have e3 : orS t ten = t := orS_yes ht
    go_enter Try.func8, Try.ntmps8
    go_wp2_with (first | (go_at_call 12; refine (unhide HA).mono ?_; rintro e w1 ⟨rfl, rfl⟩) | (go_at_call 11; refine (unhide HD _ _ (by first | exact Below.refl _ _ | assumption)).mono ?_; rintro e w1 ⟨rfl, hb⟩))
    go_ret
    exact ⟨rfl, by assumption⟩
  · have e3 : orS t ten = ten := orS_no ht
    go_enter Try.func8, Try.ntmps8
    go_wp2_with (first | (go_at_call 12; refine (unhide HA).mono ?_; rintro e w1 ⟨rfl, rfl⟩) | (go_at_call 11; refine (unhide HD _ _ (by first | exact Below.refl _ _ | assumption)).mono ?_; rintro e w1 ⟨rfl, hb⟩))
    go_ret
    exact ⟨rfl, by assumption⟩
end Go.Proofs.Qxb6613326a
