/-
  ZZpayloads by a contract.
-/
import Derived.Test.Qxb6614154aCln
import Derived.OwnWalk
namespace Go.Proofs.Qxb6614154a
open Go.ChangeShapes Go.WideShapes Go.ChangeAt Go.RowKit
set_option linter.unusedSimpArgs false
set_option linter.unusedVariables false
theorem own_slice {w : World} {B : Nat} {e : TypeId} {v : Value} {n : Nat} {xs : List Value} (h : w.ownsRow B e 1 v n xs) : ∃ x c, v = .slice x n c := by
  rcases h.2 with ⟨rfl, rfl⟩ | ⟨g, cap, cur, rfl, _⟩
  · exact ⟨none, 0, rfl⟩
  · exact ⟨_, _, rfl⟩
theorem ErrIs.val {ok : Bool} {e : Ending} (h : ErrIs ok e) : ∃ er, e = .returned er ∧ ErrIs ok (.returned er) := by
  rcases h with ⟨h1, rfl⟩ | ⟨h1, a, rfl⟩
  · exact ⟨_, rfl, .inl ⟨h1, rfl⟩⟩
  · exact ⟨_, rfl, .inr ⟨h1, a, rfl⟩⟩
theorem upd_comb {X Y : Nat → Prop} {w W w' : World} (h1 : Upd (fun _ => False) w W) (h2 : Upd X W w') (hxy : ∀ k, k < w.heap.size → X k → Y k) : Upd Y w w' :=
  ⟨h2.os.trans h1.os, h2.tape.trans h1.tape, h2.output.trans h1.output, Nat.le_trans h1.size h2.size, fun k hk hy => (h2.block k (Nat.lt_of_lt_of_le hk h1.size) (fun hx => hy (hxy k hk hx))).trans (h1.block k hk (fun h => h))⟩
/-- what ZZpayloads gives -/
def ZzPost (B : Nat) (F : List Int × List Int × Bool) (vd0 ve0 : Value) (w : World) (r : Ending) (w' : World) : Prop :=
  ∃ vd ve er, r = .returned (.tuple #[vd, ve, er]) ∧ ErrIs F.2.2 (.returned er) ∧ w'.ownsRow B 5 1 vd F.1.length (B8 F.1) ∧ w'.ownsRow B 3 1 ve F.2.1.length (I64 F.2.1) ∧ Upd (fun k => some k = vd0.ownBlock ∨ some k = ve0.ownBlock) w w'
theorem unit_step {wr : World} {gu k : Nat} {L : List Un} {x : Un} (hx : L[k]? = some x) (h : Units wr gu (L.take k ++ List.replicate (L.length - k) zeroUn)) : Units (wr.drew.setCells gu (k * 10) x.cells) gu (L.take (k + 1) ++ List.replicate (L.length - (k + 1)) zeroUn) := by
  have hl : k < L.length := (List.getElem?_eq_some_iff.1 hx).1
  have e : L.length - k = (L.length - (k + 1)) + 1 := by omega
  rw [e, List.replicate_succ] at h
  have h2 := units_set (w := wr.drew) (x := x) h
  rw [show (L.take k).length = k by simp; omega] at h2
  rw [List.take_add_one, hx]
  simpa using h2
theorem payl_boxed (B gs cs en gu : Nat) (S : List Int) (L : List Un) (mp : Int) (M : Nat) (vd0 ve0 : Value) (D0 E0 : List Int) (w wr : World) (c : Array Value)
    (hU : Units wr gu (L.take L.length ++ List.replicate (L.length - L.length) zeroUn)) (hw : Upd (fun _ => False) w wr) (hc : c[2]? = some (.int .i64 (en : Int))) (hS : Bytes w gs S) (kS : ∃ c, w.heap[gs]? = some (.cells c 5 (0, 0)))
    (hod : w.ownsRow B 5 1 vd0 D0.length (B8 D0)) (hoe : w.ownsRow B 3 1 ve0 E0.length (I64 E0)) (hB : B ≤ w.heap.size)
    (hgs : some gs ≠ vd0.ownBlock) (lie : Lie L en) (hen : (en + 7) / 8 ≤ S.length) (good : ∀ x ∈ L, x.good)
    (hcs : S.length ≤ cs) (hcl : cs ≤ 1099511627776) (hM : M ≤ 1000000000000) (hD : D0.length + L.length * (S.length + 4) ≤ M) (hE : E0.length + L.length ≤ M) (hSl : S.length ≤ 1000000000) :
    Calls Try.prog 22 #[.pointer (some ⟨wr.heap.size, 0, none⟩), .pointer (some ⟨wr.heap.size + 1, 0, none⟩), .slice (some ⟨gs, 0, none⟩) S.length cs, .slice (some ⟨gu, 0, none⟩) L.length L.length, .int .i64 mp] ((wr.alloc (.cells c 54)).alloc (.cells #[vd0, ve0] 57)) fun r w' =>
      ∃ er vd ve, r = .returned er ∧ ErrIs (cutRun S L en (limI mp) L.length 0 D0 E0).2.2 (.returned er) ∧ w'.cell? ⟨wr.heap.size + 1, 0, none⟩ = some vd ∧ w'.cell? ⟨wr.heap.size + 1, 1, none⟩ = some ve ∧
        Hid (w'.ownsRow B 5 1 vd (cutRun S L en (limI mp) L.length 0 D0 E0).1.length (B8 (cutRun S L en (limI mp) L.length 0 D0 E0).1) ∧
        w'.ownsRow B 3 1 ve (cutRun S L en (limI mp) L.length 0 D0 E0).2.1.length (I64 (cutRun S L en (limI mp) L.length 0 D0 E0).2.1) ∧ Upd (fun k => some k = vd0.ownBlock ∨ some k = ve0.ownBlock) w w') := by
  have U1 : Upd (fun _ => False) wr ((wr.alloc (.cells c 54)).alloc (.cells #[vd0, ve0] 57)) := ((Upd.refl _ wr).alloc _).alloc _
  have U2 := hw.trans U1
  obtain ⟨c5, k5⟩ := kS
  have gl : gs < w.heap.size := (Array.getElem?_eq_some_iff.1 k5).1
  have kk := U2.block gs gl (fun h => h)
  have hU' : Units ((wr.alloc (.cells c 54)).alloc (.cells #[vd0, ve0] 57)) gu L := by
    rw [Nat.sub_self, List.replicate_zero, List.append_nil, List.take_length] at hU
    exact (U1.block gu (Array.getElem?_eq_some_iff.1 hU).1 (fun h => h)).trans hU
  refine (payloads_any B (wr.heap.size + 1) gu L.length gs cs wr.heap.size en S L mp M vd0 ve0 D0 E0 _ hU' (hS.kept kk) ⟨c5, kk.trans k5⟩ ⟨c, (Below.heap_alloc _ _ _ (by simp)).trans (heap_alloc_new wr _), hc⟩
    (show ((wr.alloc (.cells c 54)).alloc (.cells #[vd0, ve0] 57)).heap[wr.heap.size + 1]? = some (.cells #[vd0, ve0] 57 (0, 0)) by
      have e : wr.heap.size + 1 = (wr.alloc (.cells c 54)).heap.size := by simp
      rw [e]; exact heap_alloc_new _ _)
    (own_row_step hod U2 (fun _ _ h => h)) (own_row_step hoe U2 (fun _ _ h => h)) (Nat.le_trans hB U2.size) hgs lie hen good hcs hcl hM hD hE hSl).mono ?_
  rintro r w' ⟨he, vd, ve, hb, hd, hoe', hu⟩
  obtain ⟨er, rfl, her⟩ := he.val
  refine ⟨er, vd, ve, rfl, her, Joins.cell_of_block hb 0, Joins.cell_of_block hb 1, hide ⟨hd, hoe', upd_comb U2 hu (fun k hk hx => ?_)⟩⟩
  rcases hx with e | e | e
  · have := hw.size; omega
  · exact .inl e
  · exact .inr e
theorem un_one (x : Un) : x.cells.toArray.all (·.oneCell') = true := all_oneCell_toArray (fun v hv => by
  simp only [Un.cells, List.mem_cons, List.not_mem_nil, or_false] at hv
  rcases hv with rfl | rfl | rfl | rfl | rfl | rfl | rfl | rfl | rfl | rfl <;> rfl)
theorem step_store_mid {P : Program} {ops : Array Oper} {o : Oper} {a : Act} {w : World} {K : Act → World → Prop} {Q : Exit → Act → World → Prop} {E : Prop}
    (hgd : o.guard = none) (ty : TypeId) (x y : Operand) (ho : o.op = .store ty x y) (b of : Nat) (cells : Array Value) (hx : a.eval x = .pointer (some ⟨b, of, none⟩)) (hy : a.eval y = .agg cells)
    (ht : w.there b of cells.size) (hi : (P.info? ty).map (·.size) = some cells.size) (h1 : cells.all (·.oneCell') = true) (h : K (a.put o.dst undef) (w.setCells b of cells.toList)) :
    if Region.wanted o (yielded ops a.tmps) = true then Oper.wp P o a w K Q else E := by
  have hw : Region.wanted o (yielded ops a.tmps) = true := by simp [Region.wanted, hgd]
  rw [if_pos hw]
  exact wp_store_mid ty x y ho b of cells hx hy ht hi h1 h
theorem cell_set {w : World} {g b k o : Nat} {v : Value} {vs : List Value} (hne : g ≠ b) (h : w.cell? ⟨g, k, none⟩ = some v) : (w.drew.setCells b o vs).cell? ⟨g, k, none⟩ = some v := by
  rw [World.cell?_setCells_out b vs o w.drew ⟨g, k, none⟩ (fun e _ => absurd e hne)]; exact h

set_option maxRecDepth 8000 in
set_option maxHeartbeats 4000000 in
theorem zz_any (B gs cs ga gi gg gm gq gh gv c1 c2 c3 c4 c5 c6 c7 en : Nat) (S : List Int) (L : List Un) (mp : Int) (M : Nat) (vd0 ve0 : Value) (D0 E0 : List Int) (w : World)
    (h7 : Seven w ga gi gg gm gq gh gv L) (hS : Bytes w gs S) (kS : ∃ c, w.heap[gs]? = some (.cells c 5 (0, 0)))
    (hod : w.ownsRow B 5 1 vd0 D0.length (B8 D0)) (hoe : w.ownsRow B 3 1 ve0 E0.length (I64 E0)) (hB : B ≤ w.heap.size)
    (hgs : some gs ≠ vd0.ownBlock) (lie : Lie L en) (hen : (en + 7) / 8 ≤ S.length) (good : ∀ x ∈ L, x.good) (hpos : 0 < L.length)
    (hcs : S.length ≤ cs) (hcl : cs ≤ 1099511627776) (hM : M ≤ 1000000000000) (hD : D0.length + L.length * (S.length + 4) ≤ M) (hE : E0.length + L.length ≤ M) (hSl : S.length ≤ 1000000000) :
    Calls Try.prog 16 #[.int .i64 (en : Int), vd0, ve0, .slice (some ⟨gs, 0, none⟩) S.length cs, .slice (some ⟨ga, 0, none⟩) L.length c1, .slice (some ⟨gg, 0, none⟩) L.length c3, .slice (some ⟨gm, 0, none⟩) L.length c4, .slice (some ⟨gq, 0, none⟩) L.length c5, .slice (some ⟨gh, 0, none⟩) L.length c6, .slice (some ⟨gv, 0, none⟩) L.length c7, .slice (some ⟨gi, 0, none⟩) L.length c2, .int .i64 mp] w (ZzPost B (cutRun S L en (limI mp) L.length 0 D0 E0) vd0 ve0 w) := by
  obtain ⟨xd, cd, rfl⟩ := own_slice hod
  obtain ⟨xe, ce, rfl⟩ := own_slice hoe
  obtain ⟨i0, hi, hz0, hz1, hz2⟩ := info_parts info50
  have hLl : L.length ≤ 1000000000000 := by omega
  have H7 := hide h7
  have HS := hide hS
  have HkS := hide kS
  have HOD := hide hod
  have HOE := hide hoe
  have HGS := hide hgs
  have HLIE := hide lie
  have HGOOD := hide good
  clear h7 hS kS hod hoe hgs lie good
  have HST : Hid (Units (w.alloc (.cells (unitRow (List.replicate L.length zeroUn)).toArray 50)) w.heap.size (L.take 0 ++ List.replicate (L.length - 0) zeroUn) ∧ Upd (fun _ => False) w (w.alloc (.cells (unitRow (List.replicate L.length zeroUn)).toArray 50))) := hide ⟨by simpa [Units] using heap_alloc_new w _, (Upd.refl _ w).alloc _⟩
  go_enter Try.func16, Try.ntmps16
  go_wp2_with (at_make; refine wpList_make_alloc _ rfl (.tmp 33) (.tmp 33) 46 rfl 50 i0 _ 10 Try.underlying46 hi hz0 hz1 .i64 .i64 L.length rfl rfl (by rw [hz2]; omega) (by unfold maxLen; omega) (unitRow (List.replicate L.length zeroUn)) (made_units _) ?_)
  clear hi hz0 hz1 hz2
  go_wp2
  go_loopw [37] (fun i wr => ∃ k : Nat, i = .int .i64 (k : Int) ∧ k ≤ L.length ∧ Hid (Units wr w.heap.size (L.take k ++ List.replicate (L.length - k) zeroUn) ∧ Upd (fun _ => False) w wr)) (fun i _ => L.length - (intOf i).toNat)
  case atStart => exact ⟨0, by go_num, by omega, HST⟩
  case round =>
    obtain ⟨k, rfl, hk, HI⟩ := hrel
    clear HST
    by_cases hkl : k < L.length
    · have hl1 : (k : Int) < (L.length : Int) := by omega
      obtain ⟨x, hx⟩ : ∃ x, L[k]? = some x := ⟨_, List.getElem?_eq_getElem hkl⟩
      have h7 := (unhide H7).kept (unhide HI).2
      have HS0 : Hid (wr.drew.cell? ⟨ga, k, none⟩ = some (.int .i64 (x.ats : Int)) ∧ wr.drew.cell? ⟨gi, k, none⟩ = some (.bool x.i) ∧ wr.drew.cell? ⟨gg, k, none⟩ = some (.int .u8 x.g) ∧ wr.drew.cell? ⟨gm, k, none⟩ = some (.int .u8 x.m) ∧ wr.drew.cell? ⟨gq, k, none⟩ = some (.int .u8 x.q) ∧ wr.drew.cell? ⟨gh, k, none⟩ = some (.int .i8 x.h) ∧ wr.drew.cell? ⟨gv, k, none⟩ = some (.int .i8 x.u)) := hide ⟨h7.a k x hx, h7.b k x hx, h7.c k x hx, h7.d k x hx, h7.e k x hx, h7.f k x hx, h7.g k x hx⟩
      have HT0 : Hid (wr.drew.there w.heap.size (k * 10) 10) := hide (units_there (unhide HI).1 (by simp; omega))
      have hne : ∀ g v, w.cell? ⟨g, k, none⟩ = some v → g ≠ w.heap.size := fun g v h e => by have := World.block_lt_of_cell? w _ h; simp at this; omega
      have HS1 : Hid ((wr.drew.setCells w.heap.size (k * 10) x.cells.toArray.toList).cell? ⟨ga, k, none⟩ = some (.int .i64 (x.ats : Int)) ∧ (wr.drew.setCells w.heap.size (k * 10) x.cells.toArray.toList).cell? ⟨gi, k, none⟩ = some (.bool x.i) ∧ (wr.drew.setCells w.heap.size (k * 10) x.cells.toArray.toList).cell? ⟨gg, k, none⟩ = some (.int .u8 x.g) ∧ (wr.drew.setCells w.heap.size (k * 10) x.cells.toArray.toList).cell? ⟨gm, k, none⟩ = some (.int .u8 x.m) ∧ (wr.drew.setCells w.heap.size (k * 10) x.cells.toArray.toList).cell? ⟨gq, k, none⟩ = some (.int .u8 x.q) ∧ (wr.drew.setCells w.heap.size (k * 10) x.cells.toArray.toList).cell? ⟨gh, k, none⟩ = some (.int .i8 x.h) ∧ (wr.drew.setCells w.heap.size (k * 10) x.cells.toArray.toList).cell? ⟨gv, k, none⟩ = some (.int .i8 x.u)) := hide ⟨cell_set (hne _ _ ((unhide H7).a k x hx)) (h7.a k x hx), cell_set (hne _ _ ((unhide H7).b k x hx)) (h7.b k x hx), cell_set (hne _ _ ((unhide H7).c k x hx)) (h7.c k x hx), cell_set (hne _ _ ((unhide H7).d k x hx)) (h7.d k x hx), cell_set (hne _ _ ((unhide H7).e k x hx)) (h7.e k x hx), cell_set (hne _ _ ((unhide H7).f k x hx)) (h7.f k x hx), cell_set (hne _ _ ((unhide H7).g k x hx)) (h7.g k x hx)⟩
      have HX := hide hx
      clear hx h7 hne
      go_wp2
      refine wp_region_held_drew (S := fun w' => w'.cell? ⟨ga, k, none⟩ = some (.int .i64 (x.ats : Int)) ∧ w'.cell? ⟨gi, k, none⟩ = some (.bool x.i) ∧ w'.cell? ⟨gg, k, none⟩ = some (.int .u8 x.g) ∧ w'.cell? ⟨gm, k, none⟩ = some (.int .u8 x.m) ∧ w'.cell? ⟨gq, k, none⟩ = some (.int .u8 x.q) ∧ w'.cell? ⟨gh, k, none⟩ = some (.int .i8 x.h) ∧ w'.cell? ⟨gv, k, none⟩ = some (.int .i8 x.u)) (by kernel_rfl) (unhide HS0) (fun hHeld => ?_)
      refine wpAnyH_take (i := 0) (v := ?_) rfl (by kernel_rfl) (by kernel_rfl) (by kernel_rfl) (fun _ _ _ h => h) (Or.inl ⟨by rfl, ?_⟩) (by assumption) ?_
      rotate_left
      · intro w hSw; go_simp; try with_reducible rfl
      simp only [Act.put, List.getElem_toArray, List.getElem_cons_zero, List.getElem_cons_succ, List.setIfInBounds_toArray, List.set_cons_zero, List.set_cons_succ]
      refine wpAnyH_take (i := 1) (v := ?_) rfl (by kernel_rfl) (by kernel_rfl) (by kernel_rfl) (fun _ _ _ h => h) (Or.inl ⟨by rfl, ?_⟩) (by assumption) ?_
      rotate_left
      · intro w hSw; go_simp; try with_reducible rfl
      simp only [Act.put, List.getElem_toArray, List.getElem_cons_zero, List.getElem_cons_succ, List.setIfInBounds_toArray, List.set_cons_zero, List.set_cons_succ]
      refine wpAnyH_take (i := 2) (v := ?_) rfl (by kernel_rfl) (by kernel_rfl) (by kernel_rfl) (fun _ _ _ h => h) (Or.inl ⟨by rfl, ?_⟩) (by assumption) ?_
      rotate_left
      · intro w hSw; go_simp; try with_reducible rfl
      simp only [Act.put, List.getElem_toArray, List.getElem_cons_zero, List.getElem_cons_succ, List.setIfInBounds_toArray, List.set_cons_zero, List.set_cons_succ]
      refine wpAnyH_take (i := 3) (v := ?_) rfl (by kernel_rfl) (by kernel_rfl) (by kernel_rfl) (fun _ _ _ h => h) (Or.inl ⟨by rfl, ?_⟩) (by assumption) ?_
      rotate_left
      · intro w hSw; go_simp; try with_reducible rfl
      simp only [Act.put, List.getElem_toArray, List.getElem_cons_zero, List.getElem_cons_succ, List.setIfInBounds_toArray, List.set_cons_zero, List.set_cons_succ]
      refine wpAnyH_take (i := 4) (v := ?_) rfl (by kernel_rfl) (by kernel_rfl) (by kernel_rfl) (fun _ _ _ h => h) (Or.inl ⟨by rfl, ?_⟩) (by assumption) ?_
      rotate_left
      · intro w hSw; go_simp; try with_reducible rfl
      simp only [Act.put, List.getElem_toArray, List.getElem_cons_zero, List.getElem_cons_succ, List.setIfInBounds_toArray, List.set_cons_zero, List.set_cons_succ]
      refine wpAnyH_take (i := 5) (v := ?_) rfl (by kernel_rfl) (by kernel_rfl) (by kernel_rfl) (fun _ _ _ h => h) (Or.inl ⟨by rfl, ?_⟩) (by assumption) ?_
      rotate_left
      · intro w hSw; go_simp; try with_reducible rfl
      simp only [Act.put, List.getElem_toArray, List.getElem_cons_zero, List.getElem_cons_succ, List.setIfInBounds_toArray, List.set_cons_zero, List.set_cons_succ]
      refine wpAnyH_take (i := 6) (v := ?_) rfl (by kernel_rfl) (by kernel_rfl) (by kernel_rfl) (fun _ _ _ h => h) (Or.inl ⟨by rfl, ?_⟩) (by assumption) ?_
      rotate_left
      · intro w hSw; go_simp; try with_reducible rfl
      simp only [Act.put, List.getElem_toArray, List.getElem_cons_zero, List.getElem_cons_succ, List.setIfInBounds_toArray, List.set_cons_zero, List.set_cons_succ]
      refine wpAnyH_take (i := 7) (v := ?_) rfl (by kernel_rfl) (by kernel_rfl) (by kernel_rfl) (fun _ _ _ h => h) (Or.inl ⟨by rfl, ?_⟩) (by assumption) ?_
      rotate_left
      · intro w hSw; go_simp; try with_reducible rfl
      simp only [Act.put, List.getElem_toArray, List.getElem_cons_zero, List.getElem_cons_succ, List.setIfInBounds_toArray, List.set_cons_zero, List.set_cons_succ]
      refine wpAnyH_take (i := 8) (v := ?_) rfl (by kernel_rfl) (by kernel_rfl) (by kernel_rfl) (fun _ _ _ h => h) (Or.inl ⟨by rfl, ?_⟩) (by assumption) ?_
      rotate_left
      · intro w hSw; go_simp; try with_reducible rfl
      simp only [Act.put, List.getElem_toArray, List.getElem_cons_zero, List.getElem_cons_succ, List.setIfInBounds_toArray, List.set_cons_zero, List.set_cons_succ]
      refine wpAnyH_take (i := 9) (v := ?_) rfl (by kernel_rfl) (by kernel_rfl) (by kernel_rfl) (fun _ _ _ h => h) (Or.inl ⟨by rfl, ?_⟩) (by assumption) ?_
      rotate_left
      · intro w hSw; go_simp; try with_reducible rfl
      simp only [Act.put, List.getElem_toArray, List.getElem_cons_zero, List.getElem_cons_succ, List.setIfInBounds_toArray, List.set_cons_zero, List.set_cons_succ]
      refine wpAnyH_take (i := 10) (v := ?_) rfl (by kernel_rfl) (by kernel_rfl) (by kernel_rfl) (fun _ _ _ h => h) (Or.inl ⟨by rfl, ?_⟩) (by assumption) ?_
      rotate_left
      · intro w hSw; go_simp; try with_reducible rfl
      simp only [Act.put, List.getElem_toArray, List.getElem_cons_zero, List.getElem_cons_succ, List.setIfInBounds_toArray, List.set_cons_zero, List.set_cons_succ]
      refine wpAnyH_take (i := 11) (v := ?_) rfl (by kernel_rfl) (by kernel_rfl) (by kernel_rfl) (fun _ _ _ h => h) (Or.inl ⟨by rfl, ?_⟩) (by assumption) ?_
      rotate_left
      · intro w hSw; go_simp; try with_reducible rfl
      simp only [Act.put, List.getElem_toArray, List.getElem_cons_zero, List.getElem_cons_succ, List.setIfInBounds_toArray, List.set_cons_zero, List.set_cons_succ]
      refine wpAnyH_take (i := 12) (v := ?_) rfl (by kernel_rfl) (by kernel_rfl) (by kernel_rfl) (fun _ _ _ h => h) (Or.inl ⟨by rfl, ?_⟩) (by assumption) ?_
      rotate_left
      · intro w hSw; go_simp; try with_reducible rfl
      simp only [Act.put, List.getElem_toArray, List.getElem_cons_zero, List.getElem_cons_succ, List.setIfInBounds_toArray, List.set_cons_zero, List.set_cons_succ]
      refine wpAnyH_take (i := 13) (v := ?_) rfl (by kernel_rfl) (by kernel_rfl) (by kernel_rfl) (fun _ _ _ h => h) (Or.inl ⟨by rfl, ?_⟩) (by assumption) ?_
      rotate_left
      · intro w hSw; go_simp; try with_reducible rfl
      simp only [Act.put, List.getElem_toArray, List.getElem_cons_zero, List.getElem_cons_succ, List.setIfInBounds_toArray, List.set_cons_zero, List.set_cons_succ]
      refine wpAnyH_take (i := 14) (v := ?_) rfl (by kernel_rfl) (by kernel_rfl) (by kernel_rfl) (fun _ _ _ h => h) (Or.inl ⟨by rfl, ?_⟩) (by assumption) ?_
      rotate_left
      · intro w hSw; go_simp; try with_reducible rfl
      simp only [Act.put, List.getElem_toArray, List.getElem_cons_zero, List.getElem_cons_succ, List.setIfInBounds_toArray, List.set_cons_zero, List.set_cons_succ]
      refine wpAnyH_take (i := 15) (v := ?_) rfl (by kernel_rfl) (by kernel_rfl) (by kernel_rfl) (fun _ _ _ h => h) (Or.inl ⟨by rfl, ?_⟩) (by assumption) ?_
      rotate_left
      · intro w hSw; go_simp; try with_reducible rfl
      simp only [Act.put, List.getElem_toArray, List.getElem_cons_zero, List.getElem_cons_succ, List.setIfInBounds_toArray, List.set_cons_zero, List.set_cons_succ]
      refine wpAnyH_take (i := 16) (v := ?_) rfl (by kernel_rfl) (by kernel_rfl) (by kernel_rfl) (fun _ _ _ h => h) (Or.inl ⟨by rfl, ?_⟩) (by assumption) ?_
      rotate_left
      · intro w hSw; go_simp; try with_reducible rfl
      simp only [Act.put, List.getElem_toArray, List.getElem_cons_zero, List.getElem_cons_succ, List.setIfInBounds_toArray, List.set_cons_zero, List.set_cons_succ]
      refine wpAnyH_take (i := 17) (v := ?_) rfl (by kernel_rfl) (by kernel_rfl) (by kernel_rfl) (fun _ _ _ h => h) (Or.inl ⟨by rfl, ?_⟩) (by assumption) ?_
      rotate_left
      · intro w hSw; go_simp; try with_reducible rfl
      simp only [Act.put, List.getElem_toArray, List.getElem_cons_zero, List.getElem_cons_succ, List.setIfInBounds_toArray, List.set_cons_zero, List.set_cons_succ]
      refine wpAnyH_take (i := 18) (v := ?_) rfl (by kernel_rfl) (by kernel_rfl) (by kernel_rfl) (fun _ _ _ h => h) (Or.inl ⟨by rfl, ?_⟩) (by assumption) ?_
      rotate_left
      · intro w hSw; go_simp; try with_reducible rfl
      simp only [Act.put, List.getElem_toArray, List.getElem_cons_zero, List.getElem_cons_succ, List.setIfInBounds_toArray, List.set_cons_zero, List.set_cons_succ]
      refine wpAnyH_take (i := 19) (v := ?_) rfl (by kernel_rfl) (by kernel_rfl) (by kernel_rfl) (fun _ _ _ h => h) (Or.inl ⟨by rfl, ?_⟩) (by assumption) ?_
      rotate_left
      · intro w hSw; go_simp; try with_reducible rfl
      simp only [Act.put, List.getElem_toArray, List.getElem_cons_zero, List.getElem_cons_succ, List.setIfInBounds_toArray, List.set_cons_zero, List.set_cons_succ]
      refine wpAnyH_take (i := 20) (v := ?_) rfl (by kernel_rfl) (by kernel_rfl) (by kernel_rfl) (fun _ _ _ h => h) (Or.inl ⟨by rfl, ?_⟩) (by assumption) ?_
      rotate_left
      · intro w hSw; go_simp; try with_reducible rfl
      simp only [Act.put, List.getElem_toArray, List.getElem_cons_zero, List.getElem_cons_succ, List.setIfInBounds_toArray, List.set_cons_zero, List.set_cons_succ]
      refine wpAnyH_take (i := 21) (v := ?_) rfl (by kernel_rfl) (by kernel_rfl) (by kernel_rfl) (fun _ _ _ h => h) (Or.inl ⟨by rfl, ?_⟩) (by assumption) ?_
      rotate_left
      · intro w hSw; go_simp; try with_reducible rfl
      simp only [Act.put, List.getElem_toArray, List.getElem_cons_zero, List.getElem_cons_succ, List.setIfInBounds_toArray, List.set_cons_zero, List.set_cons_succ]
      refine wpAnyH_take (i := 22) (v := ?_) rfl (by kernel_rfl) (by kernel_rfl) (by kernel_rfl) (fun _ _ _ h => h) (Or.inl ⟨by rfl, ?_⟩) (by assumption) ?_
      rotate_left
      · intro w hSw; go_simp; try with_reducible rfl
      simp only [Act.put, List.getElem_toArray, List.getElem_cons_zero, List.getElem_cons_succ, List.setIfInBounds_toArray, List.set_cons_zero, List.set_cons_succ]
      refine wpAnyH_take (i := 23) (v := ?_) rfl (by kernel_rfl) (by kernel_rfl) (by kernel_rfl) (fun _ _ _ h => h) (Or.inl ⟨by rfl, ?_⟩) (by assumption) ?_
      rotate_left
      · intro w hSw; go_simp; try with_reducible rfl
      simp only [Act.put, List.getElem_toArray, List.getElem_cons_zero, List.getElem_cons_succ, List.setIfInBounds_toArray, List.set_cons_zero, List.set_cons_succ]
      refine wpAnyH_take (i := 24) (v := ?_) rfl (by kernel_rfl) (by kernel_rfl) (by kernel_rfl) (fun _ _ _ h => h) (Or.inl ⟨by rfl, ?_⟩) (by assumption) ?_
      rotate_left
      · intro w hSw; go_simp; try with_reducible rfl
      simp only [Act.put, List.getElem_toArray, List.getElem_cons_zero, List.getElem_cons_succ, List.setIfInBounds_toArray, List.set_cons_zero, List.set_cons_succ]
      refine wpAnyH_take (i := 25) (v := ?_) rfl (by kernel_rfl) (by kernel_rfl) (by kernel_rfl) (fun _ _ _ h => h) (Or.inl ⟨by rfl, ?_⟩) (by assumption) ?_
      rotate_left
      · intro w hSw; go_simp; try with_reducible rfl
      simp only [Act.put, List.getElem_toArray, List.getElem_cons_zero, List.getElem_cons_succ, List.setIfInBounds_toArray, List.set_cons_zero, List.set_cons_succ]
      refine wpAnyH_take (i := 26) (v := ?_) rfl (by kernel_rfl) (by kernel_rfl) (by kernel_rfl) (fun _ _ _ h => h) (Or.inl ⟨by rfl, ?_⟩) (by assumption) ?_
      rotate_left
      · intro w hSw; go_simp; try with_reducible rfl
      simp only [Act.put, List.getElem_toArray, List.getElem_cons_zero, List.getElem_cons_succ, List.setIfInBounds_toArray, List.set_cons_zero, List.set_cons_succ]
      refine wpAnyH_take (i := 27) (v := ?_) rfl (by kernel_rfl) (by kernel_rfl) (by kernel_rfl) (fun _ _ _ h => h) (Or.inl ⟨by rfl, ?_⟩) (by assumption) ?_
      rotate_left
      · intro w hSw; go_simp; try with_reducible rfl
      simp only [Act.put, List.getElem_toArray, List.getElem_cons_zero, List.getElem_cons_succ, List.setIfInBounds_toArray, List.set_cons_zero, List.set_cons_succ]
      refine wpAnyH_take (i := 28) (v := ?_) rfl (by kernel_rfl) (by kernel_rfl) (by kernel_rfl) (fun _ _ _ h => h) (Or.inl ⟨by rfl, ?_⟩) (by assumption) ?_
      rotate_left
      · intro w hSw; go_simp; try with_reducible rfl
      simp only [Act.put, List.getElem_toArray, List.getElem_cons_zero, List.getElem_cons_succ, List.setIfInBounds_toArray, List.set_cons_zero, List.set_cons_succ]
      refine wpAnyH_take (i := 29) (v := ?_) rfl (by kernel_rfl) (by kernel_rfl) (by kernel_rfl) (fun _ _ _ h => h) (Or.inl ⟨by rfl, ?_⟩) (by assumption) ?_
      rotate_left
      · intro w hSw; go_simp; try with_reducible rfl
      simp only [Act.put, List.getElem_toArray, List.getElem_cons_zero, List.getElem_cons_succ, List.setIfInBounds_toArray, List.set_cons_zero, List.set_cons_succ]
      refine wpAnyH_take (i := 30) (v := ?_) rfl (by kernel_rfl) (by kernel_rfl) (by kernel_rfl) (fun _ _ _ h => h) (Or.inl ⟨by rfl, ?_⟩) (by assumption) ?_
      rotate_left
      · intro w hSw; go_simp; try with_reducible rfl
      simp only [Act.put, List.getElem_toArray, List.getElem_cons_zero, List.getElem_cons_succ, List.setIfInBounds_toArray, List.set_cons_zero, List.set_cons_succ]
      refine wpAnyH_take (i := 31) (v := ?_) rfl (by kernel_rfl) (by kernel_rfl) (by kernel_rfl) (fun _ _ _ h => h) (Or.inl ⟨by rfl, ?_⟩) (by assumption) ?_
      rotate_left
      · intro w hSw; go_simp; try with_reducible rfl
      simp only [Act.put, List.getElem_toArray, List.getElem_cons_zero, List.getElem_cons_succ, List.setIfInBounds_toArray, List.set_cons_zero, List.set_cons_succ]
      refine wpAnyH_take (i := 32) (v := ?_) rfl (by kernel_rfl) (by kernel_rfl) (by kernel_rfl) (fun _ _ _ h => h) (Or.inl ⟨by rfl, ?_⟩) (by assumption) ?_
      rotate_left
      · intro w hSw; go_simp; try with_reducible rfl
      simp only [Act.put, List.getElem_toArray, List.getElem_cons_zero, List.getElem_cons_succ, List.setIfInBounds_toArray, List.set_cons_zero, List.set_cons_succ]
      refine wpAnyH_ready (rs := [33]) (by kernel_rfl) (by simp) ?_
      refine AllReadyH.cons (i := 33) rfl (fun K hK => ?_) AllReadyH.nil
      rw [if_pos]
      rotate_left
      · kernel_rfl
      refine wp_store_mid 50 (.tmp 72) (.tmp 71) rfl w.heap.size (k * 10) x.cells.toArray rfl rfl (unhide HT0) info50s (un_one x) ?_
      refine hK.out _ _ (unhide HS1) (fun hHeld => ?_)
      clear hK K
      simp only [Act.put, List.getElem_toArray, List.getElem_cons_zero, List.getElem_cons_succ, List.setIfInBounds_toArray, List.set_cons_zero, List.set_cons_succ]
      refine wpAnyH_done (by kernel_rfl) ?_ _
      go_wp2
      exact ⟨⟨k + 1, by go_num, by omega, hide ⟨unit_step (unhide HX) (unhide HI).1, upd_setCells _ _ _ _ _ (unhide HI).2.drew (.inr (Nat.le_refl _))⟩⟩, by simp [intOf]; omega⟩
    · have hl1 : ¬ (k : Int) < (L.length : Int) := by omega
      obtain rfl : k = L.length := by omega
      have HP := hide (fun (c : Array Value) (hc : c[2]? = some (.int .i64 (en : Int))) => payl_boxed B gs cs en w.heap.size S L mp M (.slice xd D0.length cd) (.slice xe E0.length ce) D0 E0 w wr c (unhide HI).1 (unhide HI).2 hc (unhide HS) (unhide HkS) (unhide HOD) (unhide HOE) hB (unhide HGS) (unhide HLIE) hen (unhide HGOOD) hcs hcl hM hD hE hSl)
      clear HS HkS HOD HOE HGS HLIE HGOOD H7 HI hD hE
      go_wp2_with (go_at_call 22; refine (unhide HP _ (by rfl)).mono ?_; rintro r w1 ⟨er, vd, ve, rfl, her, hc0, hc1, HR⟩; have HER := hide her; clear her)
      go_quiet (fail)
      all_goals go_wp2
      all_goals go_ret3
      all_goals exact ⟨vd, ve, er, rfl, unhide HER, (unhide HR).1, (unhide HR).2.1, (unhide HR).2.2.drewN _⟩
end Go.Proofs.Qxb6614154a
