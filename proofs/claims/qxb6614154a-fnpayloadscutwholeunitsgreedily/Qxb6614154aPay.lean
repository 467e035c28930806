/-
  spanBytes and appendH261Payload by contracts.
-/
import Derived.Test.Qxb6614154aBin
namespace Go.Proofs.Qxb6614154a
open Go.ChangeShapes Go.WideShapes Go.ChangeAt Go.RowKit
set_option linter.unusedSimpArgs false
set_option linter.unusedVariables false

/-- SBIT and EBIT of the bits s .. e -/
def sbI (s : Nat) : Int := ((s % 8 : Nat) : Int)
def ebI (e : Nat) : Int := (((8 - e % 8) % 8 : Nat) : Int)
theorem sb_bd (s : Nat) : 0 ≤ sbI s ∧ sbI s ≤ 7 := by unfold sbI; omega
theorem eb_bd (e : Nat) : 0 ≤ ebI e ∧ ebI e ≤ 7 := by unfold ebI; omega

set_option maxHeartbeats 400000 in
theorem span_any (gs ns cs s e : Nat) (w : World) (hse : s < e) (he : (e + 7) / 8 ≤ ns) (hn : ns ≤ cs) (hc : cs ≤ 1099511627776) :
    Calls Try.prog 21 #[.slice (some ⟨gs, 0, none⟩) ns cs, .int .i64 s, .int .i64 e] w fun r w' =>
      r = .returned (.tuple #[.slice (some ⟨gs, s / 8, none⟩) ((e + 7) / 8 - s / 8) (cs - s / 8), .int .u8 (sbI s), .int .u8 (ebI e)]) ∧ w' = w := by
  have h1 : (e : Int) ≤ 8796093022208 := by omega
  have h2 : ((s : Int) / 8) ≤ ((e : Int) + 7) / 8 := by omega
  have h3 : ((e : Int) + 7) / 8 ≤ (ns : Int) := by omega
  go_enter Try.func21, Try.ntmps21
  go_wp2
  go_ret3
  have e1 : sbI s = ((s : Int) % 8) := by unfold sbI; omega
  have e2 : ebI e = (-((e : Int) % 8) % 8) := by unfold ebI; omega
  rw [e1, e2]
  exact ⟨rfl, rfl⟩

/-- the bytes of the stream that hold the bits s .. e -/
def win (S : List Int) (s e : Nat) : List Int := (S.drop (s / 8)).take ((e + 7) / 8 - s / 8)
theorem win_len (S : List Int) (s e : Nat) (h : (e + 7) / 8 ≤ S.length) : (win S s e).length = (e + 7) / 8 - s / 8 := by unfold win; simp; omega
theorem win_get (S : List Int) (s e j : Nat) (hj : j < (e + 7) / 8 - s / 8) : (win S s e)[j]? = S[s / 8 + j]? := by unfold win; simp [List.getElem?_take, hj]

/-- the stream's bytes lie at block gs -/
def Bytes (w : World) (gs : Nat) (S : List Int) : Prop := ∀ j, j < S.length → w.cell? ⟨gs, j, none⟩ = some (.int .u8 (S.getD j 0))
theorem Bytes.kept {w w' : World} {gs : Nat} {S : List Int} (h : Bytes w gs S) (hb : w'.heap[gs]? = w.heap[gs]?) : Bytes w' gs S := fun j hj => (World.cell?_of_block (a := ⟨gs, j, none⟩) hb).trans (h j hj)
theorem Bytes.win {w : World} {gs : Nat} {S : List Int} (h : Bytes w gs S) (s e : Nat) (he : (e + 7) / 8 ≤ S.length) : ∀ j u, (B8 (win S s e))[j]? = some u → w.cell? ((⟨gs, s / 8, none⟩ : Addr).add j) = some u := by
  intro j u hu
  have hj : j < (e + 7) / 8 - s / 8 := by
    have := (List.getElem?_eq_some_iff.1 hu).1
    simpa [B8, win_len S s e he] using this
  rw [Addr.add_lit, h _ (by omega)]
  rw [B8, List.getElem?_map, win_get S s e j hj, List.getElem?_eq_getElem (show s / 8 + j < S.length by omega)] at hu
  simp at hu
  rw [← hu]
  simp [List.getD, show s / 8 + j < S.length by omega]

theorem grown_step {a b c : World} {v v1 : Value} (h : a.grownBy b v.ownBlock) (hl : Lies a v v1) (k : b.grownBy c v1.ownBlock) : a.grownBy c v.ownBlock :=
  ⟨k.os.trans h.os, k.tape.trans h.tape, k.output.trans h.output, Nat.le_trans h.size k.size, fun i hi hne => by
    refine (k.block i (Nat.lt_of_lt_of_le hi h.size) ?_).trans (h.block i hi hne)
    rcases hl with hl | ⟨g, hg, hg2⟩
    · rw [hl]; exact hne
    · rw [hg]; intro e; cases e; omega⟩
theorem lies_step {a b : World} {v v1 v2 : Value} (hs : a.heap.size ≤ b.heap.size) (h : Lies a v v1) (k : Lies b v1 v2) : Lies a v v2 := by
  rcases k with k | ⟨g, hg, hg2⟩
  · rw [Lies, k]; exact h
  · exact .inr ⟨g, hg, Nat.le_trans hs hg2⟩
theorem lies_of {w : World} {v v' : Value} (h : v'.ownBlock = v.ownBlock ∨ v'.ownBlock = some w.heap.size) : Lies w v v' := by
  rcases h with h | h
  · exact .inl h
  · exact .inr ⟨_, h, Nat.le_refl _⟩

/-- the whole test of a unit's state -/
def okSt (g m q h u : Int) : Bool := decide (g ≤ 12 ∧ m ≤ 31 ∧ q ≤ 31 ∧ -15 ≤ h ∧ h ≤ 15 ∧ -15 ≤ u ∧ u ≤ 15 ∧ (g = 0 → m = 0 ∧ q = 0 ∧ h = 0 ∧ u = 0) ∧ (g ≠ 0 → q ≠ 0))
theorem ok_cks (sb eb g m q h u : Int) (s7 : sb ≤ 7) (e7 : eb ≤ 7) (hk : okSt g m q h u = true) : ck1 sb eb g m q h u = true ∧ ck2 g m q h u = true := by
  have := of_decide_eq_true hk
  exact ⟨decide_eq_true (by omega), decide_eq_true (by omega)⟩
theorem bad_cks (sb eb g m q h u : Int) (s7 : sb ≤ 7) (e7 : eb ≤ 7) (hk : okSt g m q h u = false) : ck1 sb eb g m q h u = false ∨ ck2 g m q h u = false := by
  have hk' := of_decide_eq_false hk
  cases h1 : ck1 sb eb g m q h u
  · exact .inl rfl
  · right
    have p1 := of_decide_eq_true h1
    apply decide_eq_false
    intro p2
    omega

/-- the payload of the bits s .. e that begins in the state -/
def payl (S : List Int) (s e : Nat) (i : Bool) (g m q h u : Int) : List Int := be4 (wordN (sbI s) (ebI e) (flagI i) g m q h u) ++ win S s e

set_option maxHeartbeats 1000000 in
theorem appPay_ok (B n : Nat) (vd : Value) (xs S : List Int) (gs cs s e : Nat) (i : Bool) (g m q h u : Int) (w : World) (hown : w.ownsRow B 5 1 vd n (B8 xs)) (hB : B ≤ w.heap.size) (hlim : n + 4 + S.length ≤ 1099511627776)
    (hse : s < e) (he : (e + 7) / 8 ≤ S.length) (hcs : S.length ≤ cs) (hcl : cs ≤ 1099511627776) (hS : Bytes w gs S) (hgs : gs < w.heap.size) (hne : some gs ≠ vd.ownBlock)
    (hk : okSt g m q h u = true) (g0 : 0 ≤ g) (m0 : 0 ≤ m) (q0 : 0 ≤ q) :
    Calls Try.prog 27 #[vd, .slice (some ⟨gs, 0, none⟩) S.length cs, .int .i64 s, .int .i64 e, .agg #[.int .u8 0, .int .u8 0, .bool i, .bool false, .int .u8 g, .int .u8 m, .int .u8 q, .int .i8 h, .int .i8 u]] w fun r w' =>
      ∃ v', r = .returned (.tuple #[v', .nilIface]) ∧ w'.ownsRow B 5 1 v' (n + 4 + ((e + 7) / 8 - s / 8)) (B8 (xs ++ payl S s e i g m q h u)) ∧ w.grownBy w' vd.ownBlock ∧ Lies w vd v' := by
  obtain ⟨s0, s7⟩ := sb_bd s
  obtain ⟨e0, e7⟩ := eb_bd e
  obtain ⟨c1, c2⟩ := ok_cks (sbI s) (ebI e) g m q h u s7 e7 hk
  have HS := hide (fun W => span_any gs S.length cs s e W hse he hcs hcl)
  have HA := hide (fun W ho hb => appBin_ok B n vd xs (sbI s) (ebI e) i g m q h u W ho hb (by omega) c1 c2 s0 e0 g0 m0 q0)
  have HO := hide hown
  have HN := hide hne
  obtain ⟨i0, hi, hz0, hz1, hz2⟩ := info_parts info5
  clear c1 c2 hk hown hne
  go_enter Try.func27, Try.ntmps27
  go_wp2_with fail
  refine (unhide HS _).mono ?_
  rintro r w' ⟨rfl, hw⟩
  have hw' := hw.symm
  clear hw
  subst hw'
  go_wp2_with fail
  refine (unhide HA _ (((unhide HO).alloc _).alloc _) (by simp; omega)).mono ?_
  rintro r w1 ⟨v1, rfl, ho1, hg1, hl1⟩
  have G1 : w.grownBy w1 vd.ownBlock := (World.grownBy_alloc _ _ _).trans ((World.grownBy_alloc _ _ _).trans hg1)
  have L1 : Lies w vd v1 := by
    rcases hl1 with hl1 | ⟨gg, h5, h6⟩
    · exact .inl hl1
    · exact .inr ⟨gg, h5, by simp at h6; omega⟩
  have C1 := hide ((hS.kept (G1.block gs hgs (unhide HN))).win s e he)
  have hwl := win_len S s e he
  have HL : Hid ((B8 (win S s e)).length = ((e + 7) / 8 - s / 8) * 1) := by show (B8 (win S s e)).length = _; simp [B8, hwl]
  have z1 := G1.size
  have HO1 := hide ho1
  have HG1 := hide G1
  have HL1 := hide L1
  clear ho1 G1 L1 hg1 hl1 hwl HA HS hS HO HN
  go_wp2_with (at_builtin; refine wpList_append_own_at _ rfl (.tmp 41) (.tmp 42) 22 rfl B 5 i0 (.int .u8 0) 1 1 Try.underlying22 hi hz0 hz1 hz2 rfl (by decide) v1 (n + 4) (B8 (xs ++ be4 (wordN (sbI s) (ebI e) (flagI i) g m q h u))) rfl (unhide HO1) ⟨gs, s / 8, none⟩ ((e + 7) / 8 - s / 8) (cs - s / 8) (B8 (win S s e)) rfl (unhide HL) (unhide C1) (b8_one _) (by unfold maxLen; omega) (by omega) (by omega) ?_; intro v' w2 hown' hgrow hnil hat)
  clear hi hz0 hz1 hz2
  go_wp2
  go_ret2
  refine ⟨v', rfl, ?_, grown_step (unhide HG1) (unhide HL1) hgrow, lies_step (unhide HG1).size (unhide HL1) (lies_of hat)⟩
  rw [payl, ← List.append_assoc, B8_append]
  exact hown'

set_option maxHeartbeats 1000000 in
theorem appPay_bad (vd : Value) (S : List Int) (gs cs s e : Nat) (i : Bool) (g m q h u : Int) (w : World)
    (hse : s < e) (he : (e + 7) / 8 ≤ S.length) (hcs : S.length ≤ cs) (hcl : cs ≤ 1099511627776) (hk : okSt g m q h u = false) :
    Calls Try.prog 27 #[vd, .slice (some ⟨gs, 0, none⟩) S.length cs, .int .i64 s, .int .i64 e, .agg #[.int .u8 0, .int .u8 0, .bool i, .bool false, .int .u8 g, .int .u8 m, .int .u8 q, .int .i8 h, .int .i8 u]] w fun r w' =>
      ∃ a, r = .returned (.tuple #[vd, .iface 71 (.pointer (some a))]) ∧ w.grownBy w' none := by
  obtain ⟨s0, s7⟩ := sb_bd s
  obtain ⟨e0, e7⟩ := eb_bd e
  have c := bad_cks (sbI s) (ebI e) g m q h u s7 e7 hk
  have HS := hide (fun W => span_any gs S.length cs s e W hse he hcs hcl)
  have HA := hide (fun W => appBin_bad vd (sbI s) (ebI e) i g m q h u W c)
  clear c hk
  go_enter Try.func27, Try.ntmps27
  go_wp2_with fail
  refine (unhide HS _).mono ?_
  rintro r w' ⟨rfl, hw⟩
  have hw' := hw.symm
  clear hw
  subst hw'
  go_wp2_with fail
  refine (unhide HA _).mono ?_
  rintro r w1 ⟨a, rfl, hg1⟩
  clear HA HS
  go_wp2
  go_ret2
  exact ⟨a, rfl, (World.grownBy_alloc _ _ _).trans ((World.grownBy_alloc _ _ _).trans hg1)⟩
end Go.Proofs.Qxb6614154a
