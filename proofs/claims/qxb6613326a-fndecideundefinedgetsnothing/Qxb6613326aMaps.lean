/-
  Decide: a new key put into a map's block (the composite literal's inserts), and the look-up: as equations on the run, over any program.
-/
import Derived.Test.Qxb6613326aParts
import Derived.WalkLawsBesides
namespace Go.Proofs.Qxb6613326a
open Go.ChangeShapes Go.WideShapes Go.ChangeAt Go.RowKit

theorem ins_gen {P : Program} (w : World) (mty kt et : TypeId) (r clock : Nat) (es : Array MapEntry) (s : ByteArray) (val : Value) (hm : P.underlying mty = some (.map kt et)) (hk : P.underlying kt = some .string) (hb : w.heap[r]? = some (.map es clock))
    (hf : Instr.findNow .string (.string s) es.toList 0 = some none) :
    (Instr.mapUpdate mty (.map (some r)) (.string s) val).run P w = .ok () { w with heap := w.heap.setIfInBounds r (.map (es.push { key := .string s, val := val, born := clock }) (clock + 1)) } := by
  have hc : (Instr.checkKey false 10000 kt (.string s)).run P w = .ok () w := MapKept.run_checkKey (k := .string s) hk (by simp [MapKept.IsKey]) false 9999
  simp [Instr.mapUpdate, run_underlying hm, MapKept.run_getObj_map hb, hc, MapKept.run_findKey hk hf, MapKept.run_setObj_map _ hb, Result.andThen]

theorem look_gen {P : Program} (w : World) (mty kt et : TypeId) (r clock : Nat) (es : Array MapEntry) (s : ByteArray) (hm : P.underlying mty = some (.map kt et)) (hk : P.underlying kt = some .string) (hb : w.heap[r]? = some (.map es clock))
    (a : Option (Nat × Value)) (hf : Instr.findNow .string (.string s) es.toList 0 = some a) (z : Value) (hz : ∀ w, (zeroValue et).run P w = .ok z w) :
    (Instr.lookup mty (.map (some r)) (.string s) true).run P w = .ok (.tuple (match a with | some (_, v) => #[v, .bool true] | none => #[z, .bool false])) w := by
  have hc : ∀ b, (Instr.checkKey b 10000 kt (.string s)).run P w = .ok () w := fun b => MapKept.run_checkKey (k := .string s) hk (by simp [MapKept.IsKey]) b 9999
  cases a with
  | none => simp [Instr.lookup, run_underlying hm, MapKept.run_getObj_map hb, hc, MapKept.run_findKey hk hf, Result.andThen, hz]
  | some p => simp [Instr.lookup, run_underlying hm, MapKept.run_getObj_map hb, hc, MapKept.run_findKey hk hf, Result.andThen]

def en (k : ByteArray) (n : Int) (b : Nat) : MapEntry := { key := .string k, val := .int .i64 n, born := b }

theorem arr_set_last (h : Array Obj) (o o' : Obj) : (h.push o).setIfInBounds h.size o' = h.push o' := by
  apply Array.ext'; simp
theorem arr_set_last1 (h : Array Obj) (o o' o1 : Obj) : ((h.push o).push o1).setIfInBounds h.size o' = (h.push o').push o1 := by
  apply Array.ext'; simp
theorem set_last (w : World) (o o' : Obj) : ({ (w.alloc o).drew with heap := (w.alloc o).drew.heap.setIfInBounds w.heap.size o' } : World) = (w.alloc o').drew := by
  show ({ (w.alloc o).drew with heap := (w.heap.push o).setIfInBounds w.heap.size o' } : World) = _
  rw [arr_set_last]; rfl
theorem set_last1 (w : World) (o o' o1 : Obj) : ({ ((w.alloc o).alloc o1).drew with heap := ((w.alloc o).alloc o1).drew.heap.setIfInBounds w.heap.size o' } : World) = ((w.alloc o').alloc o1).drew := by
  show ({ ((w.alloc o).alloc o1).drew with heap := ((w.heap.push o).push o1).setIfInBounds w.heap.size o' } : World) = _
  rw [arr_set_last1]; rfl

theorem find_nil (s : ByteArray) : Instr.findNow .string (.string s) ([] : List MapEntry) 0 = some none := rfl
theorem find_one (s k : ByteArray) (n : Int) (b : Nat) (h : (s.toList == k.toList) = false) : Instr.findNow .string (.string s) [en k n b] 0 = some none := by
  have h' : (s == k) = false := by rw [beq_toListBytes]; exact h
  simp [Instr.findNow, Instr.sameNow, en, h']

/-- the three places where the map's block may stand while the literal is made -/
theorem insA {P : Program} (w : World) (mty kt et : TypeId) (S : Obj) (es : Array MapEntry) (c : Nat) (s : ByteArray) (n : Int) (hm : P.underlying mty = some (.map kt et)) (hk : P.underlying kt = some .string) (hf : Instr.findNow .string (.string s) es.toList 0 = some none) :
    (Instr.mapUpdate mty (.map (some (w.heap.size + 1))) (.string s) (.int .i64 n)).run P ((w.alloc S).alloc (.map es c)).drew = .ok () ((w.alloc S).alloc (.map (es.push (en s n c)) (c + 1))).drew := by
  have e : w.heap.size + 1 = (w.alloc S).heap.size := by simp
  rw [e, ins_gen _ mty kt et (w.alloc S).heap.size c es s _ hm hk (by show ((w.alloc S).heap.push _)[(w.alloc S).heap.size]? = _; exact Array.getElem?_push_size) hf, set_last]
  rfl
theorem insB {P : Program} (w : World) (mty kt et : TypeId) (es : Array MapEntry) (c : Nat) (s : ByteArray) (n : Int) (hm : P.underlying mty = some (.map kt et)) (hk : P.underlying kt = some .string) (hf : Instr.findNow .string (.string s) es.toList 0 = some none) :
    (Instr.mapUpdate mty (.map (some w.heap.size)) (.string s) (.int .i64 n)).run P (w.alloc (.map es c)).drew = .ok () (w.alloc (.map (es.push (en s n c)) (c + 1))).drew := by
  rw [ins_gen _ mty kt et w.heap.size c es s _ hm hk (by show (w.heap.push _)[w.heap.size]? = _; simp) hf, set_last]
  rfl
theorem insC {P : Program} (w : World) (mty kt et : TypeId) (S : Obj) (es : Array MapEntry) (c : Nat) (s : ByteArray) (n : Int) (hm : P.underlying mty = some (.map kt et)) (hk : P.underlying kt = some .string) (hf : Instr.findNow .string (.string s) es.toList 0 = some none) :
    (Instr.mapUpdate mty (.map (some w.heap.size)) (.string s) (.int .i64 n)).run P ((w.alloc (.map es c)).alloc S).drew = .ok () ((w.alloc (.map (es.push (en s n c)) (c + 1))).alloc S).drew := by
  rw [ins_gen _ mty kt et w.heap.size c es s _ hm hk (by show ((w.heap.push _).push _)[w.heap.size]? = _; rw [Array.getElem?_push]; simp) hf, set_last1]
  rfl
end Go.Proofs.Qxb6613326a
