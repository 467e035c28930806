/-
  What the chains hold on the way; a node's children in the layout's order: no Go in sight.
-/
import Derived.Test.Qxb6608903aChn
namespace Go.Proofs.Qxb6608903a

/-- P lists the starts of the texts T and of 'pre' -/
def Upto (T : List Path) (pre : Path) (P : List Path) : Prop := ∀ q, q ∈ P ↔ Starts T q ∨ q <+: pre
theorem Upto.init : Upto [] [] [[]] := by
  intro q
  simp [Starts]
theorem Upto.found {T P : List Path} {pre : Path} {r : Int} (h : Upto T pre P) (hm : pre ++ [r] ∈ P) : Upto T (pre ++ [r]) P := by
  intro q
  rw [h q, List.prefix_concat_iff]
  constructor
  · rintro (h1 | h1)
    · exact .inl h1
    · exact .inr (.inr h1)
  · rintro (h1 | h1 | h1)
    · exact .inl h1
    · subst h1; exact (h _).1 hm
    · exact .inr h1
theorem Upto.added {T P : List Path} {pre : Path} {r : Int} (h : Upto T pre P) : Upto T (pre ++ [r]) (P ++ [pre ++ [r]]) := by
  intro q
  rw [List.mem_append, h q, List.mem_singleton, List.prefix_concat_iff]
  constructor
  · rintro ((h1 | h1) | h1)
    · exact .inl h1
    · exact .inr (.inr h1)
    · exact .inr (.inl h1)
  · rintro (h1 | h1 | h1)
    · exact .inl (.inl h1)
    · exact .inr h1
    · exact .inl (.inr h1)
theorem Upto.next {T P : List Path} {t : Path} (h : Upto T t P) : Upto (T ++ [t]) [] P := by
  intro q
  rw [h q]
  unfold Starts
  simp only [List.mem_append, List.mem_singleton, List.prefix_nil]
  constructor
  · rintro ((h1 | ⟨u, hu, hp⟩) | h1)
    · exact .inr h1
    · exact .inl (.inr ⟨u, .inl hu, hp⟩)
    · exact .inl (.inr ⟨t, .inr rfl, h1⟩)
  · rintro ((h1 | ⟨u, hu | rfl, hp⟩) | h1)
    · exact .inl (.inl h1)
    · exact .inl (.inr ⟨u, hu, hp⟩)
    · exact .inr hp
    · exact .inl (.inl h1)
theorem Upto.lists {T P : List Path} {C : List CN} (h : Upto T [] P) (hc : Chn C P) : Lists T P := by
  refine ⟨hc.nodup, fun q => ?_⟩
  rw [h q]
  constructor
  · rintro (h1 | h1)
    · exact h1
    · exact .inl (List.prefix_nil.1 h1)
  · exact .inl

/-- the characters of a node's children -/
theorem Chn.chars {C : List CN} {P : List Path} (h : Chn C P) {n : Nat} {x : CN} {p : Path} {ks : List Nat} (hx : C[n]? = some x) (hp : P[n]? = some p) (hk : Link C x.f ks) (r : Int) :
    (∃ m ∈ ks, ∃ y, C[m]? = some y ∧ y.c = r) ↔ p ++ [r] ∈ P := by
  obtain ⟨ks0, hk0, _, hm0⟩ := h.kids n x p hx hp
  obtain rfl := hk0.det hk
  constructor
  · rintro ⟨m, hm, y, hy, rfl⟩
    obtain ⟨y', hy', hpm⟩ := (hm0 m).1 hm
    rw [hy] at hy'
    obtain rfl := Option.some.inj hy'
    exact List.mem_of_getElem? hpm
  · intro hc
    obtain ⟨m, hm⟩ := List.getElem?_of_mem hc
    have hml : m < C.length := by have := (List.getElem?_eq_some_iff.1 hm).1; rw [h.len] at this; exact this
    obtain ⟨y, hy⟩ : ∃ y, C[m]? = some y := ⟨_, List.getElem?_eq_getElem hml⟩
    have hyc := h.chr m y p r hy hm
    exact ⟨m, (hm0 m).2 ⟨y, hy, by rw [hyc]; exact hm⟩, y, hy, hyc⟩
theorem Chn.child {C : List CN} {P : List Path} (h : Chn C P) {n : Nat} {x : CN} {p : Path} {ks : List Nat} (hx : C[n]? = some x) (hp : P[n]? = some p) (hk : Link C x.f ks) {m : Nat} {y : CN} (hm : m ∈ ks) (hy : C[m]? = some y) : P[m]? = some (p ++ [y.c]) := by
  obtain ⟨ks0, hk0, _, hm0⟩ := h.kids n x p hx hp
  obtain rfl := hk0.det hk
  obtain ⟨y', hy', hpm⟩ := (hm0 m).1 hm
  rw [hy] at hy'
  obtain rfl := Option.some.inj hy'
  exact hpm
/-- the children as the layout takes them up: (character, node), in the chain's order -/
def pairs (C : List CN) (ks : List Nat) : List (Int × Nat) := ks.map (fun m => ((C[m]?.map CN.c).getD 0, m))
theorem Chn.pairs_nodup {C : List CN} {P : List Path} (h : Chn C P) {n : Nat} {x : CN} {p : Path} {ks : List Nat} (hx : C[n]? = some x) (hp : P[n]? = some p) (hk : Link C x.f ks) : ((pairs C ks).map Prod.fst).Nodup := by
  obtain ⟨ks0, hk0, hnd, hm0⟩ := h.kids n x p hx hp
  obtain rfl := hk0.det hk
  unfold pairs
  rw [List.map_map, List.Nodup, List.pairwise_map]
  refine hnd.imp_of_mem (fun {a b} ha hb hab e => hab ?_)
  obtain ⟨y, hy, hpa⟩ := (hm0 a).1 ha
  obtain ⟨z, hz, hpb⟩ := (hm0 b).1 hb
  simp only [Function.comp, hy, hz, Option.map_some, Option.getD_some] at e
  rw [e] at hpa
  exact h.inj hpa hpb
/-- sorted by character: strictly rising, and exactly the characters that go on -/
theorem Chn.sorted {C : List CN} {P : List Path} (h : Chn C P) {n : Nat} {x : CN} {p : Path} {ks : List Nat} (hx : C[n]? = some x) (hp : P[n]? = some p) (hk : Link C x.f ks) {l : List (Int × Nat)} (hl : l.Perm (pairs C ks)) (hs : l.Pairwise (fun a b => a.1 ≤ b.1)) :
    Inc (l.map Prod.fst) ∧ (∀ r, r ∈ l.map Prod.fst ↔ p ++ [r] ∈ P) ∧ ∀ a ∈ l, P[a.2]? = some (p ++ [a.1]) := by
  have hnd : (l.map Prod.fst).Nodup := (hl.map Prod.fst).nodup_iff.2 (h.pairs_nodup hx hp hk)
  refine ⟨?_, fun r => ?_, fun a ha => ?_⟩
  · unfold Inc
    rw [List.pairwise_map]
    rw [List.Nodup, List.pairwise_map] at hnd
    exact (hs.and hnd).imp (fun {a b} hab => by omega)
  · rw [← h.chars hx hp hk r, (hl.map Prod.fst).mem_iff]
    unfold pairs
    rw [List.map_map, List.mem_map]
    constructor
    · rintro ⟨m, hm, e⟩
      obtain ⟨_, y, hy⟩ := hk.mem m hm
      simp only [Function.comp, hy, Option.map_some, Option.getD_some] at e
      exact ⟨m, hm, y, hy, e⟩
    · rintro ⟨m, hm, y, hy, rfl⟩
      exact ⟨m, hm, by simp [hy]⟩
  · have ha' := hl.mem_iff.1 ha
    unfold pairs at ha'
    obtain ⟨m, hm, rfl⟩ := List.mem_map.1 ha'
    obtain ⟨_, y, hy⟩ := hk.mem m hm
    simp only [hy, Option.map_some, Option.getD_some]
    exact h.child hx hp hk hm hy
end Go.Proofs.Qxb6608903a
