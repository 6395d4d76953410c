/-
  OUR OWN WORK (an AI prover). The state of countryEntries: the map of rows of senses; what one use adds to it.
-/
import Derived.Test.YbulkmpwHas
import Derived.Deep.AppendLies
namespace Go.Proofs.Ybulkmpw
open Go.ChangeShapes Go.WideShapes Go.ChangeAt Go.RowKit
set_option linter.unusedVariables false

/-- One use of an abbreviation, as it lies in memory. -/
structure U where
  blk : Nat
  a : Nat
  y : Bool
  s : Fin 5
def UAt (w : World) (B : Nat) (u : U) : Prop :=
  u.a < 3 ∧ ∃ c, w.heap[u.blk]? = some (.cells c 41 (0, 0)) ∧ c[1]? = some (.string (nm u.a)) ∧ c[4]? = some (.bool u.y) ∧ c[5]? = some (enc5 B u.s)
theorem UAt.cells {w : World} {B : Nat} {u : U} (h : UAt w B u) : u.a < 3 ∧ u.blk < w.heap.size ∧ w.cell? ⟨u.blk, 1, none⟩ = some (.string (nm u.a)) ∧ w.cell? ⟨u.blk, 4, none⟩ = some (.bool u.y) ∧ w.cell? ⟨u.blk, 5, none⟩ = some (.pointer (some ⟨B + u.s.val, 0, none⟩)) := by
  obtain ⟨h0, c, h1, h2, h3, h4⟩ := h
  refine ⟨h0, (Array.getElem?_eq_some_iff.1 h1).1, ?_, ?_, ?_⟩ <;> simp only [World.cell?, h1] <;> assumption
theorem UAt.below {w w' : World} {B K : Nat} {u : U} (h : UAt w B u) (hb : Below K w w') (hK : u.blk < K) : UAt w' B u := by
  obtain ⟨h0, c, h1, h2⟩ := h
  exact ⟨h0, c, (hb.block u.blk hK).trans h1, h2⟩

def entm (E : Nat → List (Fin 5)) (V : Nat → Value) (a : Nat) : Option Value := if E a = [] then none else some (V a)
structure Ents (wr : World) (M B : Nat) (E : Nat → List (Fin 5)) (V : Nat → Value) : Prop where
  map : MapIs wr M (entm E V)
  row : ∀ a, a < 3 → wr.ownsRow (M + 1) 25 1 (V a) (E a).length ((E a).map (enc5 B))
  nil : ∀ a, a < 3 → E a = [] → V a = .slice none 0 0
  apart : ∀ a, a < 3 → ∀ b, b < 3 → a ≠ b → ∀ g, (V a).ownBlock = some g → (V b).ownBlock ≠ some g
  nodup : ∀ a, a < 3 → (E a).Nodup
theorem Ents.drew {wr : World} {M B : Nat} {E : Nat → List (Fin 5)} {V : Nat → Value} (h : Ents wr M B E V) (n : Nat) : Ents (wr.drewN n) M B E V := ⟨h.map, h.row, h.nil, h.apart, h.nodup⟩
theorem nodup_short : ∀ (n : Nat) (l : List Nat), l.Nodup → (∀ x ∈ l, x < n) → l.length ≤ n
  | 0, l, _, h => by
    cases l with
    | nil => exact Nat.le_refl _
    | cons x l => exact absurd (h x List.mem_cons_self) (by omega)
  | n + 1, l, hd, h => by
    have h1 := nodup_short n (l.erase n) (hd.erase n) (fun x hx => by
      have hm := List.mem_of_mem_erase hx
      have hne : x ≠ n := (hd.mem_erase_iff.1 hx).1
      have := h x hm
      omega)
    rw [List.length_erase] at h1
    split at h1 <;> omega
theorem Ents.len {wr : World} {M B : Nat} {E : Nat → List (Fin 5)} {V : Nat → Value} (h : Ents wr M B E V) (a : Nat) (ha : a < 3) : (E a).length ≤ 5 := by
  have h1 := h.nodup a ha
  have h2 := nodup_short 5 ((E a).map Fin.val) (List.Pairwise.map _ (fun x y (hne : x ≠ y) e => hne (Fin.ext e)) h1) (fun x hx => by
    obtain ⟨y, _, rfl⟩ := List.mem_map.1 hx
    exact y.isLt)
  rwa [List.length_map] at h2
theorem Ents.val {wr : World} {M B : Nat} {E : Nat → List (Fin 5)} {V : Nat → Value} (h : Ents wr M B E V) (a : Nat) (ha : a < 3) : (entm E V a).getD (.slice none 0 0) = V a := by
  unfold entm
  by_cases e : E a = []
  · rw [if_pos e, h.nil a ha e]; rfl
  · rw [if_neg e]; rfl
theorem Ents_made (w : World) (B : Nat) : Ents (w.alloc (.map #[] 0)) w.heap.size B (fun _ => []) (fun _ => .slice none 0 0) :=
  ⟨MapIs_made w, fun a _ => World.ownsRow_nil _ _ _ _, fun _ _ _ => rfl, fun _ _ _ _ _ g h => (by cases h), fun _ _ => List.nodup_nil⟩

def addE (E : Nat → List (Fin 5)) (a : Nat) (s : Fin 5) : Nat → List (Fin 5) := fun b => if b = a then E b ++ [s] else E b
def setV (V : Nat → Value) (a : Nat) (v : Value) : Nat → Value := fun b => if b = a then v else V b

theorem Ents.grow {wr w0 w1 : World} {M B : Nat} {E : Nat → List (Fin 5)} {V : Nat → Value} (h : Ents wr M B E V) (a : Nat) (ha : a < 3) (s : Fin 5) (hs : s ∉ E a) (o : Obj) (h0 : w0.heap = (wr.alloc o).heap) (g cap : Nat)
    (hown : w1.ownsRow (M + 1) 25 1 (.slice (some ⟨g, 0, none⟩) ((E a).length + 1) cap) ((E a).length + 1) ((E a).map (enc5 B) ++ [enc5 B s]))
    (hgrow : w0.grownBy w1 (V a).ownBlock) (hat : (V a).ownBlock = some g ∨ g = wr.heap.size + 1) :
    ∃ w2, (Instr.mapUpdate 44 (.map (some M)) (.string (nm a)) (.slice (some ⟨g, 0, none⟩) ((E a).length + 1) cap)).run Yba.prog w1 = .ok () w2 ∧
      Ents w2 M B (addE E a s) (setV V a (.slice (some ⟨g, 0, none⟩) ((E a).length + 1) cap)) ∧ w1.grownBy w2 (some M) ∧ w2.heap.size = w1.heap.size := by
  have hbl := (h.row a ha).lt
  have m0 : MapIs w0 M (entm E V) := by
    have := World.ownsMap.alloc h.map o
    obtain ⟨es, clock, hb, r⟩ := this
    exact ⟨es, clock, by rw [h0]; exact hb, r⟩
  have m1 : MapIs w1 M (entm E V) := m0.kept hgrow (fun e => by have := (hbl M e.symm).1; omega)
  obtain ⟨w2, hrun, hm2, hg2, hs2⟩ := m1.update Yba.underlying44 a ha (.slice (some ⟨g, 0, none⟩) ((E a).length + 1) cap)
  have hgM : M + 1 ≤ g := (hown.lt g rfl).1
  refine ⟨w2, hrun, ⟨?_, fun b hb => ?_, fun b hb e => ?_, fun b hb c hc hbc k hk => ?_, fun b hb => ?_⟩, hg2, hs2⟩
  · have e : upd (entm E V) a (.slice (some ⟨g, 0, none⟩) ((E a).length + 1) cap) = entm (addE E a s) (setV V a (.slice (some ⟨g, 0, none⟩) ((E a).length + 1) cap)) := by
      funext b
      unfold upd entm addE setV
      by_cases e : b = a
      · subst e; simp
      · simp [e]
    rw [← e]; exact hm2
  · unfold addE setV
    by_cases e : b = a
    · subst e
      simp only [if_true, List.map_append, List.map_cons, List.map_nil, List.length_append, List.length_singleton]
      exact hown.kept hg2 (.inr (by show some g ≠ some M; intro e; cases e; omega))
    · simp only [e, if_false]
      have hr0 : w0.ownsRow (M + 1) 25 1 (V b) (E b).length ((E b).map (enc5 B)) := by
        have := (h.row b hb).alloc o
        refine ⟨this.1, ?_⟩
        rw [h0]
        exact this.2
      have hr1 := hr0.kept hgrow (by
        cases hv : (V b).ownBlock with
        | none => exact .inl rfl
        | some k => exact .inr (fun e2 => h.apart b hb a ha e k hv e2.symm))
      exact hr1.kept hg2 (by
        cases hv : (V b).ownBlock with
        | none => exact .inl rfl
        | some k => exact .inr (fun e2 => by have := ((h.row b hb).lt k hv).1; cases e2; omega))
  · unfold addE at e
    unfold setV
    by_cases e2 : b = a
    · subst e2; simp at e
    · simp only [e2, if_false] at e ⊢; exact h.nil b hb e
  · unfold setV at hk ⊢
    by_cases e1 : b = a
    · subst e1
      simp only [if_true] at hk
      have hkg : k = g := by cases hk; rfl
      subst hkg
      rw [if_neg (fun e => hbc e.symm)]
      rcases hat with hat | hat
      · exact h.apart b hb c hc hbc k hat
      · intro e2
        have := ((h.row c hc).lt k e2).2
        omega
    · rw [if_neg e1] at hk
      by_cases e2 : c = a
      · subst e2
        simp only [if_true]
        intro e3
        have hkg : g = k := by cases e3; rfl
        subst hkg
        rcases hat with hat | hat
        · exact h.apart b hb c hc hbc g hk hat
        · have := ((h.row b hb).lt g hk).2
          omega
      · rw [if_neg e2]; exact h.apart b hb c hc hbc k hk
  · unfold addE
    by_cases e : b = a
    · subst e
      simp only [if_true]
      rw [List.nodup_append]
      refine ⟨h.nodup b hb, by simp, ?_⟩
      intro x hx y hy
      simp at hy
      subst hy
      intro e; subst e; exact hs hx
    · simp only [e, if_false]; exact h.nodup b hb

/-- WHAT THE ENTRIES SAY of the uses that were gone through (p) and of the chosen senses (ch). -/
def Coll (p : U → Prop) (ch : Nat → Option (Fin 5)) (E : Nat → List (Fin 5)) : Prop :=
  ∀ a, a < 3 → ∀ s, s ∈ E a ↔ (∃ u, p u ∧ u.y = true ∧ u.a = a ∧ u.s = s) ∧ ch a ≠ some s
theorem Coll.same {p q : U → Prop} {ch : Nat → Option (Fin 5)} {E : Nat → List (Fin 5)} (h : Coll p ch E) (u : U) (hq : ∀ u', q u' ↔ p u' ∨ u' = u) (hu : u.y = false ∨ ch u.a = some u.s ∨ (u.a < 3 → u.s ∈ E u.a)) : Coll q ch E := by
  intro a ha s
  rw [h a ha s]
  constructor
  · rintro ⟨⟨u', h1, h2⟩, h3⟩
    exact ⟨⟨u', (hq u').2 (.inl h1), h2⟩, h3⟩
  · rintro ⟨⟨u', h1, h2, h3, h4⟩, h5⟩
    rcases (hq u').1 h1 with h1 | rfl
    · exact ⟨⟨u', h1, h2, h3, h4⟩, h5⟩
    · rcases hu with hu | hu | hu
      · rw [hu] at h2; cases h2
      · rw [h3, h4] at hu; exact absurd hu h5
      · have := hu (by omega)
        rw [h3, h4] at this
        exact (h a ha s).1 this
theorem Coll.add {p q : U → Prop} {ch : Nat → Option (Fin 5)} {E : Nat → List (Fin 5)} (h : Coll p ch E) (u : U) (hq : ∀ u', q u' ↔ p u' ∨ u' = u) (hy : u.y = true) (hc : ch u.a ≠ some u.s) : Coll q ch (addE E u.a u.s) := by
  intro a ha s
  unfold addE
  by_cases e : a = u.a
  · subst e
    simp only [if_true, List.mem_append, List.mem_singleton]
    rw [h u.a ha s]
    constructor
    · rintro (⟨⟨u', h1, h2⟩, h3⟩ | rfl)
      · exact ⟨⟨u', (hq u').2 (.inl h1), h2⟩, h3⟩
      · exact ⟨⟨u, (hq u).2 (.inr rfl), hy, rfl, rfl⟩, hc⟩
    · rintro ⟨⟨u', h1, h2, h3, h4⟩, h5⟩
      rcases (hq u').1 h1 with h1 | rfl
      · exact .inl ⟨⟨u', h1, h2, h3, h4⟩, h5⟩
      · exact .inr h4.symm
  · simp only [e, if_false]
    rw [h a ha s]
    constructor
    · rintro ⟨⟨u', h1, h2⟩, h3⟩
      exact ⟨⟨u', (hq u').2 (.inl h1), h2⟩, h3⟩
    · rintro ⟨⟨u', h1, h2, h3, h4⟩, h5⟩
      rcases (hq u').1 h1 with h1 | rfl
      · exact ⟨⟨u', h1, h2, h3, h4⟩, h5⟩
      · exact absurd h3.symm e
end Go.Proofs.Ybulkmpw
