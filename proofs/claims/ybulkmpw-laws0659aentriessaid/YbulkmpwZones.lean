/-
  OUR OWN WORK (an AI prover). The state of the law's own loop over the uses: three zones, each with its row of uses; what one round adds.
-/
import Derived.Test.YbulkmpwCountry
namespace Go.Proofs.Ybulkmpw
open Go.ChangeShapes Go.WideShapes Go.ChangeAt Go.RowKit
set_option linter.unusedVariables false

def uptr (u : U) : Value := .pointer (some ⟨u.blk, 0, none⟩)
structure Zs (w1 wr : World) (H : Nat) (us : Nat → List U) (V : Nat → Value) : Prop where
  below : Below (H + 9) w1 wr
  cell : ∀ z, z < 3 → wr.cell? ⟨H + 9 + z, 2, none⟩ = some (V z) ∧ wr.frozen? ⟨H + 9 + z, 2, none⟩ = false
  row : ∀ z, z < 3 → wr.ownsRow (H + 12) 38 1 (V z) (us z).length ((us z).map uptr)
  apart : ∀ a, a < 3 → ∀ b, b < 3 → a ≠ b → ∀ g, (V a).ownBlock = some g → (V b).ownBlock ≠ some g
  use : ∀ z, z < 3 → ∀ u ∈ us z, UAt wr (H + 2) u ∧ H + 12 ≤ u.blk
  size : H + 12 ≤ wr.heap.size
def addU (us : Nat → List U) (z : Nat) (u : U) : Nat → List U := fun b => if b = z then us b ++ [u] else us b

theorem grown_setCell (w : World) (a : Addr) (v : Value) : w.grownBy (w.setCell a v) (some a.block) :=
  ⟨rfl, rfl, rfl, by simp, fun i hi hne => Below.heap_setCell w a v i (fun e => hne (by rw [e]))⟩
theorem UAt.kept {w w' : World} {B : Nat} {u : U} {row : Option Nat} (h : UAt w B u) (hg : w.grownBy w' row) (hne : some u.blk ≠ row) : UAt w' B u := by
  obtain ⟨h0, c, h1, h2⟩ := h
  exact ⟨h0, c, (hg.block u.blk (Array.getElem?_eq_some_iff.1 h1).1 hne).trans h1, h2⟩
theorem own_heap {w w' : World} {base e size n : Nat} {v : Value} {xs : List Value} (h : w.ownsRow base e size v n xs) (hh : w'.heap = w.heap) : w'.ownsRow base e size v n xs := by
  refine ⟨h.1, ?_⟩
  rw [hh]
  exact h.2

theorem Zs.add {w1 wr wc w3 : World} {H : Nat} {us : Nat → List U} {V : Nat → Value} (h : Zs w1 wr H us V) (z0 : Nat) (hz0 : z0 < 3) (o1 o3 : Obj) (cu : Array Value) (hheap : wc.heap = (((wr.alloc o1).alloc (.cells cu 41)).alloc o3).heap) (hbc : Below (H + 9) w1 wc)
    (a : Nat) (y : Bool) (s : Fin 5) (ha : a < 3) (c1 : cu[1]? = some (.string (nm a))) (c4 : cu[4]? = some (.bool y)) (c5 : cu[5]? = some (enc5 (H + 2) s)) (g cap : Nat)
    (hown : w3.ownsRow (H + 12) 38 1 (.slice (some ⟨g, 0, none⟩) ((us z0).length + 1) cap) ((us z0).length + 1) ((us z0).map uptr ++ [uptr ⟨wr.heap.size + 1, a, y, s⟩]))
    (hgrow : wc.grownBy w3 (V z0).ownBlock) (hat : (V z0).ownBlock = some g ∨ g = wr.heap.size + 3) :
    (w3.cell? ⟨H + 9 + z0, 2, none⟩ = some (V z0) ∧ w3.frozen? ⟨H + 9 + z0, 2, none⟩ = false) ∧
    Zs w1 (w3.setCell ⟨H + 9 + z0, 2, none⟩ (.slice (some ⟨g, 0, none⟩) ((us z0).length + 1) cap)) H (addU us z0 ⟨wr.heap.size + 1, a, y, s⟩) (setV V z0 (.slice (some ⟨g, 0, none⟩) ((us z0).length + 1) cap)) := by
  have hsz := h.size
  have hbl := (h.row z0 hz0).lt
  have hg12 : H + 12 ≤ g := (hown.lt g rfl).1
  have hg3 : g < w3.heap.size := (hown.lt g rfl).2
  have hcs : wc.heap.size = wr.heap.size + 3 := by rw [hheap]; simp
  have g0 : wr.grownBy ((((wr.alloc o1).alloc (.cells cu 41)).alloc o3)) none :=
    ⟨rfl, rfl, rfl, by simp; omega, fun i hi _ => by
      rw [Below.heap_alloc _ _ _ (by simp; omega), Below.heap_alloc _ _ _ (by simp; omega), Below.heap_alloc _ _ _ hi]⟩
  -- a cell of a zone, behind all but the store
  have hcell : ∀ z, z < 3 → w3.cell? ⟨H + 9 + z, 2, none⟩ = some (V z) ∧ w3.frozen? ⟨H + 9 + z, 2, none⟩ = false := fun z hz => by
    obtain ⟨e1, e2⟩ := h.cell z hz
    have hne : some (H + 9 + z) ≠ (V z0).ownBlock := fun e => by have := (hbl _ e.symm).1; omega
    have hblk : wc.heap[H + 9 + z]? = wr.heap[H + 9 + z]? := by rw [hheap]; exact g0.block _ (by omega) (by simp)
    constructor
    · rw [hgrow.cell_far ⟨H + 9 + z, 2, none⟩ (by show H + 9 + z < wc.heap.size; omega) hne, World.cell?_of_block (w := wr) hblk]; exact e1
    · rw [hgrow.frozen_far ⟨H + 9 + z, 2, none⟩ (by show H + 9 + z < wc.heap.size; omega) hne, World.frozen?_of_block (w := wr) hblk]; exact e2
  have hset := grown_setCell w3 ⟨H + 9 + z0, 2, none⟩ (.slice (some ⟨g, 0, none⟩) ((us z0).length + 1) cap)
  refine ⟨hcell z0 hz0, ⟨?_, fun z hz => ?_, fun z hz => ?_, fun b hb c hc hbc k hk => ?_, fun z hz u hu => ?_, ?_⟩⟩
  · exact (hbc.grown hgrow (by omega) (fun k hk => by have := (hbl k hk).1; omega)).setCell (by show H + 9 ≤ H + 9 + z0; omega) _
  · unfold setV
    by_cases e : z = z0
    · subst e
      rw [if_pos rfl]
      exact ⟨World.cell?_setCell_same _ _ _ (hcell z hz).1, by rw [World.frozen?_setCell]; exact (hcell z hz).2⟩
    · rw [if_neg e]
      exact ⟨by rw [World.cell?_setCell_other _ _ _ _ (by intro e'; have := congrArg Addr.block e'; simp at this; omega)]; exact (hcell z hz).1, by rw [World.frozen?_setCell]; exact (hcell z hz).2⟩
  · unfold setV addU
    by_cases e : z = z0
    · subst e
      simp only [if_true, List.map_append, List.map_cons, List.map_nil, List.length_append, List.length_singleton]
      exact hown.kept hset (.inr (by show some g ≠ some (H + 9 + z); intro e; cases e; omega))
    · simp only [e, if_false]
      have r0 : wc.ownsRow (H + 12) 38 1 (V z) (us z).length ((us z).map uptr) := own_heap ((((h.row z hz).alloc o1).alloc (.cells cu 41)).alloc o3) hheap
      have r1 := r0.kept hgrow (by
        cases hv : (V z).ownBlock with
        | none => exact .inl rfl
        | some k => exact .inr (fun e2 => h.apart z hz z0 hz0 e k hv e2.symm))
      exact r1.kept hset (by
        cases hv : (V z).ownBlock with
        | none => exact .inl rfl
        | some k => exact .inr (fun e2 => by have := ((h.row z hz).lt k hv).1; injection e2 with e2; simp at e2; omega))
  · unfold setV at hk ⊢
    by_cases e1 : b = z0
    · subst e1
      simp only [if_true] at hk
      have hkg : k = g := by cases hk; rfl
      subst hkg
      rw [if_neg (fun e => hbc e.symm)]
      rcases hat with hat | hat
      · exact h.apart b hb c hc hbc k hat
      · intro e2
        have := ((h.row c hc).lt k e2).2
        omega
    · rw [if_neg e1] at hk
      by_cases e2 : c = z0
      · subst e2
        simp only [if_true]
        intro e3
        have hkg : g = k := by cases e3; rfl
        subst hkg
        rcases hat with hat | hat
        · exact h.apart b hb c hc hbc g hk hat
        · have := ((h.row b hb).lt g hk).2
          omega
      · rw [if_neg e2]; exact h.apart b hb c hc hbc k hk
  · have old : ∀ u, UAt wr (H + 2) u → H + 12 ≤ u.blk → UAt (w3.setCell ⟨H + 9 + z0, 2, none⟩ (.slice (some ⟨g, 0, none⟩) ((us z0).length + 1) cap)) (H + 2) u := fun u hu hb => by
      have hu0 := hu
      obtain ⟨p0, c, p1, p2⟩ := hu
      have hlt := (Array.getElem?_eq_some_iff.1 p1).1
      have hc : UAt wc (H + 2) u := ⟨p0, c, by rw [hheap, g0.block _ hlt (by simp)]; exact p1, p2⟩
      have h3 : UAt w3 (H + 2) u := hc.kept hgrow (fun e => by
        obtain ⟨_, hr⟩ := h.row z0 hz0
        rcases hr with ⟨e0, _⟩ | ⟨k, _, cur, e0, _, hk, _⟩
        · rw [e0] at e; cases e
        · rw [e0] at e
          injection e with e
          simp at e
          rw [e, hk] at p1
          cases p1)
      exact h3.kept hset (fun e => by injection e with e; simp at e; omega)
    unfold addU at hu
    by_cases e : z = z0
    · subst e
      simp only [if_true, List.mem_append, List.mem_singleton] at hu
      rcases hu with hu | rfl
      · exact ⟨old u (h.use z hz u hu).1 (h.use z hz u hu).2, (h.use z hz u hu).2⟩
      · refine ⟨?_, by show H + 12 ≤ wr.heap.size + 1; omega⟩
        have hc : UAt wc (H + 2) ⟨wr.heap.size + 1, a, y, s⟩ := ⟨ha, cu, by
          rw [hheap]
          show (((wr.alloc o1).alloc (.cells cu 41)).alloc o3).heap[wr.heap.size + 1]? = _
          rw [Below.heap_alloc _ _ _ (by simp)]
          have := heap_alloc_new (wr.alloc o1) (.cells cu 41)
          rwa [World.size_alloc] at this, c1, c4, c5⟩
        have h3 : UAt w3 (H + 2) ⟨wr.heap.size + 1, a, y, s⟩ := hc.kept hgrow (fun e => by have := (hbl _ e.symm).2; simp at this; omega)
        exact h3.kept hset (fun e => by injection e with e; simp at e; omega)
    · simp only [e, if_false] at hu
      exact ⟨old u (h.use z hz u hu).1 (h.use z hz u hu).2, (h.use z hz u hu).2⟩
  · have := hgrow.size
    simp
    omega

/-- The uses in memory are the uses of the input, up to order. -/
def Sem (Y : Nat → Bool) (A : Nat → Nat) (S : Nat → Fin 5) (k : Nat) (us : Nat → List U) : Prop :=
  ∀ a s, (∃ u, (∃ z, z < 3 ∧ u ∈ us z) ∧ u.y = true ∧ u.a = a ∧ u.s = s) ↔ ∃ j, j < k ∧ Y j = true ∧ A j = a ∧ S j = s
theorem Sem.add {Y : Nat → Bool} {A : Nat → Nat} {S : Nat → Fin 5} {k : Nat} {us : Nat → List U} (h : Sem Y A S k us) (z0 : Nat) (hz0 : z0 < 3) (b : Nat) : Sem Y A S (k + 1) (addU us z0 ⟨b, A k, Y k, S k⟩) := by
  intro a s
  constructor
  · rintro ⟨u, ⟨z, hz, hu⟩, h1, h2, h3⟩
    unfold addU at hu
    by_cases e : z = z0
    · rw [if_pos e] at hu
      rcases List.mem_append.1 hu with hu | hu
      · obtain ⟨j, hj, r⟩ := (h a s).1 ⟨u, ⟨z, hz, hu⟩, h1, h2, h3⟩
        exact ⟨j, by omega, r⟩
      · simp at hu
        subst hu
        exact ⟨k, by omega, h1, h2, h3⟩
    · rw [if_neg e] at hu
      obtain ⟨j, hj, r⟩ := (h a s).1 ⟨u, ⟨z, hz, hu⟩, h1, h2, h3⟩
      exact ⟨j, by omega, r⟩
  · rintro ⟨j, hj, h1, h2, h3⟩
    by_cases e : j = k
    · subst e
      exact ⟨⟨b, A j, Y j, S j⟩, ⟨z0, hz0, by unfold addU; rw [if_pos rfl]; simp⟩, h1, h2, h3⟩
    · obtain ⟨u, ⟨z, hz, hu⟩, r⟩ := (h a s).2 ⟨j, by omega, h1, h2, h3⟩
      refine ⟨u, ⟨z, hz, ?_⟩, r⟩
      unfold addU
      by_cases e : z = z0
      · rw [if_pos e]; exact List.mem_append_left _ hu
      · rw [if_neg e]; exact hu
end Go.Proofs.Ybulkmpw
