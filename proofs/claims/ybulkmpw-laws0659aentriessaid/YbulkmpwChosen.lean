/-
  OUR OWN WORK (an AI prover). The state of the law's loop over the chosen senses.
-/
import Derived.Test.YbulkmpwBase
namespace Go.Proofs.Ybulkmpw
open Go.ChangeShapes Go.WideShapes Go.ChangeAt Go.RowKit
set_option linter.unusedVariables false

def upto (ch : Nat → Option (Fin 5)) (a b : Nat) : Option (Fin 5) := if b < a then ch b else none
def ix : Option (Fin 5) → Int
  | none => -1
  | some c => (c.val : Int)
def idxTo (ch : Nat → Option (Fin 5)) (a b : Nat) : Int := if b < a then ix (ch b) else 0
structure Chs (wr wq : World) (B cb a : Nat) (ch : Nat → Option (Fin 5)) : Prop where
  map : MapIs wq cb (chm (upto ch a) B)
  cell : ∀ b, b < 3 → wq.cell? ⟨cb + 1, b, none⟩ = some (.int .i64 (idxTo ch a b)) ∧ wq.frozen? ⟨cb + 1, b, none⟩ = false
  below : Below cb wr wq
  size : cb + 2 ≤ wq.heap.size
theorem Chs_start (wr : World) (B : Nat) (ch : Nat → Option (Fin 5)) : Chs wr ((wr.alloc (.map #[] 0)).alloc (.cells #[.int .i64 0, .int .i64 0, .int .i64 0] 43)) B wr.heap.size 0 ch := by
  refine ⟨?_, ?_, ((Below.refl _ _).alloc (Nat.le_refl _) _).alloc (by rw [World.size_alloc]; omega) _, by rw [World.size_alloc, World.size_alloc]; omega⟩
  · exact World.ownsMap.alloc (MapIs_made wr) _
  · apply three
    all_goals exact ⟨by rw [World.cell?_alloc_at _ _ _ _ (by rw [World.size_alloc])]; rfl, World.frozen?_alloc_at _ _ _ _ (by rw [World.size_alloc])⟩
theorem Chs.skip {wr wq : World} {B cb a : Nat} {ch : Nat → Option (Fin 5)} (h : Chs wr wq B cb a ch) (ha : a < 3) (hc : ch a = none) : Chs wr (wq.setCell ⟨cb + 1, a, none⟩ (.int .i64 (-1))) B cb (a + 1) ch := by
  refine ⟨?_, fun b hb => ?_, h.below.setCell (by show cb ≤ cb + 1; omega) _, by simpa using h.size⟩
  · have e : chm (upto ch (a + 1)) B = chm (upto ch a) B := by
      funext b
      unfold chm upto
      by_cases e1 : b < a
      · rw [if_pos e1, if_pos (by omega)]
      · by_cases e2 : b = a
        · subst e2; rw [if_pos (by omega), if_neg e1, hc]
        · rw [if_neg e1, if_neg (by omega)]
    rw [e]
    exact World.ownsMap.setCell h.map (by show cb ≠ cb + 1; omega) _
  · obtain ⟨c1, c2⟩ := h.cell b hb
    refine ⟨?_, by rw [World.frozen?_setCell]; exact c2⟩
    by_cases e : b = a
    · subst e
      rw [World.cell?_setCell_same _ _ _ c1]
      unfold idxTo
      rw [if_pos (by omega), hc]; rfl
    · rw [World.cell?_setCell_other _ _ _ _ (by intro e'; have := congrArg Addr.off e'; simp at this; omega), c1]
      unfold idxTo
      by_cases e1 : b < a
      · rw [if_pos e1, if_pos (by omega)]
      · rw [if_neg e1, if_neg (by omega)]
theorem Chs.put {wr wq wS : World} {B cb a : Nat} {ch : Nat → Option (Fin 5)} (h : Chs wr wq B cb a ch) (ha : a < 3) (c : Fin 5) (hc : ch a = some c)
    (hg : wq.grownBy wS (some (cb + 1))) (hcell : ∀ b, b < 3 → wS.cell? ⟨cb + 1, b, none⟩ = some (.int .i64 (if b = a then (c.val : Int) else idxTo ch a b)) ∧ wS.frozen? ⟨cb + 1, b, none⟩ = false) (hb : Below cb wr wS) :
    ∃ w2, (Instr.mapUpdate 42 (.map (some cb)) (.string (nm a)) (.pointer (some ⟨B + c.val, 0, none⟩))).run Yba.prog wS = .ok () w2 ∧ Chs wr w2 B cb (a + 1) ch ∧ wS.grownBy w2 (some cb) ∧ w2.heap.size = wS.heap.size := by
  have m1 : MapIs wS cb (chm (upto ch a) B) := h.map.kept hg (by simp)
  obtain ⟨w2, hrun, hm, hg2, hs2⟩ := m1.update Yba.underlying42 a ha (.pointer (some ⟨B + c.val, 0, none⟩))
  have hsz := h.size
  have hgs := hg.size
  refine ⟨w2, hrun, ⟨?_, fun b hb' => ?_, hb.grown hg2 (by omega) (fun k hk => by cases hk; exact Nat.le_refl _), by omega⟩, hg2, hs2⟩
  · have e : chm (upto ch (a + 1)) B = upd (chm (upto ch a) B) a (.pointer (some ⟨B + c.val, 0, none⟩)) := by
      funext b
      unfold chm upto upd
      by_cases e2 : b = a
      · subst e2; rw [if_pos (by omega), if_pos rfl, hc]; rfl
      · rw [if_neg e2]
        show _ = Option.map (enc5 B) (if b < a then ch b else none)
        by_cases e1 : b < a
        · rw [if_pos e1, if_pos (by omega)]
        · rw [if_neg e1, if_neg (by omega)]
    rw [e]
    exact hm
  · obtain ⟨c1, c2⟩ := hcell b hb'
    refine ⟨?_, by rw [hg2.frozen_far ⟨cb + 1, b, none⟩ (by show cb + 1 < _; omega) (by simp)]; exact c2⟩
    rw [hg2.cell_far ⟨cb + 1, b, none⟩ (by show cb + 1 < _; omega) (by simp), c1]
    unfold idxTo
    by_cases e : b = a
    · subst e
      rw [if_pos rfl, if_pos (by omega), hc]; rfl
    · rw [if_neg e]
      by_cases e1 : b < a
      · rw [if_pos e1, if_pos (by omega)]
      · rw [if_neg e1, if_neg (by omega)]
end Go.Proofs.Ybulkmpw
