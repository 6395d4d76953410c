/-
  OUR OWN WORK (an AI prover). What lies in memory behind the law's first two loops: twelve new blocks.
-/
import Derived.Test.YbulkmpwZones
namespace Go.Proofs.Ybulkmpw
open Go.ChangeShapes Go.WideShapes Go.ChangeAt Go.RowKit
set_option linter.unusedVariables false

def allocs (w : World) : List Obj → World
  | [] => w
  | o :: l => allocs (w.alloc o) l
theorem allocs_size (l : List Obj) : ∀ w : World, (allocs w l).heap.size = w.heap.size + l.length := by
  induction l with
  | nil => intro w; rfl
  | cons o l ih => intro w; rw [allocs, ih, World.size_alloc, List.length_cons]; omega
theorem allocs_below (l : List Obj) : ∀ (w a : World) (K : Nat), K ≤ w.heap.size → Below K a w → Below K a (allocs w l) := by
  induction l with
  | nil => intro w a K _ h; exact h
  | cons o l ih => intro w a K hK h; exact ih _ _ _ (by rw [World.size_alloc]; omega) (h.alloc hK o)
theorem allocs_at (l : List Obj) : ∀ (w : World) (k : Nat), k < l.length → (allocs w l).heap[w.heap.size + k]? = l[k]? := by
  induction l with
  | nil => intro w k h; simp at h
  | cons o l ih =>
    intro w k h
    cases k with
    | zero =>
      have hb := allocs_below l (w.alloc o) (w.alloc o) (w.alloc o).heap.size (Nat.le_refl _) (Below.refl _ _)
      rw [allocs, Nat.add_zero, hb.block w.heap.size (by rw [World.size_alloc]; omega)]
      simpa using heap_alloc_new w o
    | succ k =>
      have := ih (w.alloc o) k (by simpa using h)
      rw [World.size_alloc] at this
      rw [allocs, show w.heap.size + (k + 1) = w.heap.size + 1 + k by omega, this]
      simp

def rkOf (sh : Int) (i : Nat) : Int := (2 * (i : Int) + sh) % 5
abbrev sense (r : Int) : Obj := .cells #[.slice none 0 0, .slice none 0 0, .int .i64 0, .int .i64 r] 30
abbrev ptrTo (b : Nat) : Value := .pointer (some ⟨b, 0, none⟩)
def objs (H : Nat) (sh : Int) : List Obj :=
  [.cells #[.string { data := #[69, 83, 84] }, .string { data := #[67, 83, 84] }, .string { data := #[73, 83, 84] }] 24,
   .cells #[ptrTo (H + 2), ptrTo (H + 3), ptrTo (H + 4), ptrTo (H + 5), ptrTo (H + 6)] 26,
   sense (sh % 5), sense ((2 + sh) % 5), sense ((4 + sh) % 5), sense ((6 + sh) % 5), sense ((8 + sh) % 5),
   .cells #[.string { data := #[65] }, .string { data := #[66] }, .string { data := #[67] }] 24,
   .cells #[ptrTo (H + 9), ptrTo (H + 10), ptrTo (H + 11)] 32,
   .cells #[.string { data := #[65] }, .slice none 0 0, .slice none 0 0] 35, .cells #[.string { data := #[66] }, .slice none 0 0, .slice none 0 0] 35, .cells #[.string { data := #[67] }, .slice none 0 0, .slice none 0 0] 35]

theorem five {p : Nat → Prop} (h0 : p 0) (h1 : p 1) (h2 : p 2) (h3 : p 3) (h4 : p 4) (a : Nat) (h : a < 5) : p a := by
  rcases (show a = 0 ∨ a = 1 ∨ a = 2 ∨ a = 3 ∨ a = 4 by omega) with rfl | rfl | rfl | rfl | rfl <;> assumption

/-- What the rest of the law is told of that memory. -/
structure Based (w1 : World) (H : Nat) (sh : Int) : Prop where
  abb : ∀ a, a < 3 → w1.cell? ⟨H, a, none⟩ = some (.string (nm a))
  pool : ∀ i, i < 5 → w1.cell? ⟨H + 1, i, none⟩ = some (.pointer (some ⟨H + 2 + i, 0, none⟩))
  sens : Pool w1 (H + 2) (rkOf sh)
  zon : ∀ z, z < 3 → w1.cell? ⟨H + 8, z, none⟩ = some (.pointer (some ⟨H + 9 + z, 0, none⟩))
  size : w1.heap.size = H + 12
  zs : Zs w1 w1 H (fun _ => []) (fun _ => .slice none 0 0)
theorem based (w : World) (sh : Int) : Based (allocs w (objs w.heap.size sh)) w.heap.size sh := by
  have hsz : (allocs w (objs w.heap.size sh)).heap.size = w.heap.size + 12 := by rw [allocs_size]; rfl
  have key : ∀ k (hk : k < 12), (allocs w (objs w.heap.size sh)).heap[w.heap.size + k]? = (objs w.heap.size sh)[k]? := fun k hk => allocs_at _ w k hk
  have cel : ∀ k (hk : k < 12) (c : Array Value) (t : TypeId), (objs w.heap.size sh)[k]? = some (.cells c t (0, 0)) → ∀ i, (allocs w (objs w.heap.size sh)).cell? ⟨w.heap.size + k, i, none⟩ = c[i]? := fun k hk c t h i => by
    have := key k hk
    rw [h] at this
    simp [World.cell?, this]
  have fro : ∀ k (hk : k < 12) (c : Array Value) (t : TypeId), (objs w.heap.size sh)[k]? = some (.cells c t (0, 0)) → ∀ i, (allocs w (objs w.heap.size sh)).frozen? ⟨w.heap.size + k, i, none⟩ = false := fun k hk c t h i => by
    have := key k hk
    rw [h] at this
    simp [World.frozen?, this]
  refine ⟨?_, ?_, ?_, ?_, hsz, ⟨Below.refl _ _, ?_, fun z hz => World.ownsRow_nil _ _ _ _, fun _ _ _ _ _ g h => (by cases h), fun _ _ u hu => (by cases hu), by omega⟩⟩
  · apply three <;> exact cel 0 (by omega) _ _ rfl _
  · apply five <;> exact cel 1 (by omega) _ _ rfl _
  · apply five
    · exact ⟨_, key 2 (by omega), by simp [rkOf]⟩
    · exact ⟨_, key 3 (by omega), by simp [rkOf]⟩
    · exact ⟨_, key 4 (by omega), by simp [rkOf]⟩
    · exact ⟨_, key 5 (by omega), by simp [rkOf]⟩
    · exact ⟨_, key 6 (by omega), by simp [rkOf]⟩
  · apply three <;> exact cel 8 (by omega) _ _ rfl _
  · apply three
    · exact ⟨cel 9 (by omega) _ _ rfl 2, fro 9 (by omega) _ _ rfl 2⟩
    · exact ⟨cel 10 (by omega) _ _ rfl 2, fro 10 (by omega) _ _ rfl 2⟩
    · exact ⟨cel 11 (by omega) _ _ rfl 2, fro 11 (by omega) _ _ rfl 2⟩
end Go.Proofs.Ybulkmpw
