/-
  OUR OWN WORK (an AI prover). A map whose keys are among three names, as a plain function: what it is to make it, to look into it, to write it.
-/
import Derived.Test.YbulkmpwRows
import Derived.WalkKit
import Derived.ProofKit
import Derived.Below
import Derived.Maps.OwnSet
import Derived.Maps.RangeWalk
namespace Go.Proofs.Ybulkmpw
open Go.ChangeShapes Go.WideShapes Go.ChangeAt Go.RowKit
set_option linter.unusedVariables false

def nm : Nat → ByteArray
  | 0 => { data := #[69, 83, 84] }
  | 1 => { data := #[67, 83, 84] }
  | _ => { data := #[73, 83, 84] }
def kl : Nat → Lit
  | 0 => .string [69, 83, 84]
  | 1 => .string [67, 83, 84]
  | _ => .string [73, 83, 84]
def rdV (v : Value) : Option (DataW Value × List MemPlace) := some (.held v, [])
def ent (m : Nat → Option Value) (a : Nat) : List (Lit × DataW Value) :=
  match m a with
  | none => []
  | some v => [(kl a, .held v)]
def DM (m : Nat → Option Value) : DataW Value := .map (ent m 1 ++ (ent m 0 ++ ent m 2))
def upd (m : Nat → Option Value) (a : Nat) (v : Value) : Nat → Option Value := fun b => if b = a then some v else m b
def one (m : Nat → Option Value) (a : Nat) : Nat := if (m a).isSome then 1 else 0
def cnt (m : Nat → Option Value) : Nat := one m 0 + one m 1 + one m 2

theorem three {p : Nat → Prop} (h0 : p 0) (h1 : p 1) (h2 : p 2) (a : Nat) (h : a < 3) : p a := by
  rcases (show a = 0 ∨ a = 1 ∨ a = 2 by omega) with rfl | rfl | rfl <;> assumption

theorem DM_put (m : Nat → Option Value) (v : Value) : ∀ a, a < 3 → (DM m).put (kl a) (.held v) = DM (upd m a v) := by
  apply three
  all_goals
    unfold DM upd ent
    cases h0 : m 0 <;> cases h1 : m 1 <;> cases h2 : m 2 <;> simp [h0, h1, h2] <;> rfl
theorem DM_has (m : Nat → Option Value) : ∀ a, a < 3 → Maps.has (DM m) (kl a) = (m a).isSome := by
  apply three
  all_goals
    unfold DM ent
    cases h0 : m 0 <;> cases h1 : m 1 <;> cases h2 : m 2 <;> rfl
theorem DM_at (m : Nat → Option Value) (z : Value) : ∀ a, a < 3 → (DM m).atKey (kl a) (.held z) = .held ((m a).getD z) := by
  apply three
  all_goals
    unfold DM ent
    cases h0 : m 0 <;> cases h1 : m 1 <;> cases h2 : m 2 <;> rfl
theorem DM_size (m : Nat → Option Value) : Maps.size (DM m) = cnt m := by
  unfold DM ent cnt one
  cases h0 : m 0 <;> cases h1 : m 1 <;> cases h2 : m 2 <;> rfl
theorem kl_key : ∀ a, a < 3 → keyOf Yba.prog 9 (.string (nm a)) = some (kl a) := by
  apply three
  all_goals exact WideMaps.keyOf_string_mk Yba.underlying9 (by decide)

/-- THE MAP AT BLOCK b IS m. -/
def MapIs (w : World) (b : Nat) (m : Nat → Option Value) : Prop := w.ownsMap Yba.prog 9 rdV b 3 (DM m)
theorem MapIs.of {w : World} {b n : Nat} {m : Nat → Option Value} (h : w.ownsMap Yba.prog 9 rdV b n (DM m)) : MapIs w b m := by
  have hs := DM_size m
  have hc : cnt m ≤ 3 := by unfold cnt one; split <;> split <;> split <;> omega
  obtain ⟨es, clock, hb, F, _, hD⟩ := h
  refine ⟨es, clock, hb, F, ?_, hD⟩
  have : Maps.size (DM m) = es.size := by rw [hD]; simp [Maps.size, length_sorted]
  omega
theorem MapIs_made (w : World) : MapIs (w.alloc (.map #[] 0)) w.heap.size (fun _ => none) := MapIs.of (w.ownsMap_made Yba.prog 9 rdV)
theorem MapIs.look {w : World} {b : Nat} {m : Nat → Option Value} (h : MapIs w b m) {t e : TypeId} {z : Value} (ht : Yba.prog.underlying t = some (.map 9 e)) (hz : (zeroValue e).run Yba.prog w = .ok z w) (a : Nat) (ha : a < 3) :
    (Instr.lookup t (.map (some b)) (.string (nm a)) false).run Yba.prog w = .ok ((m a).getD z) w := by
  obtain ⟨v, ps, hrun, hv⟩ := h.lookup (Maps.string_keyed Yba.underlying9) ht hz (zd := .held z) (zp := []) rfl (kl_key a ha)
  rw [DM_at m z a ha] at hv
  simp only [rdV, Option.some.injEq, Prod.mk.injEq, DataW.held.injEq] at hv
  rw [hrun, hv.1]
theorem MapIs.look_ok {w : World} {b : Nat} {m : Nat → Option Value} (h : MapIs w b m) {t e : TypeId} {z : Value} (ht : Yba.prog.underlying t = some (.map 9 e)) (hz : (zeroValue e).run Yba.prog w = .ok z w) (a : Nat) (ha : a < 3) :
    (Instr.lookup t (.map (some b)) (.string (nm a)) true).run Yba.prog w = .ok (.tuple #[(m a).getD z, .bool (m a).isSome]) w := by
  obtain ⟨v, ps, hrun, hv⟩ := World.ownsMap.look_ok h (Maps.string_keyed Yba.underlying9) ht hz (zd := .held z) (zp := []) rfl (kl_key a ha)
  rw [DM_at m z a ha] at hv
  rw [DM_has m a ha] at hrun
  simp only [rdV, Option.some.injEq, Prod.mk.injEq, DataW.held.injEq] at hv
  rw [hrun, hv.1]
theorem MapIs.len {w : World} {b : Nat} {m : Nat → Option Value} (h : MapIs w b m) {t e : TypeId} (ht : Yba.prog.underlying t = some (.map 9 e)) (ty : TypeId) :
    (Builtin.len_ #[t] ty #[.map (some b)]).run Yba.prog w = .ok (.int .i64 (cnt m)) w := by
  rw [World.ownsMap.len h ht ty, DM_size]
theorem MapIs.update {w : World} {b : Nat} {m : Nat → Option Value} (h : MapIs w b m) {t e : TypeId} (ht : Yba.prog.underlying t = some (.map 9 e)) (a : Nat) (ha : a < 3) (v : Value) :
    ∃ w', (Instr.mapUpdate t (.map (some b)) (.string (nm a)) v).run Yba.prog w = .ok () w' ∧ MapIs w' b (upd m a v) ∧ w.grownBy w' (some b) ∧ w'.heap.size = w.heap.size := by
  obtain ⟨w', hrun, h', ht'⟩ := World.ownsMap.store h (Maps.string_keyed Yba.underlying9) ht (by unfold maxLen; omega) (kl_key a ha) (d := .held v) (ps := []) rfl
  rw [DM_put m v a ha] at h'
  refine ⟨w', hrun, MapIs.of h', ht'.grown, ?_⟩
  obtain ⟨_, _, _, _, hb, rfl⟩ := ht'
  simp [ChangeMaps.setBlock]
theorem MapIs.kept {w w' : World} {b : Nat} {row : Option Nat} {m : Nat → Option Value} (h : MapIs w b m) (hg : w.grownBy w' row) (hne : some b ≠ row) : MapIs w' b m := World.ownsMap.kept h hg hne
theorem MapIs.lt {w : World} {b : Nat} {m : Nat → Option Value} (h : MapIs w b m) : b < w.heap.size := World.ownsMap.lt h
end Go.Proofs.Ybulkmpw
