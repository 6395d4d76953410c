/-
  OUR OWN WORK (an AI prover). The walk of 'LawS0659BActive' (function 3), over the contracts.
-/
import Derived.Test.YbulkmpwDoorParts
namespace Go.Proofs.YbulkmpwDoor
open Go.ChangeShapes Go.WideShapes Go.ChangeAt Go.RowKit
set_option linter.unusedVariables false

theorem law_none (s : ByteArray) (d : Int) (a : Addr) (w : World) (hg : w.cell? ⟨0, 0, none⟩ = some (.iface 76 (.pointer (some a)))) (h0 : 0 < w.heap.size) :
    Calls Ybad.prog 3 #[.string s, .bool false, .int .u64 d] w fun e w' => e = .returned (.bool true) ∧ Below w.heap.size w w' := by
  have hg1 : ∀ o, (w.alloc o).cell? ⟨0, 0, none⟩ = some (.iface 76 (.pointer (some a))) := fun o => (World.cell?_alloc_past _ _ _ h0).trans hg
  have hact := hide (active_none w.heap.size (.iface 76 (.pointer (some a))) (w.alloc (.cells #[.string s, .pointer none] 32)) (by rw [World.cell?_alloc_at _ _ _ _ rfl]; rfl) (hg1 _))
  go_enter Ybad.func3, Ybad.ntmps3
  go_wp2_with (first | (go_at_call 5; refine hact.out.mono ?_; rintro e w' ⟨rfl, nq, rfl⟩) | (go_at_call 6; refine (Set_none _ _ ?_).mono ?_; (rw [World.cell?_drewN, World.cell?_alloc_at _ _ _ _ rfl]; rfl); rintro e w' ⟨rfl, rfl⟩) | (go_at_call 7; refine (is_same _ _).mono ?_; rintro e w' ⟨rfl, rfl⟩))
  go_ret
  exact ⟨rfl, below_drewN ((Below.refl _ _).alloc (Nat.le_refl _) _) _⟩

/-- The two blocks of the call: the ActiveSet with its set stored, the Set. -/
abbrev actObj (s : ByteArray) (b : Nat) : Obj := .cells #[.string s, .pointer (some ⟨b, 0, none⟩)] 32
abbrev setCs (d : Int) : Array Value := #[.map none, .int .u64 d, .int .i32 0, .int .u32 0, .pointer none]

theorem law_some (s : ByteArray) (d : Int) (a : Addr) (w : World) (hg : w.cell? ⟨0, 0, none⟩ = some (.iface 76 (.pointer (some a)))) (h0 : 0 < w.heap.size) :
    Calls Ybad.prog 3 #[.string s, .bool true, .int .u64 d] w fun e w' => e = .returned (.bool true) ∧ Below w.heap.size w w' := by
  obtain ⟨j, hj, _⟩ := Option.map_eq_some_iff.1 info47
  have hpe := fun (w : World) (a : Addr) => run_eql_ptr_same (P := Ybad.prog) w (tp := 24) (te := 47) a Ybad.underlying24 hj
  have hpn := fun (w : World) (a : Addr) => Lib.run_neq_ptr_same (P := Ybad.prog) w (tp := 24) (te := 47) a Ybad.underlying24 hj
  have hcell : ((w.alloc (actObj s (w.heap.size + 1))).alloc (.cells (setCs d) 47)).cell? ⟨w.heap.size, 1, none⟩ = some (.pointer (some ⟨w.heap.size + 1, 0, none⟩)) := by
    rw [World.cell?_alloc_past _ _ _ (by simp), World.cell?_alloc_at _ _ _ _ rfl]; rfl
  have hheap : ((w.alloc (actObj s (w.heap.size + 1))).alloc (.cells (setCs d) 47)).heap[w.heap.size + 1]? = some (.cells (setCs d) 47 (0, 0)) := by
    have := heap_alloc_new (w.alloc (actObj s (w.heap.size + 1))) (.cells (setCs d) 47)
    simpa using this
  have hact := hide (active_some w.heap.size (w.heap.size + 1) (setCs d) ((w.alloc (actObj s (w.heap.size + 1))).alloc (.cells (setCs d) 47)) hcell rfl hheap)
  have hset := hide (Set_some w.heap.size (w.heap.size + 1) (setCs d) ((w.alloc (actObj s (w.heap.size + 1))).alloc (.cells (setCs d) 47)) hcell rfl hheap)
  clear hcell hheap
  go_enter Ybad.func3, Ybad.ntmps3
  go_wp2_with (go_at_call 4; refine (Store_calls w.heap.size (w.heap.size + 1) (.map none) (.pointer none) _ ?_ ?_ ?_).mono ?_; (rw [World.cell?_alloc_at _ _ _ _ (by simp)]; rfl); (rw [World.cell?_alloc_past _ _ _ (by simp), World.cell?_alloc_at _ _ _ _ rfl]; rfl); (rw [World.frozen?_alloc_past _ _ _ (by simp), World.frozen?_alloc_at _ _ _ _ rfl]); rintro e w' ⟨rfl, rfl⟩)
  refine hact.out.mono ?_
  rintro e w' ⟨rfl, rfl⟩
  go_wp2_with (go_at_call 6; refine hset.out.mono ?_; rintro e w' ⟨rfl, rfl⟩)
  go_ret
  exact ⟨rfl, ((Below.refl _ _).alloc (Nat.le_refl _) _).alloc (by simp) _⟩
end Go.Proofs.YbulkmpwDoor
