/-
  OUR OWN WORK (an AI prover). The contracts of sync/atomic Pointer.Store, Load, of ActiveSet.Set, active, and of errors.Is at the sentinel itself (after the guide's SentryIs).
-/
import Derived.Test.YbulkmpwDoorRows
import Derived.WalkKit
import Derived.WalkSpells
import Derived.ProofKit
import Derived.OpenShut
import Derived.Below
import Derived.BigQuiet
import Derived.Deep.QuietTactic
import Derived.WalkSmall
import Derived.Lib.Builder
import Derived.LaidEql
import Derived.RowKitTokens
namespace Go.Proofs.YbulkmpwDoor
open Go.ChangeShapes Go.WideShapes Go.ChangeAt Go.RowKit
set_option linter.unusedVariables false

theorem hide {p : Prop} (h : p) : Hid p := h
theorem store_run (a : Addr) (p : Option Addr) (v : Value) (w : World) (hc : w.cell? a = some v) (hz : w.frozen? a = false) : (callFunc 8 #[.pointer (some a), .pointer p]).run Ybad.prog w = .ok (.value (.tuple #[])) (w.setCell a (.pointer p)) := by
  rw [run_callFunc_extern Ybad.func8 (by kernel_rfl) (by kernel_rfl) (by kernel_rfl) (show Extern.find Ybad.f8 = some Extern.Atomic.storeT by kernel_rfl)]
  change (Sem.run Ybad.prog (do
    store (← asAddr (.pointer (some a))) (.pointer p) .atomic
    pure Extern.Atomic.none_) w).andThen _ = _
  simp [asAddr, hc, hz, run_store Ybad.prog w a (.pointer p) .atomic rfl, Result.andThen, Extern.Atomic.none_]
theorem load_run (a : Addr) (p : Option Addr) (w : World) (hc : w.cell? a = some (.pointer p)) : (callFunc 12 #[.pointer (some a)]).run Ybad.prog w = .ok (.value (.pointer p)) w := by
  rw [run_callFunc_extern Ybad.func12 (by kernel_rfl) (by kernel_rfl) (by kernel_rfl) (show Extern.find Ybad.f12 = some (Extern.Atomic.loadT .ptr) by kernel_rfl)]
  change (Sem.run Ybad.prog (do Extern.Atomic.read .ptr (← asAddr (.pointer (some a)))) w).andThen _ = _
  simp [Extern.Atomic.read, asAddr, hc, Result.andThen]

theorem info47 : (Ybad.prog.info? 47).map (fun i => (i.size, i.bytes)) = some (5, 32) := by kernel_rfl
theorem to_unsafe (a : Addr) (v : Value) (w : World) (hc : w.cell? a = some v) : (convert 24 28 (.pointer (some a))).run Ybad.prog w = .ok (.pointer (some a)) w :=
  run_convert_to_unsafe Ybad.underlying24 Ybad.underlying28 (by kernel_rfl) hc
theorem from_none (w : World) : (convert 28 24 (.pointer none)).run Ybad.prog w = .ok (.pointer none) w := by
  simp [convert, run_underlying Ybad.underlying24, run_underlying Ybad.underlying28, Conv.unsafePointer]
theorem from_some (b : Nat) (cs : Array Value) (w : World) (hs : cs.size = 5) (hb : w.heap[b]? = some (.cells cs 47 (0, 0))) : (convert 28 24 (.pointer (some ⟨b, 0, none⟩))).run Ybad.prog w = .ok (.pointer (some ⟨b, 0, none⟩)) w := by
  obtain ⟨j, hj, _⟩ := Option.map_eq_some_iff.1 info47
  exact Lib.run_from_unsafe (P := Ybad.prog) (w := w) (src := 28) (dst := 24) (u := 47) (e := 47) (cells := 5) ⟨b, 0, none⟩ Ybad.underlying28 Ybad.underlying24 hj (by simp [World.shape?, hb, hs]) (by kernel_rfl)

theorem Store_calls (sb b : Nat) (u v : Value) (w : World) (cb : w.cell? ⟨b, 0, none⟩ = some u) (c1 : w.cell? ⟨sb, 1, none⟩ = some v) (f1 : w.frozen? ⟨sb, 1, none⟩ = false) :
    Calls Ybad.prog 4 #[.pointer (some ⟨sb, 1, none⟩), .pointer (some ⟨b, 0, none⟩)] w fun e w' => e = .returned (.tuple #[]) ∧ w' = w.setCell ⟨sb, 1, none⟩ (.pointer (some ⟨b, 0, none⟩)) := by
  have h1 := store_run ⟨sb, 1, none⟩ (some ⟨b, 0, none⟩) v w c1 f1
  have h2 := to_unsafe ⟨b, 0, none⟩ u w cb
  go_enter Ybad.func4, Ybad.ntmps4
  go_wp2
  go_end0
  exact ⟨rfl, rfl⟩
theorem Set_none (sb : Nat) (w : World) (c1 : w.cell? ⟨sb, 1, none⟩ = some (.pointer none))  :
    Calls Ybad.prog 6 #[.pointer (some ⟨sb, 0, none⟩)] w fun e w' => e = .returned (.pointer none) ∧ w' = w := by
  have h1 := load_run ⟨sb, 1, none⟩ none w c1
  have h2 := from_none w
  go_enter Ybad.func6, Ybad.ntmps6
  go_wp2
  go_ret
  exact ⟨rfl, rfl⟩
theorem Set_some (sb b : Nat) (cs : Array Value) (w : World) (c1 : w.cell? ⟨sb, 1, none⟩ = some (.pointer (some ⟨b, 0, none⟩))) (hs : Hid (cs.size = 5)) (hb : Hid (w.heap[b]? = some (.cells cs 47 (0, 0)))) :
    Calls Ybad.prog 6 #[.pointer (some ⟨sb, 0, none⟩)] w fun e w' => e = .returned (.pointer (some ⟨b, 0, none⟩)) ∧ w' = w := by
  have h1 := load_run ⟨sb, 1, none⟩ (some ⟨b, 0, none⟩) w c1
  have h2 := from_some b cs w hs.out hb.out
  go_enter Ybad.func6, Ybad.ntmps6
  go_wp2
  go_ret
  exact ⟨rfl, rfl⟩
theorem active_none (sb : Nat) (s : Value) (w : World) (c1 : w.cell? ⟨sb, 1, none⟩ = some (.pointer none)) (hg : w.cell? ⟨0, 0, none⟩ = some s) :
    Calls Ybad.prog 5 #[.pointer (some ⟨sb, 0, none⟩)] w fun e w' => e = .returned (.tuple #[.pointer none, s]) ∧ ∃ n, w' = w.drewN n := by
  go_enter Ybad.func5, Ybad.ntmps5
  go_wp2_with (go_at_call 6; refine (Set_none _ _ (by assumption)).mono ?_; rintro e w' ⟨rfl, rfl⟩)
  go_quiet (fail)
  go_wp2
  go_ret2
  exact ⟨rfl, _, rfl⟩
theorem active_some (sb b : Nat) (cs : Array Value) (w : World) (c1 : w.cell? ⟨sb, 1, none⟩ = some (.pointer (some ⟨b, 0, none⟩))) (hs : Hid (cs.size = 5)) (hb : Hid (w.heap[b]? = some (.cells cs 47 (0, 0)))) :
    Calls Ybad.prog 5 #[.pointer (some ⟨sb, 0, none⟩)] w fun e w' => e = .returned (.tuple #[.pointer (some ⟨b, 0, none⟩), .nilIface]) ∧ w' = w := by
  go_enter Ybad.func5, Ybad.ntmps5
  go_wp2_with (go_at_call 6; refine (Set_some _ b cs _ (by assumption) hs hb).mono ?_; rintro e w' ⟨rfl, rfl⟩)
  go_ret2
  exact ⟨rfl, rfl⟩

/-! ### errors.Is(x, x), x a pointer to an errors.errorString: closed facts first -/
theorem typeOf_run (v : Value) (w : World) : (callFunc 10 #[.iface 76 v]).run Ybad.prog w = .ok (.value (.iface 66 (.agg #[.pointer (some ⟨1, 76, none⟩)]))) w := by kernel_rfl
theorem comparable_run (w : World) : (callFunc 32 #[.agg #[.pointer (some ⟨1, 76, none⟩)]]).run Ybad.prog w = .ok (.value (.bool true)) w := by kernel_rfl
theorem isComp : (Ybad.prog.info? 76).map (·.comparable) = some true := by kernel_rfl
theorem isSize : (Ybad.prog.info? 109).map (·.size) = some 1 := by kernel_rfl
theorem methodComparable_run (v : Value) (w : World) : (Go.method 237 66 v "Comparable").run Ybad.prog w = .ok (32, v) w := by kernel_rfl

set_option maxRecDepth 100000 in
theorem is_same (a : Addr) (w : World) :
    Calls Ybad.prog 7 #[.iface 76 (.pointer (some a)), .iface 76 (.pointer (some a))] w fun e w' => e = .returned (.bool true) ∧ w' = w := by
  obtain ⟨i, hi, hcmp⟩ := Option.map_eq_some_iff.1 isComp
  obtain ⟨j, hj, hjs⟩ := Option.map_eq_some_iff.1 isSize
  have h8 := typeOf_run
  have h32 := comparable_run
  have mR := methodComparable_run
  have heq := run_eql_iface_ptr_same (P := Ybad.prog) w a Ybad.underlying50 Ybad.underlying76 hi hcmp hj
  go_enter Ybad.func7, Ybad.ntmps7
  go_wp2
  refine wp_loop_rounds 1 ?_
  rw [rounds_succ]
  go_wp2
  go_ret
  exact ⟨rfl, rfl⟩
end Go.Proofs.YbulkmpwDoor
