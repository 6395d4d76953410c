/-
  OUR OWN WORK (an AI prover). THE TIED CARD OF 'ozab.LawS0659BActive' (function 3): from the walks (YbulkmpwDoorLaw) to the row, after the guide's Toyas, Ipow and Sent6 texts; the card by the builder's one call, over the given tie.
-/
import Derived.Test.YbulkmpwDoorTie
import Derived.Test.YbulkmpwDoorCards
import Derived.Test.YbulkmpwDoorLaw
import Derived.ShutString
import Derived.ChangeOld
import Derived.Handed
import Derived.LaidLaws
import Derived.Stop.LaidErr
namespace Go.Proofs.YbulkmpwDoor
open Go.ChangeShapes Go.WideShapes Go.ChangeAt Go.RowKit
open Go.ChangeMaps (open_string shut_string)
set_option linter.unusedVariables false

theorem own : ownKnob Ybad.prog.godebug = none := by kernel_rfl
theorem cells109 : Ybad.prog.cellsOf 109 = 1 := by kernel_rfl
theorem cells9 : Ybad.prog.cellsOf 9 = 1 := by kernel_rfl
theorem gType : (Ybad.prog.globals[0]?).map (·.type) = some 50 := by kernel_rfl

/-- The name of a datum's dynamic type, out of the given datum. -/
def nmOf : DataW Unit → String
  | .iface n _ => n
  | _ => default
theorem row76 (u : TypeId) (h : Ybad.prog.typeName? 3 u = some (nmOf Rows.laid_example_com_ozab_ozab_errNoActiveSet)) : u = 76 :=
  typeName_ptr_named (nm := "errors.errorString") (by kernel_rfl) (by kernel_rfl) (by decide) u (h.trans (by kernel_rfl))

/-- What the given 'laid' says of the variable. -/
theorem sentinel {W : World} (h : laidMetH Ybad.prog Rows.lawS0659BActiveRow.laid W) :
    ∃ (a : Addr) (n : String), Rows.lawS0659BActiveSpec.vars = [n] ∧ Ybad.prog.globalNamed n = some 0 ∧ W.var? Ybad.prog n = some #[.iface 76 (.pointer (some a))] := by
  have h' : laidMet Ybad.prog Rows.lawS0659BActiveRow.laid W := h
  obtain ⟨a, s, hv, _⟩ := laid_sentinel (P := Ybad.prog) (g := 0) (ti := 50) (tp := 76) (te := 109) (ts := 9) h' (by kernel_rfl) gType Ybad.underlying50 (fun u hu => row76 u hu) Ybad.underlying76 Ybad.underlying109 rfl rfl Ybad.underlying9 cells109 cells9
  exact ⟨a, _, rfl, by kernel_rfl, hv⟩

/-- A world that meets the condition: the settled one, one block more for the error, the variable's cell laid. -/
theorem laid_met (os : Os) (args : Array Value) : laidMetH Ybad.prog Rows.lawS0659BActiveRow.laid (({ World.holding Ybad.prog os ⟨#[.cells #[.string ⟨(match Rows.laid_example_com_ozab_ozab_errNoActiveSet (H := Unit) with | .iface _ (.ptr (.agg [.lit (.string t)])) => t | _ => []).toArray⟩] 109], #[], []⟩ with heap := (World.holding Ybad.prog os ⟨#[.cells #[.string ⟨(match Rows.laid_example_com_ozab_ozab_errNoActiveSet (H := Unit) with | .iface _ (.ptr (.agg [.lit (.string t)])) => t | _ => []).toArray⟩] 109], #[], []⟩).heap.modify 0 fun
      | .cells _ t frozen => .cells #[.iface 76 (.pointer (some ⟨(World.holding Ybad.prog default ⟨#[], #[], []⟩).heap.size, 0, none⟩))] t frozen
      | o => o } : World).forCall (fun _ _ => 0) ⟨#[], args, []⟩).memory := by
  show laidMet _ _ _
  exact laidMet_of_run (ps := [.cell 0 0, .cell (World.holding Ybad.prog default ⟨#[], #[], []⟩).heap.size 0]) 8 (by kernel_rfl) (by kernel_rfl) (by kernel_rfl)

set_option maxRecDepth 100000 in
theorem lifted (os : Os) (started : os.Started) (H : Type) (enc : TypeId × Value → H) :
    ReturnsInHanded {} Ybad.checked os 3 .any (fun w args => (Rows.lawS0659BActiveSpec.pre enc Ybad.prog Ybad.f3 [] false w args ∧ laidMetH Ybad.prog Rows.lawS0659BActiveRow.laid w) ∧ sizedMet enc Ybad.prog Ybad.f3 (OpenSpec.ofChange Rows.lawS0659BActiveSpec) false w args)
      (Rows.lawS0659BActiveSpec.post enc Ybad.prog Ybad.f3 false true false false) := by
  refine returnsInHanded_of_change_and (C := Ybad.checked) (X := fun w _ => laidMetH Ybad.prog Rows.lawS0659BActiveRow.laid w) (fun _ _ _ hh h => h.of_heap hh) own started (by kernel_rfl) Ybad.func3
    (ChangeSpec.witness_at (enc := enc) (C := Ybad.checked) (os := os) (X := fun w _ => laidMetH Ybad.prog Rows.lawS0659BActiveRow.laid w) false _ #[.string ByteArray.empty, .bool false, .int .u64 0] 8 rfl (by kernel_rfl) (by kernel_rfl) (by kernel_rfl) (by kernel_rfl) (by kernel_rfl) (laid_met os _)) ?_
  intro W base args ds gs before hval0 hW _ _ hL _
  have hval : ∀ (j : Nat) t v, Ybad.f3.params[j]? = some t → args[j]? = some v → Value.okWide Ybad.prog W .any base t v := hval0
  have hW' := hW
  obtain ⟨p, q, hA0, hV0, rfl, hfz, hnd⟩ := hW
  have hA : DataW.TrodAll enc Ybad.prog W 0 (fun _ => true) true Ybad.f3.params.toList args.toList ds p := hA0
  have hV : DataW.TrodVars enc Ybad.prog W (fun _ => true) Rows.lawS0659BActiveSpec.vars gs q := hV0
  rw [Ybad.params3] at hA hval
  obtain ⟨v0, v1, v2, d0, d1, d2, p0, p1, p2, rfl, rfl, rfl, h0, h1, h2⟩ := trodAll_three hA
  obtain ⟨s, rfl, rfl, rfl, hs⟩ := open_string Ybad.underlying9 (hval 0 9 v0 rfl rfl) h0
  obtain ⟨b, rfl, rfl, rfl⟩ := open_bool Ybad.underlying4 (hval 1 4 v1 rfl rfl) h1
  obtain ⟨d, rfl, rfl, rfl, hd⟩ := open_int Ybad.underlying22 (hval 2 22 v2 rfl rfl) h2
  obtain ⟨a, n, hn, hgn, hv⟩ := sentinel hL
  rw [hn] at hV
  obtain ⟨rfl, rfl⟩ := hV.unique (vars_read1 enc hgn gType Ybad.underlying50 hv trivial _)
  clear hA0 hV0 hval0
  have hg : W.cell? ⟨0, 0, none⟩ = some (.iface 76 (.pointer (some a))) := by simpa using World.var?_cell hgn hv 0
  have h0lt : 0 < W.heap.size := block_lt_of_cell hg
  have e1 : Rows.lawS0659BActiveSpec.fn H ([.lit (.string s.data.toList), .lit (.bool b), .lit (.int .u64 d)] ++ [tok enc (.iface 76 (.pointer (some a)))]) = { results := [.lit (.bool true)], args := [.lit (.string s.data.toList), .lit (.bool b), .lit (.int .u64 d)], vars := [tok enc (.iface 76 (.pointer (some a)))] } := rfl
  have fin : ∀ W' : World, Below W.heap.size W W' → ∃ v, Ending.returned (.bool true) = .returned v ∧ Rows.lawS0659BActiveSpec.post enc Ybad.prog Ybad.f3 false true false false W #[.string s, .bool b, .int .u64 d] v W' := by
    intro W' hB
    refine ⟨_, rfl, _, _, _, [], [] ++ ([] ++ []), [.cell 0 0], hW', ?_, ?_, ?_, hB.frame _, fun h => by cases h⟩
    · rw [e1]; exact trodAll_mk1 (shut_bool Ybad.underlying4 true)
    · rw [e1]; exact trodAll_mk3 (shut_string Ybad.underlying9 hs) (shut_bool Ybad.underlying4 b) (shut_int Ybad.underlying22 hd)
    · rw [e1, hn]; exact vars_read1 enc hgn gType Ybad.underlying50 (var?_below hB hgn h0lt hv) trivial _
  cases b
  · refine (law_none s d a W hg h0lt).mono fun e W' ⟨he, hB⟩ => ?_
    subst he
    exact fin W' hB
  · refine (law_some s d a W hg h0lt).mono fun e W' ⟨he, hB⟩ => ?_
    subst he
    exact fin W' hB

theorem row_holds : Rows.LawS0659BActiveSaid :=
  OpenClaim.holds_of_wide 3 Ybad.f3 rfl rfl rfl rfl rfl rfl rfl ⟨rfl, rfl, rfl, rfl, rfl⟩ rfl rfl rfl rfl rfl (by kernel_rfl) Ybad.func3 (by kernel_rfl)
    (of_decide_eq_true (by kernel_rfl)) (by unfold Func.isWrapper; rw [if_neg (of_decide_eq_false (by kernel_rfl))]; exact ⟨rfl, rfl⟩)
    (fun os started H enc _ => lifted os started H enc)

/-- THE CLAIM. -/
theorem LawS0659BActiveCard_holds : Rows.LawS0659BActiveCardSaid :=
  Claim7.holds_tied_plain_at .later [] [.sentinel] true Rows.lawS0659BActiveCard.stood.harness true
    row_holds (fun _ h => by cases h) (by kernel_rfl) (fun _ h => by cases h) lawS0659BActive_row_tie rfl ⟨rfl, rfl⟩ (by kernel_rfl) rfl
    (fun f fn hf hfn => by
      obtain rfl : f = 3 := Option.some.inj ((show Ybad.prog.funcNamed Rows.lawS0659BActiveRow.func = some 3 by kernel_rfl).symm.trans hf) |>.symm
      obtain rfl : fn = Ybad.f3 := (Option.some.inj (Ybad.func3.symm.trans hfn)).symm
      exact ⟨by kernel_rfl, fun j t ht => by
        rw [Ybad.params3] at ht
        have h3 : t = 9 ∨ t = 4 ∨ t = 22 := by
          rcases j with _ | _ | _ | j
          · exact .inl (by simpa using ht.symm)
          · exact .inr (.inl (by simpa using ht.symm))
          · exact .inr (.inr (by simpa using ht.symm))
          · simp at ht
        rcases h3 with rfl | rfl | rfl
        · exact (show Ybad.prog.wantsStandIn 9 = false by kernel_rfl)
        · exact (show Ybad.prog.wantsStandIn 4 = false by kernel_rfl)
        · exact (show Ybad.prog.wantsStandIn 22 = false by kernel_rfl)⟩)
    (by kernel_rfl)
end Go.Proofs.YbulkmpwDoor
