/-
  OUR OWN WORK (an AI prover). The contracts of slices.Clone and of calendar.New.
-/
import Derived.Test.YbulkmouFmtNew
namespace Go.Proofs.YbulkmouFmt
open Go.ChangeShapes Go.WideShapes Go.ChangeAt Go.RowKit
set_option linter.unusedVariables false

def cellsOf (D : Nat → Int) (L : Nat) : List Value := (List.range L).map fun j => .int .i64 (D j)
theorem cellsOf_get {D : Nat → Int} {L j : Nat} {u : Value} (h : (cellsOf D L)[j]? = some u) : j < L ∧ u = .int .i64 (D j) := by
  unfold cellsOf at h
  have hj : j < L := by have := (List.getElem?_eq_some_iff.1 h).1; simpa using this
  simp [hj] at h
  exact ⟨hj, h.symm⟩
theorem own_cells {w : World} {base L : Nat} {D : Nat → Int} {v : Value} (h : w.ownsRow base 35 1 v L (cellsOf D L)) (hn : v ≠ .slice none 0 0) :
    ∃ g cap, v = .slice (some ⟨g, 0, none⟩) L cap ∧ base ≤ g ∧ g < w.heap.size ∧ ∀ j, j < L → w.cell? ⟨g, j, none⟩ = some (.int .i64 (D j)) := by
  obtain ⟨h1, h2⟩ := h
  rcases h2 with ⟨h2, _⟩ | ⟨g, cap, cur, rfl, hb, hh, hle, hm, hs, ht⟩
  · exact absurd h2 hn
  · obtain ⟨hlt, _⟩ := Array.getElem?_eq_some_iff.1 hh
    refine ⟨g, cap, rfl, hb, hlt, fun j hj => ?_⟩
    have e : (cur.toList.take (L * 1))[j]? = some (.int .i64 (D j)) := by rw [ht]; simp [cellsOf, hj]
    rw [List.getElem?_take, if_pos (by omega)] at e
    simp only [World.cell?, hh]
    simpa using e

theorem clone_calls (g L cap : Nat) (D : Nat → Int) (w : World) (hL : L ≤ 1024) (hg : g < w.heap.size) (hc : Hid (∀ j, j < L → w.cell? ⟨g, j, none⟩ = some (.int .i64 (D j)))) :
    Calls Ybaf.prog 13 #[.slice (some ⟨g, 0, none⟩) L cap] w fun e w' => ∃ g' cap', e = .returned (.slice (some ⟨g', 0, none⟩) L cap') ∧ g' < w'.heap.size ∧ (∀ j, j < L → w'.cell? ⟨g', j, none⟩ = some (.int .i64 (D j))) ∧ Below w.heap.size w w' := by
  obtain ⟨i0, hi, hz0, hz1, hz2⟩ := info_parts Ybaf.info35
  have hnil := fun w => Lib.run_eql_slice_nil (P := Ybaf.prog) w 23 35 (some ⟨g, 0, none⟩) L cap 0 0 Ybaf.underlying23
  simp only [Option.isNone_some] at hnil
  have hown0 : Hid ((w.alloc (.cells #[] 35)).ownsRow w.heap.size 35 1 (.slice (some ⟨w.heap.size, 0, none⟩) 0 0) 0 []) :=
    ⟨rfl, .inr ⟨w.heap.size, 0, #[], rfl, Nat.le_refl _, heap_alloc_new w _, Nat.le_refl _, Nat.zero_le _, rfl, rfl⟩⟩
  have hnews : Hid (∀ j u, (cellsOf D L)[j]? = some u → (w.alloc (.cells #[] 35)).cell? ((⟨g, 0, none⟩ : Addr).add j) = some u) := fun j u hj => by
    obtain ⟨hjL, rfl⟩ := cellsOf_get hj
    rw [Addr.add_lit, Nat.zero_add, World.cell?_alloc_past _ _ _ hg]; exact hc.out j hjL
  have hone : Hid (∀ u ∈ cellsOf D L, u.oneCell' = true) := fun u hu => by
    obtain ⟨_, _, rfl⟩ := List.mem_map.1 hu
    rfl
  go_enter Ybaf.func13, Ybaf.ntmps13
  go_wp2_with (at_builtin; refine wpList_append_own _ rfl (.tmp 5) (.tmp 6) 23 rfl w.heap.size 35 i0 (.int .i64 0) 1 8 Ybaf.underlying23 hi hz0 hz1 hz2 rfl (by decide) _ 0 [] rfl hown0.out ⟨g, 0, none⟩ L cap (cellsOf D L) rfl (by simp [cellsOf]) hnews.out hone.out (by unfold maxLen; omega) (by omega) (by simp) ?_; intro v' w1 hown hgrow hnn)
  have hne : v' ≠ .slice none 0 0 := fun e => by have h := (hnn.1 e).1; cases h
  rw [Nat.zero_add, List.nil_append] at hown
  obtain ⟨g', cap', hv, hb, hlt, hcell⟩ := own_cells hown hne
  have HB := hide (((Below.refl w.heap.size w).alloc (Nat.le_refl _) (.cells #[] 35)).grown hgrow (by simp) (fun k h => by cases h; exact Nat.le_refl _))
  have HC := hide hcell
  clear hown hgrow hnn hne hcell
  rw [hv]
  clear hv
  go_wp2
  go_ret
  exact ⟨g', cap', rfl, hlt, HC.out, HB.out⟩

theorem new_calls (g L cap : Nat) (D : Nat → Int) (w : World) (hL : L ≤ 1024) (hg : g < w.heap.size) (hc : Hid (∀ j, j < L → w.cell? ⟨g, j, none⟩ = some (.int .i64 (D j)))) (hup : Hid (∀ j, j + 1 < L → D j < D (j + 1))) :
    Calls Ybaf.prog 6 #[.slice (some ⟨g, 0, none⟩) L cap] w fun e w' => ∃ cb g' cap', e = .returned (.tuple #[.pointer (some ⟨cb, 0, none⟩), .nilIface]) ∧ CalAt w' cb g' L cap' D ∧ Below w.heap.size w w' := by
  go_enter Ybaf.func6, Ybaf.ntmps6
  go_wp2_with fail
  go_loopw [4] (fun i wr => ∃ k n : Nat, 1 ≤ k ∧ (k ≤ L ∨ k = 1) ∧ i = .int .i64 k ∧ wr = w.drewN n) (fun i _ => L - (intOf i).toNat)
  case atStart => exact ⟨1, 0, Nat.le_refl _, .inr rfl, rfl, rfl⟩
  case round =>
    obtain ⟨k, n, h1, hk, rfl, rfl⟩ := hrel
    have hk2 : k ≤ 1024 := by omega
    by_cases hlt : k < L
    · have c1 : w.cell? ⟨g, k, none⟩ = some (.int .i64 (D k)) := hc.out k hlt
      have c2 : w.cell? ⟨g, k - 1, none⟩ = some (.int .i64 (D (k - 1))) := hc.out (k - 1) (by omega)
      have e1 : ((k : Int) - 1).toNat = k - 1 := by omega
      have hD : D (k - 1) < D k := by have := hup.out (k - 1) (by omega); rwa [show k - 1 + 1 = k from by omega] at this
      have hi1 : (0 : Int) ≤ (k : Int) - 1 := by omega
      have hi2 : (k : Int) - 1 < (L : Int) := by omega
      have hi3 : (k : Int) < (L : Int) := by omega
      go_wp2_with fail
      go_quiet (fail)
      go_wp2
      exact ⟨⟨k + 1, _, by omega, .inl (by omega), by go_num, rfl⟩, by simp [intOf]; omega⟩
    · have hcl : Hid (∀ w', w' = w.drewN n → _) := fun w' (e : w' = w.drewN n) => clone_calls g L cap D w' hL (by rw [e]; exact hg) (by rw [e]; exact hc)
      go_wp2_with (go_at_call 13; refine (hcl.out _ rfl).mono ?_; rintro e w1 ⟨g', cap', rfl, hlt', hcell, hbel⟩)
      go_ret2
      refine ⟨w1.heap.size, g', cap', rfl, ⟨?_, fun j hj => ?_⟩, ?_⟩
      · rw [World.cell?_alloc_at _ _ _ _ rfl]; rfl
      · rw [World.cell?_alloc_past _ _ _ hlt']; exact hcell j hj
      · have hb2 : Below w.heap.size w w1 := (below_drewN (Below.refl _ _) n).trans hbel
        exact hb2.alloc hb2.size _
end Go.Proofs.YbulkmouFmt
