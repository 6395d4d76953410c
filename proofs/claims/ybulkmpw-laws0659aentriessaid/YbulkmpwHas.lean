/-
  OUR OWN WORK (an AI prover). The pool of senses; pointers to them compared; slices.Index and slices.Contains at a row of such pointers.
-/
import Derived.Test.YbulkmpwSort
import Derived.Test.YbulkmpwMapIs
import Derived.Laws.OwnMore
import Derived.Lib.Builder
import Derived.LaidEqlPtr
import Derived.OwnWalk
namespace Go.Proofs.Ybulkmpw
open Go.ChangeShapes Go.WideShapes Go.ChangeAt Go.RowKit
set_option linter.unusedVariables false

theorem hide {p : Prop} (h : p) : Hid p := h
theorem Yba.info30 : (Yba.prog.info? 30).map (fun i => i.size) = some 4 := by kernel_rfl
theorem Yba.info25 : (Yba.prog.info? 25).map (fun i => (i.zero, i.size, i.bytes)) = some (some (.pointer none), 1, 8) := by kernel_rfl

/-- The five senses lie at blocks B .. B + 4; their ranks are rk. -/
def Pool (w : World) (B : Nat) (rk : Nat → Int) : Prop := ∀ i, i < 5 → ∃ c, w.heap[B + i]? = some (.cells c 30 (0, 0)) ∧ c[3]? = some (.int .i64 (rk i))
theorem Pool.cell {w : World} {B : Nat} {rk : Nat → Int} (h : Pool w B rk) (i : Nat) (hi : i < 5) : w.cell? ⟨B + i, 3, none⟩ = some (.int .i64 (rk i)) := by
  obtain ⟨c, h1, h2⟩ := h i hi
  simp only [World.cell?, h1]
  exact h2
theorem Pool.cell0 {w : World} {B : Nat} {rk : Nat → Int} (h : Pool w B rk) (i : Nat) (hi : i < 5) : B + i < w.heap.size := by
  obtain ⟨c, h1, h2⟩ := h i hi
  exact (Array.getElem?_eq_some_iff.1 h1).1
theorem Pool.below {w w' : World} {B K : Nat} {rk : Nat → Int} (h : Pool w B rk) (hb : Below K w w') (hK : B + 5 ≤ K) : Pool w' B rk := fun i hi => by
  obtain ⟨c, h1, h2⟩ := h i hi
  exact ⟨c, (hb.block (B + i) (by omega)).trans h1, h2⟩
theorem Pool.drew {w : World} {B : Nat} {rk : Nat → Int} (h : Pool w B rk) (n : Nat) : Pool (w.drewN n) B rk := h
theorem Pool.eql {w : World} {B : Nat} {rk : Nat → Int} (h : Pool w B rk) (i j : Fin 5) : (binOp .eql 25 (enc5 B i) (enc5 B j)).run Yba.prog w = .ok (.bool (decide (i = j))) w := by
  obtain ⟨q, hq, hq2⟩ := Option.map_eq_some_iff.1 Yba.info30
  by_cases e : i = j
  · subst e
    simp only [decide_true]
    exact run_eql_ptr_same _ _ Yba.underlying25 hq
  · obtain ⟨c1, h1, _⟩ := h i.val i.isLt
    obtain ⟨c2, h2, _⟩ := h j.val j.isLt
    simp only [e, decide_false]
    exact run_eql_ptr_other w Yba.underlying25 hq (by omega) (fun e' => e (Fin.ext (by have := congrArg Addr.block e'; simp at this; exact this))) h1 h2
theorem Pool.neq {w : World} {B : Nat} {rk : Nat → Int} (h : Pool w B rk) (i j : Fin 5) : (binOp .neq 25 (enc5 B i) (enc5 B j)).run Yba.prog w = .ok (.bool (!decide (i = j))) w := by
  obtain ⟨q, hq, hq2⟩ := Option.map_eq_some_iff.1 Yba.info30
  by_cases e : i = j
  · subst e
    simp only [decide_true, Bool.not_true]
    exact Lib.run_neq_ptr_same _ _ Yba.underlying25 hq
  · obtain ⟨c1, h1, _⟩ := h i.val i.isLt
    obtain ⟨c2, h2, _⟩ := h j.val j.isLt
    simp only [e, decide_false, Bool.not_false]
    have hne : (⟨B + i.val, 0, none⟩ : Addr) ≠ ⟨B + j.val, 0, none⟩ := fun e' => e (Fin.ext (by have := congrArg Addr.block e'; simp at this; exact this))
    have hsz : q.size ≠ 0 := by omega
    unfold enc5
    have hh : ∀ d : Nat, (Op.equalIn (d + 1) 25 (.pointer (some ⟨B + i.val, 0, none⟩)) (.pointer (some ⟨B + j.val, 0, none⟩))).run Yba.prog w = .ok false w := fun d => by
      simp [Op.equalIn, run_underlying Yba.underlying25, sizeOf, typeInfo, hq, hsz, run_sameAddr_other w hne h1 h2]
    simp only [binOp]
    simp [Op.equal, Op.maxDepth, hh 9999]

/-- What an owned row of such pointers says of its slice. -/
theorem own_ptrs {w : World} {base B : Nat} {v : Value} {E : List (Fin 5)} (h : w.ownsRow base 25 1 v E.length (E.map (enc5 B))) :
    ∃ a cap g, v = .slice a E.length cap ∧ (0 < E.length → a = some ⟨g, 0, none⟩ ∧ base ≤ g ∧ g < w.heap.size ∧ v.ownBlock = some g) ∧ ∀ j (hj : j < E.length), w.cell? ⟨g, j, none⟩ = some (enc5 B E[j]) ∧ w.frozen? ⟨g, j, none⟩ = false := by
  rcases h.2 with ⟨rfl, h0⟩ | ⟨g, cap, cur, rfl, hb, hh, hle, hm, hs, ht⟩
  · exact ⟨none, 0, 0, by rw [h0], fun h' => absurd h' (by omega), fun j hj => absurd hj (by omega)⟩
  · obtain ⟨hlt, _⟩ := Array.getElem?_eq_some_iff.1 hh
    refine ⟨_, cap, g, rfl, fun _ => ⟨rfl, hb, hlt, rfl⟩, fun j hj => ⟨?_, h.frozenAt j⟩⟩
    rw [h.cellAt j (by omega)]
    simp [hj]

theorem index_calls (B base : Nat) (rk : Nat → Int) (E : List (Fin 5)) (s : Fin 5) (v : Value) (w : World) (hP : Pool w B rk) (hv : w.ownsRow base 25 1 v E.length (E.map (enc5 B))) (hn : E.length ≤ 1024) :
    Calls Yba.prog 13 #[v, enc5 B s] w fun e w' => (∃ r : Int, e = .returned (.int .i64 r) ∧ (0 ≤ r ↔ s ∈ E)) ∧ w' = w := by
  obtain ⟨a, cap, g, rfl, ha, hc0⟩ := own_ptrs hv
  have hc : Hid (∀ k (hk : k < E.length), w.cell? ⟨g, k, none⟩ = some (.pointer (some ⟨B + (E[k]).val, 0, none⟩))) := fun k hk => (hc0 k hk).1
  have HE : Hid (∀ k (hk : k < E.length), (binOp .eql 25 (.pointer (some ⟨B + s.val, 0, none⟩)) (.pointer (some ⟨B + (E[k]).val, 0, none⟩))).run Yba.prog w = .ok (.bool (decide (s = E[k]))) w) := fun k hk => hP.eql s E[k]
  unfold enc5
  clear hc0 hv hP
  generalize B + s.val = p at HE ⊢
  go_enter Yba.func13, Yba.ntmps13
  go_wp2
  go_loop [8] (fun i => ∃ k : Nat, k ≤ E.length ∧ i = .int .i64 k ∧ ∀ j (hj : j < E.length), j < k → E[j] ≠ s) (fun i => E.length - (intOf i).toNat)
  case atStart => exact ⟨0, Nat.zero_le _, rfl, fun j hj h => absurd h (by omega)⟩
  case round =>
    obtain ⟨k, hk, rfl, hnot⟩ := hrel
    have HN := hide hnot
    clear hnot
    by_cases hlt : k < E.length
    · obtain ⟨rfl, _, hg, _⟩ := ha (by omega)
      have hi3 : (k : Int) < (E.length : Int) := by omega
      have c1 := hc.out k hlt
      have he := HE.out k hlt
      by_cases e : s = E[k]
      · have HM : Hid (s ∈ E) := e ▸ List.getElem_mem hlt
        rw [decide_eq_true e] at he
        clear e
        generalize B + (E[k]).val = q at c1 he
        go_wp2
        go_ret
        exact ⟨⟨_, rfl, ⟨fun _ => HM.out, fun _ => by omega⟩⟩, rfl⟩
      · have HM : Hid (E[k] ≠ s) := fun e' => e e'.symm
        rw [decide_eq_false e] at he
        clear e
        generalize B + (E[k]).val = q at c1 he
        go_wp2
        refine ⟨⟨k + 1, by omega, by go_num, fun j hj h => ?_⟩, by simp [intOf]; omega⟩
        by_cases hjk : j < k
        · exact HN.out j hj hjk
        · obtain rfl : j = k := by omega
          exact HM.out
    · go_wp2
      go_ret
      refine ⟨⟨_, rfl, ⟨fun h => absurd h (by omega), fun h => ?_⟩⟩, rfl⟩
      obtain ⟨j, hj, e⟩ := List.getElem_of_mem h
      exact absurd e (HN.out j hj (by omega))

theorem contains_calls (B base : Nat) (rk : Nat → Int) (E : List (Fin 5)) (s : Fin 5) (v : Value) (w : World) (hP : Pool w B rk) (hv : w.ownsRow base 25 1 v E.length (E.map (enc5 B))) (hn : E.length ≤ 1024) :
    Calls Yba.prog 8 #[v, enc5 B s] w fun e w' => e = .returned (.bool (decide (s ∈ E))) ∧ w' = w := by
  have hi : Hid (∀ w', w' = w → _) := fun w' (e : w' = w) => index_calls B base rk E s v w' (by rw [e]; exact hP) (by rw [e]; exact hv) hn
  clear hv hP
  generalize enc5 B s = p at hi ⊢
  go_enter Yba.func8, Yba.ntmps8
  go_wp2_with (go_at_call 13; refine (hi.out _ rfl).mono ?_; rintro e w' ⟨⟨r, rfl, hr⟩, hw⟩; obtain rfl := hw.symm)
  go_ret
  exact ⟨rfl, rfl⟩
end Go.Proofs.Ybulkmpw
