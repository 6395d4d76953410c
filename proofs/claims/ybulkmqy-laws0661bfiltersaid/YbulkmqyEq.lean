/-
  OUR OWN WORK (an AI prover). The contract of zzs0661beq at two slices that hold the same.
-/
import Derived.Test.YbulkmqyOf
namespace Go.Proofs.Ybulkmqy
open Go.ChangeShapes Go.WideShapes Go.ChangeAt Go.RowKit
set_option linter.unusedVariables false

theorem xs_of (l : List Alt) : l = xs (fun j => l.getD j ⟨0, default, default⟩) l.length := by
  apply List.ext_getElem?
  intro i
  by_cases hi : i < l.length
  · simp [xs, hi]
  · simp [xs, hi]
theorem eq_calls (n b1 b2 : Nat) (X : Nat → Alt) (v1 v2 : Value) (w : World) (hn : n ≤ 1024) (h1 : w.ownsRow b1 39 3 v1 n (row (xs X n))) (h2 : w.ownsRow b2 39 3 v2 n (row (xs X n))) :
    Calls Yba.prog 8 #[v1, v2] w fun e w' => e = .returned (.bool true) ∧ ∃ m, w' = w.drewN m := by
  obtain ⟨a1, cap1, g1, rfl, ha1, hc1⟩ := own_read h1
  obtain ⟨a2, cap2, g2, rfl, ha2, hc2⟩ := own_read h2
  have HC1 := hide hc1
  have HC2 := hide hc2
  clear h1 h2 hc1 hc2
  go_enter Yba.func8, Yba.ntmps8
  go_wp2
  go_loopw [13] (fun i wr => ∃ k m : Nat, k ≤ n ∧ i = .int .i64 k ∧ wr = w.drewN m) (fun i _ => n - (intOf i).toNat)
  case atStart => exact ⟨0, 0, Nat.zero_le _, rfl, rfl⟩
  case round =>
    obtain ⟨k, m, hk, rfl, rfl⟩ := hrel
    by_cases hlt : k < n
    · obtain ⟨rfl, _, hg1⟩ := ha1 (by omega)
      obtain ⟨rfl, _, hg2⟩ := ha2 (by omega)
      have hi3 : (k : Int) < (n : Int) := by omega
      obtain ⟨p1, p2, p3⟩ := HC1.out k hlt
      obtain ⟨q1, q2, q3⟩ := HC2.out k hlt
      generalize X k = x at p1 p2 p3 q1 q2 q3
      obtain ⟨t, G, U⟩ := x
      simp only at p1 p2 p3 q1 q2 q3
      go_wp2_with fail
      go_quiet (fail)
      go_wp2
      go_round
      case rel => exact ⟨k + 1, _, by omega, by go_num, rfl⟩
      case measure => simp [intOf]; omega
    · go_wp2
      go_ret
      exact ⟨rfl, m, rfl⟩

theorem eq_list (l : List Alt) (b1 b2 : Nat) (v1 v2 : Value) (w : World) (hn : l.length ≤ 1024) (h1 : w.ownsRow b1 39 3 v1 l.length (row l)) (h2 : w.ownsRow b2 39 3 v2 l.length (row l)) :
    Calls Yba.prog 8 #[v1, v2] w fun e w' => e = .returned (.bool true) ∧ ∃ m, w' = w.drewN m :=
  eq_calls l.length b1 b2 (fun j => l.getD j ⟨0, default, default⟩) v1 v2 w hn (by rw [← xs_of]; exact h1) (by rw [← xs_of]; exact h2)
theorem own_list {l : List Alt} {base : Nat} {v : Value} {w : World} (h : w.ownsRow base 39 3 v l.length (row l)) : ∃ a cap, v = .slice a l.length cap ∧ (0 < l.length → a.isNone = false) := by
  rcases h.2 with ⟨rfl, h0⟩ | ⟨g, cap, cur, rfl, hb, hh, hle, hm, hs, ht⟩
  · exact ⟨none, 0, by rw [h0], fun h' => absurd h' (by omega)⟩
  · exact ⟨_, cap, rfl, fun _ => rfl⟩
end Go.Proofs.Ybulkmqy
