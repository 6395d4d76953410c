/-
  OUR OWN WORK (an AI prover). The contracts of the leaves: next, month, Month, cmp.Less, isNaN, slices.BinarySearch.
-/
import Derived.Test.YbulkmouFmtRows
import Derived.Test.YbulkmouFmtPlain
import Derived.WalkKit
import Derived.WalkSpells
import Derived.ProofKit
import Derived.OpenShut
import Derived.Below
namespace Go.Proofs.YbulkmouFmt
open Go.ChangeShapes Go.WideShapes Go.ChangeAt Go.RowKit
set_option linter.unusedVariables false

theorem next_calls (m : Int) (w : World) (h0 : 0 ≤ m) (h1 : m ≤ 100000000) :
    Calls Ybaf.prog 11 #[.int .i64 m] w fun e w' => e = .returned (.int .i64 (nextM m)) ∧ w' = w := by
  by_cases h : m % 100 = 12
  · have hb : (m % 100 == 12) = true := by simp [h]
    go_enter Ybaf.func11, Ybaf.ntmps11
    go_wp2
    go_ret
    exact ⟨by unfold nextM; rw [if_pos h]; rfl, rfl⟩
  · have hb : (m % 100 == 12) = false := by simp [h]
    go_enter Ybaf.func11, Ybaf.ntmps11
    go_wp2
    go_ret
    exact ⟨by unfold nextM; rw [if_neg h]; rfl, rfl⟩

theorem month_calls (sel : Int) (w : World) (h0 : 0 ≤ sel) (h1 : sel ≤ 255) :
    Calls Ybaf.prog 7 #[.int .u8 sel] w fun e w' => e = .returned (.int .i64 (monthK (sel % 8).toNat)) ∧ w' = w := by
  obtain ⟨K, hK⟩ := Int.eq_ofNat_of_zero_le (show 0 ≤ sel % 8 by omega)
  have hK8 : K < 8 := by omega
  rw [hK, Int.toNat_natCast]
  go_enter Ybaf.func7, Ybaf.ntmps7
  go_wp2
  have HK : Hid (sel % 8 = K) := hK
  clear hK
  go_loop [3, 5] (fun m i => ∃ k : Nat, k ≤ K ∧ i = .int .i64 k ∧ m = .int .i64 (monthK k)) (fun _ i => K - (intOf i).toNat)
  case atStart => exact ⟨0, Nat.zero_le _, rfl, rfl⟩
  case round =>
    obtain ⟨k, hk, rfl, rfl⟩ := hrel
    have hb := monthK_bd k
    by_cases hlt : k < K
    · go_wp2_with (go_at_call 11; refine (next_calls _ _ (by omega) (by omega)).mono ?_; rintro e w' ⟨rfl, rfl⟩)
      go_round
      case rel => exact ⟨k + 1, by omega, by go_num, rfl⟩
      case measure => simp [intOf]; omega
    · obtain rfl : k = K := by omega
      go_wp2
      go_ret
      exact ⟨rfl, rfl⟩

theorem Month_calls (d : Int) (w : World) (h0 : 0 ≤ d) (h1 : d ≤ 10000000000) :
    Calls Ybaf.prog 15 #[.int .i64 d] w fun e w' => e = .returned (.int .i64 (d / 100)) ∧ w' = w := by
  go_enter Ybaf.func15, Ybaf.ntmps15
  go_wp2
  go_ret
  exact ⟨rfl, rfl⟩

theorem isNaN_calls (x : Int) (w : World) : Calls Ybaf.prog 26 #[.int .i64 x] w fun e w' => e = .returned (.bool false) ∧ w' = w := by
  go_enter Ybaf.func26, Ybaf.ntmps26
  go_wp2
  go_ret
  exact ⟨rfl, rfl⟩
theorem isNaN2_calls (x : Int) (w : World) : Calls Ybaf.prog 25 #[.int .i64 x] w fun e w' => e = .returned (.bool false) ∧ w' = w := by
  go_enter Ybaf.func25, Ybaf.ntmps25
  go_wp2
  go_ret
  exact ⟨rfl, rfl⟩
theorem Less_calls (x y : Int) (w : World) : Calls Ybaf.prog 24 #[.int .i64 x, .int .i64 y] w fun e w' => e = .returned (.bool (decide (x < y))) ∧ w' = w := by
  go_enter Ybaf.func24, Ybaf.ntmps24
  go_wp2_with (go_at_call 26; refine (isNaN_calls _ _).mono ?_; rintro e w' ⟨rfl, rfl⟩)
  go_ret
  exact ⟨rfl, rfl⟩

theorem bs_calls (g L cap i : Nat) (D : Nat → Int) (t : Int) (w : World) (hL : L ≤ 2000) (hp : Hid (Place D L t i)) (hc : Hid (∀ j, j < L → w.cell? ⟨g, j, none⟩ = some (.int .i64 (D j)))) :
    Calls Ybaf.prog 23 #[.slice (some ⟨g, 0, none⟩) L cap, .int .i64 t] w fun e w' => e = .returned (.tuple #[.int .i64 i, .bool false]) ∧ w' = w := by
  go_enter Ybaf.func23, Ybaf.ntmps23
  go_wp2_with fail
  have hi : i ≤ L := hp.out.1
  go_loop [7, 8] (fun a b => ∃ lo hi : Nat, lo ≤ i ∧ i ≤ hi ∧ hi ≤ L ∧ a = .int .i64 lo ∧ b = .int .i64 hi) (fun a b => (intOf b - intOf a).toNat)
  case atStart => exact ⟨0, L, Nat.zero_le _, hi, Nat.le_refl _, rfl, rfl⟩
  case round =>
    obtain ⟨lo, hi', h1, h2, h3, rfl, rfl⟩ := hrel
    by_cases hlt : lo < hi'
    · obtain ⟨M, hM⟩ : ∃ M, M = (lo + hi') / 2 := ⟨_, rfl⟩
      have hcm : w.cell? ⟨g, (lo + hi') / 2, none⟩ = some (.int .i64 (D M)) := by rw [hM]; exact hc.out _ (by omega)
      have HM : Hid (M = (lo + hi') / 2) := hM
      clear hM
      by_cases hd : D M < t
      · have hMi : Hid (M < i) := by
          show M < i
          rcases Nat.lt_or_ge M i with h | h
          · exact h
          · have := hp.out.2.2 M h (by have := HM.out; omega); omega
        have hdd : decide (D M < t) = true := by simpa using hd
        go_wp2_with (go_at_call 24; refine (Less_calls _ _ _).mono ?_; rintro e w' ⟨rfl, rfl⟩)
        go_round
        case rel => exact ⟨M + 1, hi', hMi.out, h2, h3, by rw [HM.out]; go_num, rfl⟩
        case measure => simp [intOf]; omega
      · have hMi : Hid (i ≤ M) := by
          show i ≤ M
          rcases Nat.lt_or_ge M i with h | h
          · have := hp.out.2.1 M h; omega
          · exact h
        have hdd : decide (D M < t) = false := by simpa using hd
        go_wp2_with (go_at_call 24; refine (Less_calls _ _ _).mono ?_; rintro e w' ⟨rfl, rfl⟩)
        go_round
        case rel => exact ⟨lo, M, h1, hMi.out, by have := HM.out; omega, rfl, by rw [HM.out]; go_num⟩
        case measure => simp [intOf]; omega
    · obtain rfl : lo = i := by omega
      obtain rfl : hi' = lo := by omega
      by_cases hlL : hi' < L
      · have hcm : w.cell? ⟨g, hi', none⟩ = some (.int .i64 (D hi')) := hc.out _ hlL
        have hne : (D hi' == t) = false := by
          have := hp.out.2.2 hi' (Nat.le_refl _) hlL
          simp; omega
        go_wp2_with (go_at_call 25; refine (isNaN2_calls _ _).mono ?_; rintro e w' ⟨rfl, rfl⟩)
        go_ret2
        exact ⟨rfl, rfl⟩
      · go_wp2_with (go_at_call 25; refine (isNaN2_calls _ _).mono ?_; rintro e w' ⟨rfl, rfl⟩)
        go_ret2
        exact ⟨rfl, rfl⟩
end Go.Proofs.YbulkmouFmt
