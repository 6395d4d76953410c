/-
  OUR OWN WORK (an AI prover). 'layoutYearDay' (function 7) and 'isDigit' (function 12): the plain side (how many digits lead, what they read as) and the contracts.
-/
import Derived.Test.YbulkmpwRows
import Derived.WalkKit
import Derived.WalkSpells
import Derived.ProofKit
import Derived.OpenShut
import Derived.Below
import Derived.BigQuiet
import Derived.Deep.QuietTactic
import Derived.WalkSmall
namespace Go.Proofs.Ybulkmpw
open Go.ChangeShapes Go.WideShapes Go.ChangeAt Go.RowKit
set_option linter.unusedVariables false

theorem hide {p : Prop} (h : p) : Hid p := h

/-- The j-th byte; 0 behind the end. -/
def bt (s : ByteArray) (j : Nat) : Int := if h : j < s.size then (s[j].toNat : Int) else 0
theorem bt_eq (s : ByteArray) (j : Nat) (h : j < s.size) : bt s j = (s[j].toNat : Int) := by unfold bt; rw [dif_pos h]
/-- K digits lead, at most three. -/
structure Lead (s : ByteArray) (K : Nat) : Prop where
  three : K ≤ 3
  size : K ≤ s.size
  yes : ∀ j, j < K → 48 ≤ bt s j ∧ bt s j ≤ 57
  no : K < 3 → K < s.size → ¬ (48 ≤ bt s K ∧ bt s K ≤ 57)
theorem lead_ex (s : ByteArray) : ∃ K, Lead s K := by
  by_cases h0 : 0 < s.size ∧ (48 ≤ bt s 0 ∧ bt s 0 ≤ 57)
  · by_cases h1 : 1 < s.size ∧ (48 ≤ bt s 1 ∧ bt s 1 ≤ 57)
    · by_cases h2 : 2 < s.size ∧ (48 ≤ bt s 2 ∧ bt s 2 ≤ 57)
      · refine ⟨3, by omega, by omega, fun j hj => ?_, fun h => absurd h (by omega)⟩
        match j, hj with
        | 0, _ => exact h0.2
        | 1, _ => exact h1.2
        | 2, _ => exact h2.2
      · refine ⟨2, by omega, by omega, fun j hj => ?_, fun _ h q => h2 ⟨h, q⟩⟩
        match j, hj with
        | 0, _ => exact h0.2
        | 1, _ => exact h1.2
    · refine ⟨1, by omega, by omega, fun j hj => ?_, fun _ h q => h1 ⟨h, q⟩⟩
      match j, hj with
      | 0, _ => exact h0.2
  · exact ⟨0, by omega, by omega, fun j hj => absurd hj (by omega), fun _ h q => h0 ⟨h, q⟩⟩
/-- The decimal value of the first j digits. -/
def val (s : ByteArray) : Nat → Int
  | 0 => 0
  | j + 1 => val s j * 10 + (bt s j - 48)
theorem val_bd {s : ByteArray} {K : Nat} (h : Lead s K) (j : Nat) (hj : j ≤ K) : 0 ≤ val s j ∧ val s j ≤ 999 := by
  have h3 := h.three
  have b0 := h.yes 0
  have b1 := h.yes 1
  have b2 := h.yes 2
  match j, hj with
  | 0, _ => simp [val]
  | 1, _ => have := b0 (by omega); simp only [val]; omega
  | 2, _ => have := b0 (by omega); have := b1 (by omega); simp only [val]; omega
  | 3, _ => have := b0 (by omega); have := b1 (by omega); have := b2 (by omega); simp only [val]; omega
  | n + 4, hn => omega

theorem isDigit_yes (c : Int) (w : World) (h0 : 48 ≤ c) (h1 : c ≤ 57) : Calls Yba.prog 12 #[.int .u8 c] w fun e w' => e = .returned (.bool true) ∧ w' = w := by
  have hd : decide (c - 48 ≤ 9) = true := by simp; omega
  go_enter Yba.func12, Yba.ntmps12
  go_wp2
  go_ret
  exact ⟨rfl, rfl⟩
theorem isDigit_no (c : Int) (w : World) (h0 : 0 ≤ c) (h1 : c ≤ 255) (h : ¬ (48 ≤ c ∧ c ≤ 57)) : Calls Yba.prog 12 #[.int .u8 c] w fun e w' => e = .returned (.bool false) ∧ w' = w := by
  have hd : decide ((c - 48) % 256 ≤ 9) = false := by simp; omega
  go_enter Yba.func12, Yba.ntmps12
  go_wp2
  go_ret
  exact ⟨rfl, rfl⟩

/-- What 'layoutYearDay' hands back. -/
def outY (s : ByteArray) (K : Nat) (p : Bool) : Value :=
  if K = 0 ∨ (p = true ∧ K < 3) then .tuple #[.int .i64 0, .string s, .bool false] else .tuple #[.int .i64 (val s K), .string (s.extract K s.size), .bool true]

theorem layout_calls (s : ByteArray) (K : Nat) (p : Bool) (w : World) (hs : s.size ≤ 5000) (hK : Hid (Lead s K)) :
    Calls Yba.prog 7 #[.string s, .bool p] w fun e w' => e = .returned (outY s K p) ∧ ∃ n, w' = w.drewN n := by
  have hK3 := hK.out.three
  have hKs := hK.out.size
  go_enter Yba.func7, Yba.ntmps7
  go_wp2
  go_loop [4, 7] (fun n i => ∃ k : Nat, k ≤ K ∧ i = .int .i64 k ∧ n = .int .i64 (val s k)) (fun _ i => 3 - (intOf i).toNat)
  case atStart => exact ⟨0, Nat.zero_le _, rfl, rfl⟩
  case round =>
    obtain ⟨k, hk, rfl, rfl⟩ := hrel
    have hb := val_bd hK.out k hk
    by_cases hlt : k < K
    · have hsz : k < s.size := by omega
      have hd := hK.out.yes k hlt
      have e := bt_eq s k hsz
      rw [e] at hd
      obtain ⟨hd1, hd2⟩ := hd
      have HE := hide e
      clear e
      go_wp2_with (go_at_call 12; refine (isDigit_yes _ _ (by omega) (by omega)).mono ?_; rintro e w' ⟨rfl, rfl⟩)
      go_round
      case rel => exact ⟨k + 1, by omega, by go_num, by simp only [val]; rw [HE.out]⟩
      case measure => simp [intOf]; omega
    · obtain rfl : k = K := by omega
      have hend : ∀ w', ∃ n, (World.drewN w' n) = w' := fun w' => ⟨0, rfl⟩
      by_cases h3 : k < 3
      · by_cases hsz : k < s.size
        · have hd := hK.out.no h3 hsz
          rw [bt_eq s k hsz] at hd
          have hd0 : (s[k].toNat : Int) ≤ 255 := by have := s[k].toNat_lt; omega
          have HD := hide hd
          clear hd
          by_cases h0 : k = 0
          · subst h0
            go_wp2_with (go_at_call 12; refine (isDigit_no _ _ (by omega) (by omega) HD.out).mono ?_; rintro e w' ⟨rfl, rfl⟩)
            go_ret3
            exact ⟨by unfold outY; rw [if_pos (.inl rfl)]; rfl, 0, rfl⟩
          · have h0b : ((k : Int) == 0) = false := by simp; omega
            cases p
            · go_wp2_with (go_at_call 12; refine (isDigit_no _ _ (by omega) (by omega) HD.out).mono ?_; rintro e w' ⟨rfl, rfl⟩)
              go_quiet (fail)
              go_wp2
              go_ret3
              exact ⟨by unfold outY; rw [if_neg (by simp; omega)]; rfl, _, rfl⟩
            · go_wp2_with (go_at_call 12; refine (isDigit_no _ _ (by omega) (by omega) HD.out).mono ?_; rintro e w' ⟨rfl, rfl⟩)
              go_ret3
              exact ⟨by unfold outY; rw [if_pos (.inr ⟨rfl, h3⟩)]; rfl, 0, rfl⟩
        · by_cases h0 : k = 0
          · subst h0
            go_wp2
            go_ret3
            exact ⟨by unfold outY; rw [if_pos (.inl rfl)]; rfl, 0, rfl⟩
          · have h0b : ((k : Int) == 0) = false := by simp; omega
            cases p
            · go_wp2
              go_quiet (fail)
              go_wp2
              go_ret3
              exact ⟨by unfold outY; rw [if_neg (by simp; omega)]; rfl, _, rfl⟩
            · go_wp2
              go_ret3
              exact ⟨by unfold outY; rw [if_pos (.inr ⟨rfl, h3⟩)]; rfl, 0, rfl⟩
      · obtain rfl : k = 3 := by omega
        cases p
        · go_wp2
          go_quiet (fail)
          go_wp2
          go_ret3
          exact ⟨by unfold outY; rw [if_neg (by simp)]; rfl, _, rfl⟩
        · go_wp2
          go_quiet (fail)
          go_wp2
          go_ret3
          exact ⟨by unfold outY; rw [if_neg (by simp)]; rfl, _, rfl⟩
end Go.Proofs.Ybulkmpw
