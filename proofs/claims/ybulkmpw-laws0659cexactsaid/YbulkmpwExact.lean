/-
  OUR OWN WORK (an AI prover). The walk of 'LawS0659CExact' (function 4), over the contract of 'layoutYearDay'.
-/
import Derived.Test.YbulkmpwYearDay
namespace Go.Proofs.Ybulkmpw
open Go.ChangeShapes Go.WideShapes Go.ChangeAt Go.RowKit
set_option linter.unusedVariables false

theorem grown_drewN {W w : World} (h : Grown W w) (n : Nat) : Grown W (w.drewN n) := h

theorem outY_no (s : ByteArray) (K : Nat) (p : Bool) (h : K = 0 ∨ (p = true ∧ K < 3)) : outY s K p = .tuple #[.int .i64 0, .string s, .bool false] := by unfold outY; rw [if_pos h]
theorem outY_yes (s : ByteArray) (K : Nat) (p : Bool) (h : ¬ (K = 0 ∨ (p = true ∧ K < 3))) : outY s K p = .tuple #[.int .i64 (val s K), .string (s.extract K s.size), .bool true] := by unfold outY; rw [if_neg h]

theorem exact_far (s : ByteArray) (p : Bool) (w : World) (hs : s.size ≤ maxLen) (h : 4096 < s.size) :
    Calls Yba.prog 4 #[.string s, .bool p] w fun e w' => e = .returned (.bool true) ∧ Grown w w' := by
  unfold maxLen at hs
  go_enter Yba.func4, Yba.ntmps4
  go_wp2
  go_ret
  exact ⟨rfl, Grown.refl _⟩

/-- The walk up to the call, then the rest. -/
theorem exact_near (s : ByteArray) (p : Bool) (K : Nat) (w : World) (hs : s.size ≤ 4096) (hK : Hid (Lead s K)) :
    Calls Yba.prog 4 #[.string s, .bool p] w fun e w' => e = .returned (.bool true) ∧ Grown w w' := by
  have hK3 := hK.out.three
  have hKs := hK.out.size
  go_enter Yba.func4, Yba.ntmps4
  go_wp2
  go_loop [5] (fun i => ∃ k : Nat, k ≤ K ∧ i = .int .i64 k) (fun i => 3 - (intOf i).toNat)
  case atStart => exact ⟨0, Nat.zero_le _, rfl⟩
  case round =>
    obtain ⟨k, hk, rfl⟩ := hrel
    by_cases hlt : k < K
    · have hsz : k < s.size := by omega
      have hd := hK.out.yes k hlt
      rw [bt_eq s k hsz] at hd
      obtain ⟨hd1, hd2⟩ := hd
      go_wp2
      go_round
      case rel => exact ⟨k + 1, by omega, by go_num⟩
      case measure => simp [intOf]; omega
    · obtain rfl : k = K := by omega
      by_cases hbr : k < 3 ∧ k < s.size
      · obtain ⟨h3, hsz⟩ := hbr
        have hd := hK.out.no h3 hsz
        rw [bt_eq s k hsz] at hd
        by_cases hd48 : (s[k].toNat : Int) < 48
        · clear hd
          by_cases hk0 : k = 0
          · have hlay := hide (fun w' => layout_calls s k p w' (by omega) hK)
            rw [outY_no s k p (.inl hk0)] at hlay
            have hkz : ¬ 0 < k := by omega
            clear hk0
            go_wp2_with (go_at_call 7; refine (hlay.out _).mono ?_; rintro e w' ⟨rfl, nq, rfl⟩)
            go_ret
            exact ⟨rfl, grown_drewN (Grown.refl _) _⟩
          · have hkp : 0 < k := by omega
            by_cases hk3 : k = 3
            · have h3b : ((k : Int) == 3) = true := by simp; omega
              omega
            · have h3b : ((k : Int) == 3) = false := by simp; omega
              cases p
              · have hlay := hide (fun w' => layout_calls s k false w' (by omega) hK)
                rw [outY_yes s k false (by simp; omega)] at hlay
                go_wp2_with (go_at_call 7; refine (hlay.out _).mono ?_; rintro e w' ⟨rfl, nq, rfl⟩)
                go_loop [11, 12] (fun v j => ∃ i : Nat, i ≤ k ∧ j = .int .i64 i ∧ v = .int .i64 (val s i)) (fun _ j => k - (intOf j).toNat)
                case atStart => exact ⟨0, Nat.zero_le _, rfl, rfl⟩
                case round =>
                  obtain ⟨i, hi, rfl, rfl⟩ := hrel
                  have hvb := val_bd hK.out i hi
                  by_cases hil : i < k
                  · have hisz : i < s.size := by omega
                    have hdi := hK.out.yes i hil
                    have ei := bt_eq s i hisz
                    rw [ei] at hdi
                    obtain ⟨hdi1, hdi2⟩ := hdi
                    have HE := hide ei
                    clear ei
                    go_wp2
                    go_round
                    case rel => exact ⟨i + 1, by omega, by go_num, by simp only [val]; rw [HE.out]; go_num⟩
                    case measure => simp [intOf]; omega
                  · obtain rfl : i = k := by omega
                    go_wp2
                    go_ret
                    exact ⟨rfl, grown_drewN (Grown.refl _) _⟩
              · have hlay := hide (fun w' => layout_calls s k true w' (by omega) hK)
                rw [outY_no s k true (.inr ⟨rfl, by omega⟩)] at hlay
                go_wp2_with (go_at_call 7; refine (hlay.out _).mono ?_; rintro e w' ⟨rfl, nq, rfl⟩)
                go_ret
                exact ⟨rfl, grown_drewN (Grown.refl _) _⟩
        · have hd57 : 57 < (s[k].toNat : Int) := by omega
          clear hd
          by_cases hk0 : k = 0
          · have hlay := hide (fun w' => layout_calls s k p w' (by omega) hK)
            rw [outY_no s k p (.inl hk0)] at hlay
            have hkz : ¬ 0 < k := by omega
            clear hk0
            go_wp2_with (go_at_call 7; refine (hlay.out _).mono ?_; rintro e w' ⟨rfl, nq, rfl⟩)
            go_ret
            exact ⟨rfl, grown_drewN (Grown.refl _) _⟩
          · have hkp : 0 < k := by omega
            by_cases hk3 : k = 3
            · have h3b : ((k : Int) == 3) = true := by simp; omega
              omega
            · have h3b : ((k : Int) == 3) = false := by simp; omega
              cases p
              · have hlay := hide (fun w' => layout_calls s k false w' (by omega) hK)
                rw [outY_yes s k false (by simp; omega)] at hlay
                go_wp2_with (go_at_call 7; refine (hlay.out _).mono ?_; rintro e w' ⟨rfl, nq, rfl⟩)
                go_loop [11, 12] (fun v j => ∃ i : Nat, i ≤ k ∧ j = .int .i64 i ∧ v = .int .i64 (val s i)) (fun _ j => k - (intOf j).toNat)
                case atStart => exact ⟨0, Nat.zero_le _, rfl, rfl⟩
                case round =>
                  obtain ⟨i, hi, rfl, rfl⟩ := hrel
                  have hvb := val_bd hK.out i hi
                  by_cases hil : i < k
                  · have hisz : i < s.size := by omega
                    have hdi := hK.out.yes i hil
                    have ei := bt_eq s i hisz
                    rw [ei] at hdi
                    obtain ⟨hdi1, hdi2⟩ := hdi
                    have HE := hide ei
                    clear ei
                    go_wp2
                    go_round
                    case rel => exact ⟨i + 1, by omega, by go_num, by simp only [val]; rw [HE.out]; go_num⟩
                    case measure => simp [intOf]; omega
                  · obtain rfl : i = k := by omega
                    go_wp2
                    go_ret
                    exact ⟨rfl, grown_drewN (Grown.refl _) _⟩
              · have hlay := hide (fun w' => layout_calls s k true w' (by omega) hK)
                rw [outY_no s k true (.inr ⟨rfl, by omega⟩)] at hlay
                go_wp2_with (go_at_call 7; refine (hlay.out _).mono ?_; rintro e w' ⟨rfl, nq, rfl⟩)
                go_ret
                exact ⟨rfl, grown_drewN (Grown.refl _) _⟩
      · by_cases hk3 : k = 3
        · subst hk3
          have hlay := hide (fun w' => layout_calls s 3 p w' (by omega) hK)
          rw [outY_yes s 3 p (by omega)] at hlay
          clear hbr
          cases p <;> by_cases hs3 : 3 < s.size
          · go_wp2_with (go_at_call 7; refine (hlay.out _).mono ?_; rintro e w' ⟨rfl, nq, rfl⟩)
            go_loop [11, 12] (fun v j => ∃ i : Nat, i ≤ 3 ∧ j = .int .i64 i ∧ v = .int .i64 (val s i)) (fun _ j => 3 - (intOf j).toNat)
            case atStart => exact ⟨0, Nat.zero_le _, rfl, rfl⟩
            case round =>
              obtain ⟨i, hi, rfl, rfl⟩ := hrel
              have hvb := val_bd hK.out i hi
              by_cases hil : i < 3
              · have hisz : i < s.size := by omega
                have hdi := hK.out.yes i hil
                have ei := bt_eq s i hisz
                rw [ei] at hdi
                obtain ⟨hdi1, hdi2⟩ := hdi
                have HE := hide ei
                clear ei
                go_wp2
                go_round
                case rel => exact ⟨i + 1, by omega, by go_num, by simp only [val]; rw [HE.out]; go_num⟩
                case measure => simp [intOf]; omega
              · obtain rfl : i = 3 := by omega
                go_wp2
                go_ret
                exact ⟨rfl, grown_drewN (Grown.refl _) _⟩
          · go_wp2_with (go_at_call 7; refine (hlay.out _).mono ?_; rintro e w' ⟨rfl, nq, rfl⟩)
            go_loop [11, 12] (fun v j => ∃ i : Nat, i ≤ 3 ∧ j = .int .i64 i ∧ v = .int .i64 (val s i)) (fun _ j => 3 - (intOf j).toNat)
            case atStart => exact ⟨0, Nat.zero_le _, rfl, rfl⟩
            case round =>
              obtain ⟨i, hi, rfl, rfl⟩ := hrel
              have hvb := val_bd hK.out i hi
              by_cases hil : i < 3
              · have hisz : i < s.size := by omega
                have hdi := hK.out.yes i hil
                have ei := bt_eq s i hisz
                rw [ei] at hdi
                obtain ⟨hdi1, hdi2⟩ := hdi
                have HE := hide ei
                clear ei
                go_wp2
                go_round
                case rel => exact ⟨i + 1, by omega, by go_num, by simp only [val]; rw [HE.out]; go_num⟩
                case measure => simp [intOf]; omega
              · obtain rfl : i = 3 := by omega
                go_wp2
                go_ret
                exact ⟨rfl, grown_drewN (Grown.refl _) _⟩
          · go_wp2_with (go_at_call 7; refine (hlay.out _).mono ?_; rintro e w' ⟨rfl, nq, rfl⟩)
            go_loop [11, 12] (fun v j => ∃ i : Nat, i ≤ 3 ∧ j = .int .i64 i ∧ v = .int .i64 (val s i)) (fun _ j => 3 - (intOf j).toNat)
            case atStart => exact ⟨0, Nat.zero_le _, rfl, rfl⟩
            case round =>
              obtain ⟨i, hi, rfl, rfl⟩ := hrel
              have hvb := val_bd hK.out i hi
              by_cases hil : i < 3
              · have hisz : i < s.size := by omega
                have hdi := hK.out.yes i hil
                have ei := bt_eq s i hisz
                rw [ei] at hdi
                obtain ⟨hdi1, hdi2⟩ := hdi
                have HE := hide ei
                clear ei
                go_wp2
                go_round
                case rel => exact ⟨i + 1, by omega, by go_num, by simp only [val]; rw [HE.out]; go_num⟩
                case measure => simp [intOf]; omega
              · obtain rfl : i = 3 := by omega
                go_wp2
                go_ret
                exact ⟨rfl, grown_drewN (Grown.refl _) _⟩
          · go_wp2_with (go_at_call 7; refine (hlay.out _).mono ?_; rintro e w' ⟨rfl, nq, rfl⟩)
            go_loop [11, 12] (fun v j => ∃ i : Nat, i ≤ 3 ∧ j = .int .i64 i ∧ v = .int .i64 (val s i)) (fun _ j => 3 - (intOf j).toNat)
            case atStart => exact ⟨0, Nat.zero_le _, rfl, rfl⟩
            case round =>
              obtain ⟨i, hi, rfl, rfl⟩ := hrel
              have hvb := val_bd hK.out i hi
              by_cases hil : i < 3
              · have hisz : i < s.size := by omega
                have hdi := hK.out.yes i hil
                have ei := bt_eq s i hisz
                rw [ei] at hdi
                obtain ⟨hdi1, hdi2⟩ := hdi
                have HE := hide ei
                clear ei
                go_wp2
                go_round
                case rel => exact ⟨i + 1, by omega, by go_num, by simp only [val]; rw [HE.out]; go_num⟩
                case measure => simp [intOf]; omega
              · obtain rfl : i = 3 := by omega
                go_wp2
                go_ret
                exact ⟨rfl, grown_drewN (Grown.refl _) _⟩
        · have hb2 : ¬ k < s.size := by omega
          have hb3 : s.size ≤ k := by omega
          have h3b : ((k : Int) == 3) = false := by simp; omega
          have hk3' : k < 3 := by omega
          clear hbr
          by_cases hk0 : k = 0
          · have hlay := hide (fun w' => layout_calls s k p w' (by omega) hK)
            rw [outY_no s k p (.inl hk0)] at hlay
            have hkz : ¬ 0 < k := by omega
            clear hk0
            go_wp2_with (go_at_call 7; refine (hlay.out _).mono ?_; rintro e w' ⟨rfl, nq, rfl⟩)
            go_ret
            exact ⟨rfl, grown_drewN (Grown.refl _) _⟩
          · have hkp : 0 < k := by omega
            cases p
            · have hlay := hide (fun w' => layout_calls s k false w' (by omega) hK)
              rw [outY_yes s k false (by simp; omega)] at hlay
              go_wp2_with (go_at_call 7; refine (hlay.out _).mono ?_; rintro e w' ⟨rfl, nq, rfl⟩)
              go_loop [11, 12] (fun v j => ∃ i : Nat, i ≤ k ∧ j = .int .i64 i ∧ v = .int .i64 (val s i)) (fun _ j => k - (intOf j).toNat)
              case atStart => exact ⟨0, Nat.zero_le _, rfl, rfl⟩
              case round =>
                obtain ⟨i, hi, rfl, rfl⟩ := hrel
                have hvb := val_bd hK.out i hi
                by_cases hil : i < k
                · have hisz : i < s.size := by omega
                  have hdi := hK.out.yes i hil
                  have ei := bt_eq s i hisz
                  rw [ei] at hdi
                  obtain ⟨hdi1, hdi2⟩ := hdi
                  have HE := hide ei
                  clear ei
                  go_wp2
                  go_round
                  case rel => exact ⟨i + 1, by omega, by go_num, by simp only [val]; rw [HE.out]; go_num⟩
                  case measure => simp [intOf]; omega
                · obtain rfl : i = k := by omega
                  go_wp2
                  go_ret
                  exact ⟨rfl, grown_drewN (Grown.refl _) _⟩
            · have hlay := hide (fun w' => layout_calls s k true w' (by omega) hK)
              rw [outY_no s k true (.inr ⟨rfl, by omega⟩)] at hlay
              go_wp2_with (go_at_call 7; refine (hlay.out _).mono ?_; rintro e w' ⟨rfl, nq, rfl⟩)
              go_ret
              exact ⟨rfl, grown_drewN (Grown.refl _) _⟩
end Go.Proofs.Ybulkmpw
