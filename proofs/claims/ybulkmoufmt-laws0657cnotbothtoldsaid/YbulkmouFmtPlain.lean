/-
  OUR OWN WORK (an AI prover). The plain side: months, days, the date of a trading day. No Go in sight.
-/
namespace Go.Proofs.YbulkmouFmt

/-- The month behind m. -/
def nextM (m : Int) : Int := if m % 100 = 12 then m + 89 else m + 1
/-- The k-th month from October 2023 on. -/
def monthK : Nat → Int
  | 0 => 202310
  | k + 1 => nextM (monthK k)
/-- Month and day of month behind one step. -/
def step (p : Int × Int) (s : Int) : Int × Int := if 28 < p.2 + (s % 5 + 1) then (nextM p.1, p.2 + (s % 5 + 1) - 28) else (p.1, p.2 + (s % 5 + 1))
/-- Month and day behind the first k steps. -/
def atStep (zs : List Int) (k : Nat) : Int × Int := (zs.take k).foldl step (202311, 0)
/-- The j-th day. -/
def dayAt (zs : List Int) (j : Nat) : Int := (atStep zs (j + 1)).1 * 100 + (atStep zs (j + 1)).2

theorem nextM_bd (m : Int) : m + 1 ≤ nextM m ∧ nextM m ≤ m + 89 := by unfold nextM; split <;> omega
theorem monthK_bd : ∀ k : Nat, 202310 ≤ monthK k ∧ monthK k ≤ 202310 + 89 * (k : Int)
  | 0 => by simp [monthK]
  | k + 1 => by
    have h := monthK_bd k
    have n := nextM_bd (monthK k)
    simp only [monthK]
    omega

theorem atStep_succ (zs : List Int) (k : Nat) (h : k < zs.length) : atStep zs (k + 1) = step (atStep zs k) (zs.getD k 0) := by
  unfold atStep
  rw [List.take_succ_eq_append_getElem h, List.foldl_append]
  simp [h]

theorem step_facts (p : Int × Int) (s : Int) (h0 : 0 ≤ p.2) (h1 : p.2 ≤ 28) :
    1 ≤ (step p s).2 ∧ (step p s).2 ≤ 28 ∧ p.1 ≤ (step p s).1 ∧ (step p s).1 ≤ p.1 + 89 ∧ p.1 * 100 + p.2 < (step p s).1 * 100 + (step p s).2 := by
  have n := nextM_bd p.1
  unfold step
  split
  · simp only; omega
  · simp only; omega

theorem atStep_facts (zs : List Int) : ∀ k : Nat, k ≤ zs.length → 0 ≤ (atStep zs k).2 ∧ (atStep zs k).2 ≤ 28 ∧ 202311 ≤ (atStep zs k).1 ∧ (atStep zs k).1 ≤ 202311 + 89 * (k : Int)
  | 0, _ => by simp [atStep]
  | k + 1, h => by
    have ih := atStep_facts zs k (by omega)
    have s := step_facts (atStep zs k) (zs.getD k 0) ih.1 ih.2.1
    rw [atStep_succ zs k (by omega)]
    omega

theorem dayAt_facts (zs : List Int) (j : Nat) (h : j < zs.length) : dayAt zs j = (atStep zs (j + 1)).1 * 100 + (atStep zs (j + 1)).2 ∧ 1 ≤ (atStep zs (j + 1)).2 ∧ (atStep zs (j + 1)).2 ≤ 28 ∧ 202311 ≤ (atStep zs (j + 1)).1 ∧ (atStep zs (j + 1)).1 ≤ 202311 + 89 * ((j : Int) + 1) := by
  have a := atStep_facts zs j (by omega)
  have s := step_facts (atStep zs j) (zs.getD j 0) a.1 a.2.1
  have b := atStep_facts zs (j + 1) (by omega)
  rw [← atStep_succ zs j h] at s
  exact ⟨rfl, by omega, by omega, by omega, by omega⟩

theorem dayAt_lt (zs : List Int) (j : Nat) (h : j + 1 < zs.length) : dayAt zs j < dayAt zs (j + 1) := by
  have a := atStep_facts zs (j + 1) (by omega)
  have s := step_facts (atStep zs (j + 1)) (zs.getD (j + 1) 0) a.1 a.2.1
  rw [← atStep_succ zs (j + 1) h] at s
  unfold dayAt
  exact s.2.2.2.2

theorem dayAt_mono (zs : List Int) (j : Nat) : ∀ d : Nat, j + d + 1 < zs.length → dayAt zs j < dayAt zs (j + d + 1)
  | 0, h => dayAt_lt zs j h
  | d + 1, h => Int.lt_trans (dayAt_mono zs j d (by omega)) (dayAt_lt zs (j + d + 1) h)

theorem dayAt_lt' (zs : List Int) (j k : Nat) (hjk : j < k) (h : k < zs.length) : dayAt zs j < dayAt zs k := by
  obtain ⟨d, rfl⟩ : ∃ d, k = j + d + 1 := ⟨k - j - 1, by omega⟩
  exact dayAt_mono zs j d h

/-- THE PLACE OF t AMONG ASCENDING NUMBERS. -/
def Place (D : Nat → Int) (L : Nat) (t : Int) (i : Nat) : Prop := i ≤ L ∧ (∀ k, k < i → D k < t) ∧ ∀ k, i ≤ k → k < L → t < D k

theorem place_ex (D : Nat → Int) (t : Int) : ∀ L : Nat, (∀ j k, j < k → k < L → D j < D k) → (∀ k, k < L → D k ≠ t) → ∃ i, Place D L t i
  | 0, _, _ => ⟨0, Nat.le_refl _, fun k h => absurd h (by omega), fun k _ h => absurd h (by omega)⟩
  | L + 1, hm, hne => by
    obtain ⟨i, h1, h2, h3⟩ := place_ex D t L (fun j k hjk hk => hm j k hjk (by omega)) (fun k hk => hne k (by omega))
    by_cases hl : D L < t
    · refine ⟨L + 1, Nat.le_refl _, fun k hk => ?_, fun k hk hk' => absurd hk (by omega)⟩
      by_cases e : k = L
      · subst e; exact hl
      · exact Int.lt_trans (hm k L (by omega) (by omega)) hl
    · refine ⟨i, by omega, h2, fun k hk hk' => ?_⟩
      by_cases e : k = L
      · subst e; have := hne k (by omega); omega
      · exact h3 k hk (by omega)

/-- What is known of the days, the month m and its two places. -/
structure Days (D : Nat → Int) (L : Nat) (m : Int) (i1 i2 : Nat) : Prop where
  p1 : Place D L (m * 100) i1
  p2 : Place D L (m * 100 + 32) i2
  dd : ∀ k, k < L → ∃ q r : Int, D k = q * 100 + r ∧ 1 ≤ r ∧ r ≤ 28 ∧ 0 ≤ q ∧ q ≤ 1000000

namespace Days
variable {D : Nat → Int} {L : Nat} {m : Int} {i1 i2 : Nat}
theorem le (h : Days D L m i1 i2) : i1 ≤ i2 := by
  rcases Nat.lt_or_ge i2 i1 with hl | hl
  · have a := h.p1.2.1 i2 hl
    have b := h.p2.2.2 i2 (Nat.le_refl _) (Nat.lt_of_lt_of_le hl h.p1.1)
    omega
  · exact hl
theorem before (h : Days D L m i1 i2) {k : Nat} (hk : k < i1) : D k / 100 < m := by
  have a := h.p1.2.1 k hk
  omega
theorem inside (h : Days D L m i1 i2) {k : Nat} (h1 : i1 ≤ k) (h2 : k < i2) : D k / 100 = m := by
  have hL : k < L := Nat.lt_of_lt_of_le h2 h.p2.1
  have a := h.p1.2.2 k h1 hL
  have b := h.p2.2.1 k h2
  omega
theorem behind (h : Days D L m i1 i2) {k : Nat} (h1 : i2 ≤ k) (h2 : k < L) : m < D k / 100 := by
  have b := h.p2.2.2 k h1 h2
  obtain ⟨q, r, e, r1, r2, _⟩ := h.dd k h2
  omega
theorem bd (h : Days D L m i1 i2) {k : Nat} (h2 : k < L) : 0 ≤ D k ∧ D k ≤ 100000100 := by
  obtain ⟨q, r, e, r1, r2, _⟩ := h.dd k h2
  omega
end Days

/-- THE DATE OF THE n-TH TRADING DAY, by the two places: (0, false) where there is none. -/
def dateS (D : Nat → Int) (L i1 i2 : Nat) (n : Nat) : Int × Bool :=
  if i1 + n ≤ i2 then (D (i1 + n - 1), true) else if i1 < i2 ∧ i2 < L then (D (i2 - 1), true) else (0, false)
end Go.Proofs.YbulkmouFmt
