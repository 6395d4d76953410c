/-
  OUR OWN WORK (an AI prover). The contracts of Calendar.After, Day, Last and of tradingDay.date, before, is; of the model's dateOf.
-/
import Derived.Test.YbulkmouFmtLeaf
import Derived.BigQuiet
import Derived.Deep.QuietTactic
import Derived.WalkSmall
namespace Go.Proofs.YbulkmouFmt
open Go.ChangeShapes Go.WideShapes Go.ChangeAt Go.RowKit
set_option linter.unusedVariables false

/-- The calendar behind the pointer: L ascending days. -/
structure CalAt (w : World) (cb g L cap : Nat) (D : Nat → Int) : Prop where
  head : w.cell? ⟨cb, 0, none⟩ = some (.slice (some ⟨g, 0, none⟩) L cap)
  days : ∀ j, j < L → w.cell? ⟨g, j, none⟩ = some (.int .i64 (D j))

theorem after_yes (cb g L cap i n : Nat) (D : Nat → Int) (d : Int) (w : World) (hL : L ≤ 2000) (hn : 1 ≤ n) (hn2 : n ≤ 1000) (hcal : Hid (CalAt w cb g L cap D)) (hp : Hid (Place D L d i)) (hin : i + n ≤ L) :
    Calls Ybaf.prog 22 #[.pointer (some ⟨cb, 0, none⟩), .int .i64 d, .int .i64 n] w fun e w' => e = .returned (.tuple #[.int .i64 (D (i + n - 1)), .bool true]) ∧ w' = w := by
  have h1 := hcal.out.head
  have hx : w.cell? ⟨g, i + n - 1, none⟩ = some (.int .i64 (D (i + n - 1))) := hcal.out.days _ (by omega)
  have hbs : Hid (∀ w', w' = w → _) := fun w' (e : w' = w) => bs_calls g L cap i D d w' hL hp (e ▸ hcal.out.days)
  have e1 : ((i : Int) + (n : Int) - 1).toNat = i + n - 1 := by omega
  go_enter Ybaf.func22, Ybaf.ntmps22
  go_wp2_with (go_at_call 23; refine (hbs.out _ rfl).mono ?_; rintro e w' ⟨rfl, rfl⟩)
  go_ret2
  exact ⟨rfl, rfl⟩

theorem after_no (cb g L cap i n : Nat) (D : Nat → Int) (d : Int) (w : World) (hL : L ≤ 2000) (hn : 1 ≤ n) (hn2 : n ≤ 1000) (hcal : Hid (CalAt w cb g L cap D)) (hp : Hid (Place D L d i)) (hin : L < i + n) :
    Calls Ybaf.prog 22 #[.pointer (some ⟨cb, 0, none⟩), .int .i64 d, .int .i64 n] w fun e w' => e = .returned (.tuple #[.int .i64 0, .bool false]) ∧ w' = w := by
  have h1 := hcal.out.head
  have hi : i ≤ L := hp.out.1
  have hbs : Hid (∀ w', w' = w → _) := fun w' (e : w' = w) => bs_calls g L cap i D d w' hL hp (e ▸ hcal.out.days)
  go_enter Ybaf.func22, Ybaf.ntmps22
  go_wp2_with (go_at_call 23; refine (hbs.out _ rfl).mono ?_; rintro e w' ⟨rfl, rfl⟩)
  go_ret2
  exact ⟨rfl, rfl⟩

theorem CalAt.below {w w' : World} {cb g L cap : Nat} {D : Nat → Int} (h : CalAt w cb g L cap D) (hb : Below w.heap.size w w') : CalAt w' cb g L cap D :=
  ⟨(hb.cell (World.block_lt_of_cell? _ _ h.head)).trans h.head, fun j hj => (hb.cell (World.block_lt_of_cell? _ _ (h.days j hj))).trans (h.days j hj)⟩

theorem day_yes (cb g L cap i1 i2 n : Nat) (D : Nat → Int) (m : Int) (w : World) (hL : L ≤ 2000) (hn : 1 ≤ n) (hn2 : n ≤ 1000) (hm : 0 ≤ m) (hm2 : m ≤ 1000000) (hcal : Hid (CalAt w cb g L cap D)) (hd : Hid (Days D L m i1 i2)) (hin : i1 + n ≤ i2) :
    Calls Ybaf.prog 19 #[.pointer (some ⟨cb, 0, none⟩), .int .i64 m, .int .i64 n] w fun e w' => e = .returned (.tuple #[.int .i64 (D (i1 + n - 1)), .bool true]) ∧ w' = w := by
  have hi2 : i2 ≤ L := hd.out.p2.1
  have hin2 : Hid (D (i1 + n - 1) / 100 = m) := hd.out.inside (by omega) (by omega)
  have hbd := hd.out.bd (k := i1 + n - 1) (by omega)
  have hq : (D (i1 + n - 1) / 100 != m) = false := by simp [hin2.out]
  have haf : Hid (∀ w', w' = w → _) := fun w' (e : w' = w) => after_yes cb g L cap i1 n D (m * 100) w' hL hn hn2 (e ▸ hcal) hd.out.p1 (by omega)
  go_enter Ybaf.func19, Ybaf.ntmps19
  go_wp2_with (first | (go_at_call 22; refine (haf.out _ rfl).mono ?_; rintro e w' ⟨rfl, rfl⟩) | (go_at_call 15; refine (Month_calls _ _ (by omega) (by omega)).mono ?_; rintro e w' ⟨rfl, rfl⟩))
  go_ret2
  exact ⟨rfl, rfl⟩

theorem day_no (cb g L cap i1 i2 n : Nat) (D : Nat → Int) (m : Int) (w : World) (hL : L ≤ 2000) (hn : 1 ≤ n) (hn2 : n ≤ 1000) (hm : 0 ≤ m) (hm2 : m ≤ 1000000) (hcal : Hid (CalAt w cb g L cap D)) (hd : Hid (Days D L m i1 i2)) (hin : i2 < i1 + n) :
    Calls Ybaf.prog 19 #[.pointer (some ⟨cb, 0, none⟩), .int .i64 m, .int .i64 n] w fun e w' => e = .returned (.tuple #[.int .i64 0, .bool false]) ∧ w' = w := by
  by_cases hl : i1 + n ≤ L
  · have hin2 : Hid (m < D (i1 + n - 1) / 100) := hd.out.behind (by omega) (by omega)
    have hbd := hd.out.bd (k := i1 + n - 1) (by omega)
    have hq : (D (i1 + n - 1) / 100 != m) = true := by have := hin2.out; simp; omega
    have haf : Hid (∀ w', w' = w → _) := fun w' (e : w' = w) => after_yes cb g L cap i1 n D (m * 100) w' hL hn hn2 (e ▸ hcal) hd.out.p1 hl
    go_enter Ybaf.func19, Ybaf.ntmps19
    go_wp2_with (first | (go_at_call 22; refine (haf.out _ rfl).mono ?_; rintro e w' ⟨rfl, rfl⟩) | (go_at_call 15; refine (Month_calls _ _ (by omega) (by omega)).mono ?_; rintro e w' ⟨rfl, rfl⟩))
    go_ret2
    exact ⟨rfl, rfl⟩
  · have haf : Hid (∀ w', w' = w → _) := fun w' (e : w' = w) => after_no cb g L cap i1 n D (m * 100) w' hL hn hn2 (e ▸ hcal) hd.out.p1 (by omega)
    go_enter Ybaf.func19, Ybaf.ntmps19
    go_wp2_with (go_at_call 22; refine (haf.out _ rfl).mono ?_; rintro e w' ⟨rfl, rfl⟩)
    go_ret2
    exact ⟨rfl, rfl⟩

theorem last_yes (cb g L cap i1 i2 : Nat) (D : Nat → Int) (m : Int) (w : World) (hL : L ≤ 2000) (hm : 0 ≤ m) (hm2 : m ≤ 1000000) (hcal : Hid (CalAt w cb g L cap D)) (hd : Hid (Days D L m i1 i2)) (h1 : i1 < i2) (h2 : i2 < L) :
    Calls Ybaf.prog 20 #[.pointer (some ⟨cb, 0, none⟩), .int .i64 m] w fun e w' => e = .returned (.tuple #[.int .i64 (D (i2 - 1)), .bool true]) ∧ w' = w := by
  have hin2 : Hid (D (i2 - 1) / 100 = m) := hd.out.inside (by omega) (by omega)
  have hbd := hd.out.bd (k := i2 - 1) (by omega)
  have hq : (D (i2 - 1) / 100 != m) = false := by simp [hin2.out]
  have hh := hcal.out.head
  have hx : w.cell? ⟨g, i2 - 1, none⟩ = some (.int .i64 (D (i2 - 1))) := hcal.out.days _ (by omega)
  have e1 : ((i2 : Int) - 1).toNat = i2 - 1 := by omega
  have e2 : ((i2 : Int) == 0) = false := by simp; omega
  have e3 : ((i2 : Int) == (L : Int)) = false := by simp; omega
  have hbs : Hid (∀ w', w' = w → _) := fun w' (e : w' = w) => bs_calls g L cap i2 D (m * 100 + 32) w' hL hd.out.p2 (e ▸ hcal.out.days)
  go_enter Ybaf.func20, Ybaf.ntmps20
  go_wp2_with (first | (go_at_call 23; refine (hbs.out _ rfl).mono ?_; rintro e w' ⟨rfl, rfl⟩) | (go_at_call 15; refine (Month_calls _ _ (by omega) (by omega)).mono ?_; rintro e w' ⟨rfl, rfl⟩))
  go_ret2
  exact ⟨rfl, rfl⟩

theorem last_no (cb g L cap i1 i2 : Nat) (D : Nat → Int) (m : Int) (w : World) (hL : L ≤ 2000) (hm : 0 ≤ m) (hm2 : m ≤ 1000000) (hcal : Hid (CalAt w cb g L cap D)) (hd : Hid (Days D L m i1 i2)) (h1 : ¬ (i1 < i2 ∧ i2 < L)) :
    Calls Ybaf.prog 20 #[.pointer (some ⟨cb, 0, none⟩), .int .i64 m] w fun e w' => e = .returned (.tuple #[.int .i64 0, .bool false]) ∧ w' = w := by
  have hh := hcal.out.head
  have hbs : Hid (∀ w', w' = w → _) := fun w' (e : w' = w) => bs_calls g L cap i2 D (m * 100 + 32) w' hL hd.out.p2 (e ▸ hcal.out.days)
  have hle := hd.out.le
  have hi2 : i2 ≤ L := hd.out.p2.1
  by_cases h0 : i2 = 0
  · subst h0
    go_enter Ybaf.func20, Ybaf.ntmps20
    go_wp2_with (go_at_call 23; refine (hbs.out _ rfl).mono ?_; rintro e w' ⟨rfl, rfl⟩)
    go_ret2
    exact ⟨rfl, rfl⟩
  · have e2 : ((i2 : Int) == 0) = false := by simp; omega
    by_cases hl : i2 = L
    · have e3 : ((i2 : Int) == (L : Int)) = true := by simp [hl]
      clear hl
      go_enter Ybaf.func20, Ybaf.ntmps20
      go_wp2_with (go_at_call 23; refine (hbs.out _ rfl).mono ?_; rintro e w' ⟨rfl, rfl⟩)
      go_ret2
      exact ⟨rfl, rfl⟩
    · have e3 : ((i2 : Int) == (L : Int)) = false := by simp; omega
      have hin2 : Hid (D (i2 - 1) / 100 < m) := hd.out.before (by omega)
      have hbd := hd.out.bd (k := i2 - 1) (by omega)
      have hq : (D (i2 - 1) / 100 != m) = true := by have := hin2.out; simp; omega
      have hx : w.cell? ⟨g, i2 - 1, none⟩ = some (.int .i64 (D (i2 - 1))) := hcal.out.days _ (by omega)
      have e1 : ((i2 : Int) - 1).toNat = i2 - 1 := by omega
      go_enter Ybaf.func20, Ybaf.ntmps20
      go_wp2_with (first | (go_at_call 23; refine (hbs.out _ rfl).mono ?_; rintro e w' ⟨rfl, rfl⟩) | (go_at_call 15; refine (Month_calls _ _ (by omega) (by omega)).mono ?_; rintro e w' ⟨rfl, rfl⟩))
      go_ret2
      exact ⟨rfl, rfl⟩

/-- The receiver as it is boxed. -/
abbrev tdBox (m n : Int) : Obj := .cells #[.int .i64 m, .int .i64 n] 33

theorem date_nil (m n : Int) (w : World) :
    Calls Ybaf.prog 14 #[.agg #[.int .i64 m, .int .i64 n], .pointer none] w fun e w' => e = .returned (.tuple #[.int .i64 0, .bool false]) ∧ w' = w.alloc (tdBox m n) := by
  go_enter Ybaf.func14, Ybaf.ntmps14
  go_wp2
  go_ret2
  exact ⟨rfl, rfl⟩

theorem date_zero (cb : Nat) (m n : Int) (w : World) (hn : n ≤ 0) :
    Calls Ybaf.prog 14 #[.agg #[.int .i64 m, .int .i64 n], .pointer (some ⟨cb, 0, none⟩)] w fun e w' => e = .returned (.tuple #[.int .i64 0, .bool false]) ∧ w' = w.alloc (tdBox m n) := by
  go_enter Ybaf.func14, Ybaf.ntmps14
  go_wp2
  go_ret2
  exact ⟨rfl, rfl⟩

theorem date_pos (cb g L cap i1 i2 n : Nat) (D : Nat → Int) (m : Int) (w : World) (hL : L ≤ 2000) (hn : 1 ≤ n) (hn2 : n ≤ 1000) (hm : 0 ≤ m) (hm2 : m ≤ 1000000) (hcal : Hid (CalAt w cb g L cap D)) (hd : Hid (Days D L m i1 i2)) :
    Calls Ybaf.prog 14 #[.agg #[.int .i64 m, .int .i64 n], .pointer (some ⟨cb, 0, none⟩)] w fun e w' => e = .returned (.tuple #[.int .i64 (dateS D L i1 i2 n).1, .bool (dateS D L i1 i2 n).2]) ∧ w' = w.alloc (tdBox m n) := by
  have hc2 : Hid (CalAt (w.alloc (tdBox m n)) cb g L cap D) := hcal.out.below ((Below.refl _ _).alloc (Nat.le_refl _) _)
  by_cases h1 : i1 + n ≤ i2
  · have hday : Hid (∀ w', w' = w.alloc (tdBox m n) → _) := fun w' (e : w' = w.alloc (tdBox m n)) => day_yes cb g L cap i1 i2 n D m w' hL hn hn2 hm hm2 (e ▸ hc2) hd h1
    go_enter Ybaf.func14, Ybaf.ntmps14
    go_wp2_with (go_at_call 19; refine (hday.out _ rfl).mono ?_; rintro e w' ⟨rfl, rfl⟩)
    go_ret2
    exact ⟨by unfold dateS; rw [if_pos h1]; rfl, rfl⟩
  · have hday : Hid (∀ w', w' = w.alloc (tdBox m n) → _) := fun w' (e : w' = w.alloc (tdBox m n)) => day_no cb g L cap i1 i2 n D m w' hL hn hn2 hm hm2 (e ▸ hc2) hd (by omega)
    by_cases h2 : i1 < i2 ∧ i2 < L
    · have hlast : Hid (∀ w', w' = w.alloc (tdBox m n) → _) := fun w' (e : w' = w.alloc (tdBox m n)) => last_yes cb g L cap i1 i2 D m w' hL hm hm2 (e ▸ hc2) hd h2.1 h2.2
      have H2 : Hid (i1 < i2 ∧ i2 < L) := h2
      clear h2
      go_enter Ybaf.func14, Ybaf.ntmps14
      go_wp2_with (first | (go_at_call 19; refine (hday.out _ rfl).mono ?_; rintro e w' ⟨rfl, rfl⟩) | (go_at_call 20; refine (hlast.out _ rfl).mono ?_; rintro e w' ⟨rfl, rfl⟩))
      go_ret2
      exact ⟨by unfold dateS; rw [if_neg h1, if_pos H2.out]; rfl, rfl⟩
    · have hlast : Hid (∀ w', w' = w.alloc (tdBox m n) → _) := fun w' (e : w' = w.alloc (tdBox m n)) => last_no cb g L cap i1 i2 D m w' hL hm hm2 (e ▸ hc2) hd h2
      have H2 : Hid (¬ (i1 < i2 ∧ i2 < L)) := h2
      clear h2
      go_enter Ybaf.func14, Ybaf.ntmps14
      go_wp2_with (first | (go_at_call 19; refine (hday.out _ rfl).mono ?_; rintro e w' ⟨rfl, rfl⟩) | (go_at_call 20; refine (hlast.out _ rfl).mono ?_; rintro e w' ⟨rfl, rfl⟩))
      go_ret2
      exact ⟨by unfold dateS; rw [if_neg h1, if_neg H2.out]; rfl, rfl⟩

/-- What 'before' answers. -/
def beforeS (r : Int × Bool) (pos : Bool) (m date : Int) : Bool := if r.2 then decide (r.1 < date) else pos && decide (m < date / 100)

theorem before_nil (m n date : Int) (w : World) :
    Calls Ybaf.prog 8 #[.agg #[.int .i64 m, .int .i64 n], .pointer none, .int .i64 date] w fun e w' => e = .returned (.bool false) ∧ Below w.heap.size w w' := by
  go_enter Ybaf.func8, Ybaf.ntmps8
  go_wp2_with (go_at_call 14; refine (date_nil _ _ _).mono ?_; rintro e w' ⟨rfl, rfl⟩)
  go_quiet (fail)
  go_wp2
  go_ret
  exact ⟨rfl, below_drewN (((Below.refl _ _).alloc (Nat.le_refl _) _).alloc (by simp) _) _⟩

/-- 'before' over a contract of 'date': the date is there. -/
theorem before_some (cb : Nat) (m n date day : Int) (w : World)
    (hdate : Hid (Calls Ybaf.prog 14 #[.agg #[.int .i64 m, .int .i64 n], .pointer (some ⟨cb, 0, none⟩)] (w.alloc (tdBox m n)) fun e w' => e = .returned (.tuple #[.int .i64 day, .bool true]) ∧ w' = (w.alloc (tdBox m n)).alloc (tdBox m n))) :
    Calls Ybaf.prog 8 #[.agg #[.int .i64 m, .int .i64 n], .pointer (some ⟨cb, 0, none⟩), .int .i64 date] w fun e w' => e = .returned (.bool (decide (day < date))) ∧ Below w.heap.size w w' := by
  go_enter Ybaf.func8, Ybaf.ntmps8
  go_wp2_with (go_at_call 14; refine hdate.out.mono ?_; rintro e w' ⟨rfl, rfl⟩)
  go_ret
  exact ⟨rfl, (((Below.refl _ _).alloc (Nat.le_refl _) _).alloc (by simp) _)⟩

/-- .. there is none. -/
theorem before_none (cb : Nat) (m n date : Int) (w : World) (h0 : 0 ≤ date) (h1 : date ≤ 1000000000)
    (hdate : Hid (Calls Ybaf.prog 14 #[.agg #[.int .i64 m, .int .i64 n], .pointer (some ⟨cb, 0, none⟩)] (w.alloc (tdBox m n)) fun e w' => e = .returned (.tuple #[.int .i64 0, .bool false]) ∧ w' = (w.alloc (tdBox m n)).alloc (tdBox m n))) :
    Calls Ybaf.prog 8 #[.agg #[.int .i64 m, .int .i64 n], .pointer (some ⟨cb, 0, none⟩), .int .i64 date] w fun e w' => e = .returned (.bool (decide (0 < n) && decide (m < date / 100))) ∧ Below w.heap.size w w' := by
  by_cases hn : 0 < n
  · have hd : decide (0 < n) = true := by simpa using hn
    go_enter Ybaf.func8, Ybaf.ntmps8
    go_wp2_with (go_at_call 14; refine hdate.out.mono ?_; rintro e w' ⟨rfl, rfl⟩)
    go_quiet ((go_at_call 15; exact Calls.quiet_of_same (Month_calls _ _ (by omega) (by omega))))
    go_wp2
    go_ret
    exact ⟨by rw [hd]; simp, below_drewN (((Below.refl _ _).alloc (Nat.le_refl _) _).alloc (by simp) _) _⟩
  · have hd : decide (0 < n) = false := by simpa using hn
    go_enter Ybaf.func8, Ybaf.ntmps8
    go_wp2_with (go_at_call 14; refine hdate.out.mono ?_; rintro e w' ⟨rfl, rfl⟩)
    go_quiet (fail)
    go_wp2
    go_ret
    exact ⟨by rw [hd]; simp, below_drewN (((Below.refl _ _).alloc (Nat.le_refl _) _).alloc (by simp) _) _⟩

/-- 'is' over a contract of 'date'. -/
theorem is_calls (cb : Nat) (m n date day : Int) (ok : Bool) (w : World)
    (hdate : Hid (Calls Ybaf.prog 14 #[.agg #[.int .i64 m, .int .i64 n], .pointer (some ⟨cb, 0, none⟩)] (w.alloc (tdBox m n)) fun e w' => e = .returned (.tuple #[.int .i64 day, .bool ok]) ∧ w' = (w.alloc (tdBox m n)).alloc (tdBox m n))) :
    Calls Ybaf.prog 10 #[.agg #[.int .i64 m, .int .i64 n], .pointer (some ⟨cb, 0, none⟩), .int .i64 date] w fun e w' => e = .returned (.bool (ok && date == day)) ∧ Below w.heap.size w w' := by
  cases ok
  · go_enter Ybaf.func10, Ybaf.ntmps10
    go_wp2_with (go_at_call 14; refine hdate.out.mono ?_; rintro e w' ⟨rfl, rfl⟩)
    go_ret
    exact ⟨rfl, (((Below.refl _ _).alloc (Nat.le_refl _) _).alloc (by simp) _)⟩
  · go_enter Ybaf.func10, Ybaf.ntmps10
    go_wp2_with (go_at_call 14; refine hdate.out.mono ?_; rintro e w' ⟨rfl, rfl⟩)
    go_ret
    exact ⟨rfl, (((Below.refl _ _).alloc (Nat.le_refl _) _).alloc (by simp) _)⟩

/-- The model's 'dateOf'. -/
theorem dateOf_zero (g L cap : Nat) (m n : Int) (w : World) (hn : n ≤ 0) :
    Calls Ybaf.prog 9 #[.slice (some ⟨g, 0, none⟩) L cap, .int .i64 m, .int .i64 n] w fun e w' => e = .returned (.tuple #[.int .i64 0, .bool false]) ∧ w' = w := by
  go_enter Ybaf.func9, Ybaf.ntmps9
  go_wp2
  go_ret2
  exact ⟨rfl, rfl⟩

/-- The loop's four variables behind k days. -/
def cntK (i1 i2 k : Nat) : Nat := min k i2 - i1
def nthK (D : Nat → Int) (i1 i2 n k : Nat) : Int := if n ≤ cntK i1 i2 k then D (i1 + n - 1) else 0
def lastK (D : Nat → Int) (i1 i2 k : Nat) : Int := if 0 < cntK i1 i2 k then D (min k i2 - 1) else 0

theorem dateS_end1 {D : Nat → Int} {L i1 i2 n : Nat} (h2 : i2 ≤ L) (hn : 1 ≤ n) (h : n ≤ cntK i1 i2 L) : dateS D L i1 i2 n = (nthK D i1 i2 n L, true) := by
  have : i1 + n ≤ i2 := by unfold cntK at h; omega
  unfold dateS nthK
  rw [if_pos this, if_pos h]
theorem dateS_end2 {D : Nat → Int} {L i1 i2 n : Nat} (h2 : i2 ≤ L) (hn : 1 ≤ n) (h : ¬ n ≤ cntK i1 i2 L) (h0 : 0 < cntK i1 i2 L) (hl : i2 < L) : dateS D L i1 i2 n = (lastK D i1 i2 L, true) := by
  have e : min L i2 = i2 := by omega
  have h0' := h0
  unfold cntK at h h0
  unfold dateS lastK
  rw [if_neg (by omega), if_pos ⟨by omega, hl⟩, if_pos h0', e]
theorem dateS_end3 {D : Nat → Int} {L i1 i2 n : Nat} (h2 : i2 ≤ L) (hn : 1 ≤ n) (h : ¬ n ≤ cntK i1 i2 L) (hl : ¬ i2 < L) : dateS D L i1 i2 n = (0, false) := by
  unfold cntK at h
  unfold dateS
  rw [if_neg (by omega), if_neg (by omega)]
theorem dateS_end4 {D : Nat → Int} {L i1 i2 n : Nat} (h2 : i2 ≤ L) (hn : 1 ≤ n) (h0 : ¬ 0 < cntK i1 i2 L) : dateS D L i1 i2 n = (0, false) := by
  unfold cntK at h0
  unfold dateS
  rw [if_neg (by omega), if_neg (by omega)]
theorem step1 {D : Nat → Int} {i1 i2 n k : Nat} (hn : 1 ≤ n) (hk : k < i1) : cntK i1 i2 (k + 1) = cntK i1 i2 k ∧ nthK D i1 i2 n (k + 1) = nthK D i1 i2 n k ∧ lastK D i1 i2 (k + 1) = lastK D i1 i2 k := by
  have e0 : cntK i1 i2 k = 0 := by unfold cntK; omega
  have e1 : cntK i1 i2 (k + 1) = 0 := by unfold cntK; omega
  unfold nthK lastK
  rw [e0, e1]
  simp
theorem step2 {D : Nat → Int} {i1 i2 n k : Nat} (hn : 1 ≤ n) (h1 : i1 ≤ k) (h2 : k < i2) : cntK i1 i2 (k + 1) = cntK i1 i2 k + 1 ∧ (cntK i1 i2 k + 1 = n → nthK D i1 i2 n (k + 1) = D k) ∧ (¬ cntK i1 i2 k + 1 = n → nthK D i1 i2 n (k + 1) = nthK D i1 i2 n k) ∧ lastK D i1 i2 (k + 1) = D k := by
  have e0 : cntK i1 i2 k = k - i1 := by unfold cntK; omega
  have e1 : cntK i1 i2 (k + 1) = k + 1 - i1 := by unfold cntK; omega
  have e2 : min (k + 1) i2 = k + 1 := by omega
  unfold nthK lastK
  rw [e0, e1, e2]
  refine ⟨by omega, fun h => ?_, fun h => ?_, ?_⟩
  · rw [if_pos (by omega), show i1 + n - 1 = k from by omega]
  · by_cases hh : n ≤ k - i1
    · rw [if_pos (by omega), if_pos hh]
    · rw [if_neg (by omega), if_neg hh]
  · rw [if_pos (by omega), show k + 1 - 1 = k from by omega]
theorem step3 {D : Nat → Int} {i1 i2 n k : Nat} (h2 : i2 ≤ k) : cntK i1 i2 (k + 1) = cntK i1 i2 k ∧ nthK D i1 i2 n (k + 1) = nthK D i1 i2 n k ∧ lastK D i1 i2 (k + 1) = lastK D i1 i2 k := by
  have e2 : min (k + 1) i2 = i2 := by omega
  have e3 : min k i2 = i2 := by omega
  unfold nthK lastK cntK
  rw [e2, e3]
  exact ⟨rfl, rfl, rfl⟩

theorem ret2_of {a b : Int} {x y : Bool} {r : Int × Bool} (h : r = (b, y)) (h1 : a = b) (h2 : x = y) : Ending.returned (.tuple #[.int .i64 a, .bool x]) = .returned (.tuple #[.int .i64 r.1, .bool r.2]) := by rw [h, h1, h2]

theorem dateOf_pos (g L cap i1 i2 n : Nat) (D : Nat → Int) (m : Int) (w : World) (hL : L ≤ 2000) (hn : 1 ≤ n) (hn2 : n ≤ 1000) (hm : 0 ≤ m) (hm2 : m ≤ 1000000) (hc : Hid (∀ j, j < L → w.cell? ⟨g, j, none⟩ = some (.int .i64 (D j)))) (hd : Hid (Days D L m i1 i2)) :
    Calls Ybaf.prog 9 #[.slice (some ⟨g, 0, none⟩) L cap, .int .i64 m, .int .i64 n] w fun e w' => e = .returned (.tuple #[.int .i64 (dateS D L i1 i2 n).1, .bool (dateS D L i1 i2 n).2]) ∧ w' = w := by
  go_enter Ybaf.func9, Ybaf.ntmps9
  go_wp2_with fail
  go_loop [8, 9, 10, 11, 19] (fun c nt la lt i => ∃ k : Nat, k ≤ L ∧ i = .int .i64 k ∧ c = .int .i64 (cntK i1 i2 k) ∧ nt = .int .i64 (nthK D i1 i2 n k) ∧ la = .int .i64 (lastK D i1 i2 k) ∧ lt = .bool (decide (i2 < k))) (fun _ _ _ _ i => L - (intOf i).toNat)
  case atStart => exact ⟨0, Nat.zero_le _, rfl, by simp [cntK], by simp [nthK, cntK]; omega, by simp [lastK, cntK], by simp⟩
  case round =>
    obtain ⟨k, hk, rfl, rfl, rfl, rfl, rfl⟩ := hrel
    by_cases hlt : k < L
    · have hcell : w.cell? ⟨g, k, none⟩ = some (.int .i64 (D k)) := hc.out k hlt
      have hbd := hd.out.bd (k := k) hlt
      have hcb : cntK i1 i2 k ≤ k := by unfold cntK; omega
      by_cases h1 : k < i1
      · have hlt2 : Hid (D k / 100 < m) := hd.out.before h1
        have t1 : (D k / 100 == m) = false := by have := hlt2.out; simp; omega
        have t2 : ¬ m < D k / 100 := by have := hlt2.out; omega
        have hs : Hid _ := step1 (D := D) (i2 := i2) hn h1
        have hle := hd.out.le
        go_wp2
        go_round
        case rel => exact ⟨k + 1, by omega, by go_num, by rw [hs.out.1], by rw [hs.out.2.1], by rw [hs.out.2.2], by congr 1; simp; omega⟩
        case measure => simp [intOf]; omega
      · by_cases h2 : k < i2
        · have hin : Hid (D k / 100 = m) := hd.out.inside (by omega) h2
          have t1 : (D k / 100 == m) = true := by simp [hin.out]
          have hs : Hid _ := step2 (D := D) hn (Nat.le_of_not_lt h1) h2
          by_cases hq : cntK i1 i2 k + 1 = n
          · have hqb : ((cntK i1 i2 k : Int) + 1 == (n : Int)) = true := by simp; omega
            have HQ : Hid (cntK i1 i2 k + 1 = n) := hq
            clear hq
            go_wp2
            go_round
            case rel => exact ⟨k + 1, by omega, by go_num, by rw [hs.out.1]; go_num, by rw [hs.out.2.1 HQ.out], by rw [hs.out.2.2.2], by congr 1; simp; omega⟩
            case measure => simp [intOf]; omega
          · have hqb : ((cntK i1 i2 k : Int) + 1 == (n : Int)) = false := by simp; omega
            have HQ : Hid (¬ cntK i1 i2 k + 1 = n) := hq
            clear hq
            go_wp2
            go_round
            case rel => exact ⟨k + 1, by omega, by go_num, by rw [hs.out.1]; go_num, by rw [hs.out.2.2.1 HQ.out], by rw [hs.out.2.2.2], by congr 1; simp; omega⟩
            case measure => simp [intOf]; omega
        · have hbe : Hid (m < D k / 100) := hd.out.behind (by omega) hlt
          have t1 : (D k / 100 == m) = false := by have := hbe.out; simp; omega
          have t2 : m < D k / 100 := hbe.out
          have hs : Hid _ := step3 (D := D) (i1 := i1) (n := n) (Nat.le_of_not_lt h2)
          go_wp2
          go_round
          case rel => exact ⟨k + 1, by omega, by go_num, by rw [hs.out.1], by rw [hs.out.2.1], by rw [hs.out.2.2], by congr 1; simp; omega⟩
          case measure => simp [intOf]; omega
    · obtain rfl : k = L := by omega
      have hi2 := hd.out.p2.1
      by_cases q1 : n ≤ cntK i1 i2 k
      · go_wp2
        go_ret2
        exact ⟨ret2_of (dateS_end1 hi2 hn q1) rfl rfl, rfl⟩
      · by_cases q2 : 0 < cntK i1 i2 k
        · by_cases q3 : i2 < k
          · go_wp2
            go_ret2
            exact ⟨ret2_of (dateS_end2 hi2 hn q1 q2 q3) rfl rfl, rfl⟩
          · go_wp2
            go_ret2
            exact ⟨ret2_of (dateS_end3 hi2 hn q1 q3) rfl rfl, rfl⟩
        · go_wp2
          go_ret2
          exact ⟨ret2_of (dateS_end4 hi2 hn q2) rfl rfl, rfl⟩
end Go.Proofs.YbulkmouFmt
