/-
  OUR OWN WORK (an AI prover). The walks of the two laws, 'LawS0657CModel' (function 3) and 'LawS0657CNotBoth' (function 4), over the contracts.
-/
import Derived.Test.YbulkmouFmtCal
namespace Go.Proofs.YbulkmouFmt
open Go.ChangeShapes Go.WideShapes Go.ChangeAt Go.RowKit
set_option linter.unusedVariables false

/-- What the walks are told of the slice of steps. -/
structure Steps (w : World) (a0 : Option Addr) (b off len : Nat) (zs : List Int) : Prop where
  ao : 0 < len → a0 = some ⟨b, off, none⟩
  lt : 0 < len → b < w.heap.size
  cells : ∀ j, j < len → w.cell? ⟨b, off + j, none⟩ = some (.int .u8 (zs.getD j 0))
  bd : ∀ j, j < len → 0 ≤ zs.getD j 0 ∧ zs.getD j 0 ≤ 255
  len : zs.length = len

theorem days_here {w : World} {a0 : Option Addr} {b off len cap : Nat} {zs : List Int} (h : Steps w a0 b off len zs) (hL : len ≤ 1024) :
    Calls Ybaf.prog 5 #[.slice a0 len cap] w fun e w' => e = .returned (.slice (some ⟨w.heap.size, 0, none⟩) len len) ∧ w.heap.size < w'.heap.size ∧ (∀ j, j < len → w'.cell? ⟨w.heap.size, j, none⟩ = some (.int .i64 (dayAt zs j))) ∧ Below w.heap.size w w' := by
  refine (days_calls b off a0 len cap zs w h.len hL h.ao h.lt h.cells h.bd).mono ?_
  rintro e w' ⟨rfl, hown, hb⟩
  obtain ⟨g, cap', hv, _, hlt, hc⟩ := own_cells (D := dayAt zs) hown (fun e => by cases e)
  cases hv
  exact ⟨rfl, hlt, hc, hb⟩

theorem new_here {w : World} {g L cap : Nat} {zs : List Int} (hz : zs.length = L) (hL : L ≤ 1024) (hg : g < w.heap.size) (hc : ∀ j, j < L → w.cell? ⟨g, j, none⟩ = some (.int .i64 (dayAt zs j))) :
    Calls Ybaf.prog 6 #[.slice (some ⟨g, 0, none⟩) L cap] w fun e w' => ∃ cb g' cap', e = .returned (.tuple #[.pointer (some ⟨cb, 0, none⟩), .nilIface]) ∧ CalAt w' cb g' L cap' (dayAt zs) ∧ Below w.heap.size w w' :=
  new_calls g L cap (dayAt zs) w hL hg hc (fun j hj => dayAt_lt zs j (by omega))

theorem days_ex (zs : List Int) (L : Nat) (hz : zs.length = L) (hL : L ≤ 1024) (m : Int) : ∃ i1 i2, Days (dayAt zs) L m i1 i2 := by
  have hm : ∀ j k, j < k → k < L → dayAt zs j < dayAt zs k := fun j k h1 h2 => dayAt_lt' zs j k h1 (by omega)
  have hd : ∀ k, k < L → ∃ q r : Int, dayAt zs k = q * 100 + r ∧ 1 ≤ r ∧ r ≤ 28 ∧ 0 ≤ q ∧ q ≤ 1000000 := fun k hk => by
    have f := dayAt_facts zs k (by omega)
    exact ⟨_, _, f.1, f.2.1, f.2.2.1, by omega, by omega⟩
  obtain ⟨i1, h1⟩ := place_ex (dayAt zs) (m * 100) L hm (fun k hk => by obtain ⟨q, r, e, _⟩ := hd k hk; omega)
  obtain ⟨i2, h2⟩ := place_ex (dayAt zs) (m * 100 + 32) L hm (fun k hk => by obtain ⟨q, r, e, _⟩ := hd k hk; omega)
  exact ⟨i1, i2, h1, h2, hd⟩

theorem model_far (a0 : Option Addr) (len cap : Nat) (noCal : Bool) (mSel n dSel dDay : Int) (w : World) (hm : len ≤ maxLen) (h : 1024 < len ∨ n < -1000 ∨ 1000 < n) :
    Calls Ybaf.prog 3 #[.slice a0 len cap, .bool noCal, .int .u8 mSel, .int .i64 n, .int .u8 dSel, .int .u8 dDay] w fun e w' => e = .returned (.bool true) ∧ Below w.heap.size w w' := by
  unfold maxLen at hm
  by_cases h1 : 1024 < len
  · go_enter Ybaf.func3, Ybaf.ntmps3
    go_wp2
    go_ret
    exact ⟨rfl, Below.refl _ _⟩
  · have h1i : ¬ (1024 : Int) < (len : Int) := by omega
    by_cases h2 : n < -1000
    · go_enter Ybaf.func3, Ybaf.ntmps3
      go_wp2
      go_ret
      exact ⟨rfl, Below.refl _ _⟩
    · have h3 : 1000 < n := by omega
      go_enter Ybaf.func3, Ybaf.ntmps3
      go_wp2
      go_ret
      exact ⟨rfl, Below.refl _ _⟩

theorem model_nil (a0 : Option Addr) (b off len cap : Nat) (zs : List Int) (mSel n dSel dDay : Int) (w : World) (hS : Hid (Steps w a0 b off len zs)) (hL : len ≤ 1024) (h1 : -1000 ≤ n) (h2 : n ≤ 1000)
    (m0 : 0 ≤ mSel) (m1 : mSel ≤ 255) (d0 : 0 ≤ dSel) (d1 : dSel ≤ 255) (e0 : 0 ≤ dDay) (e1 : dDay ≤ 255) :
    Calls Ybaf.prog 3 #[.slice a0 len cap, .bool true, .int .u8 mSel, .int .i64 n, .int .u8 dSel, .int .u8 dDay] w fun e w' => e = .returned (.bool true) ∧ Below w.heap.size w w' := by
  have hbm := monthK_bd (mSel % 8).toNat
  have hbd := monthK_bd (dSel % 8).toNat
  go_enter Ybaf.func3, Ybaf.ntmps3
  go_wp2_with (go_at_call 5; refine (days_here hS.out hL).mono ?_; rintro e w1 ⟨rfl, hg1, hc1, hb1⟩)
  have HC := hide hc1
  have HB := hide hb1
  clear hc1 hb1
  go_wp2_with (go_at_call 6; refine (new_here hS.out.len hL hg1 HC.out).mono ?_; rintro e w2 ⟨cb, g, cap', rfl, hcal, hb2⟩)
  have HB2 := hide (HB.out.trans (hb2.mono (Nat.le_of_lt hg1)))
  clear hcal hb2
  go_wp2_with (first | (go_at_call 7; refine (month_calls _ _ (by omega) (by omega)).mono ?_; rintro e w3 ⟨rfl, hw⟩; obtain rfl := hw.symm) | (go_at_call 8; refine (before_nil _ _ _ _).mono ?_; rintro e w4 ⟨rfl, hb4⟩))
  go_ret
  exact ⟨rfl, (HB2.out.alloc HB2.out.size _).trans (hb4.mono (by have := HB2.out.size; simp; omega))⟩

/-- 'date' behind the calendar, in whatever later world, at whatever n. -/
theorem date_here {w : World} {cb g L cap i1 i2 : Nat} {D : Nat → Int} {m n : Int} (hL : L ≤ 2000) (h2 : n ≤ 1000) (hm : 0 ≤ m) (hm2 : m ≤ 1000000) (hcal : CalAt w cb g L cap D) (hd : Days D L m i1 i2) :
    Calls Ybaf.prog 14 #[.agg #[.int .i64 m, .int .i64 n], .pointer (some ⟨cb, 0, none⟩)] w fun e w' => e = .returned (.tuple #[.int .i64 (if n ≤ 0 then (0, false) else dateS D L i1 i2 n.toNat).1, .bool (if n ≤ 0 then (0, false) else dateS D L i1 i2 n.toNat).2]) ∧ w' = w.alloc (tdBox m n) := by
  by_cases hn : n ≤ 0
  · rw [if_pos hn]; exact date_zero cb m n w hn
  · rw [if_neg hn]
    obtain ⟨k, rfl⟩ := Int.eq_ofNat_of_zero_le (show 0 ≤ n by omega)
    rw [Int.toNat_natCast]
    exact date_pos cb g L cap i1 i2 k D m w hL (by omega) (by omega) hm hm2 hcal hd

theorem dateOf_here {w : World} {g L cap i1 i2 : Nat} {D : Nat → Int} {m n : Int} (hL : L ≤ 2000) (h2 : n ≤ 1000) (hm : 0 ≤ m) (hm2 : m ≤ 1000000) (hc : ∀ j, j < L → w.cell? ⟨g, j, none⟩ = some (.int .i64 (D j))) (hd : Days D L m i1 i2) :
    Calls Ybaf.prog 9 #[.slice (some ⟨g, 0, none⟩) L cap, .int .i64 m, .int .i64 n] w fun e w' => e = .returned (.tuple #[.int .i64 (if n ≤ 0 then (0, false) else dateS D L i1 i2 n.toNat).1, .bool (if n ≤ 0 then (0, false) else dateS D L i1 i2 n.toNat).2]) ∧ w' = w := by
  by_cases hn : n ≤ 0
  · rw [if_pos hn]; exact dateOf_zero g L cap m n w hn
  · rw [if_neg hn]
    obtain ⟨k, rfl⟩ := Int.eq_ofNat_of_zero_le (show 0 ≤ n by omega)
    rw [Int.toNat_natCast]
    exact dateOf_pos g L cap i1 i2 k D m w hL (by omega) (by omega) hm hm2 hc hd

/-- 'before' behind the calendar where the date is there, and where it is not. -/
theorem before_yes {w : World} {cb g L cap i1 i2 : Nat} {D : Nat → Int} {m n day date : Int} (hL : L ≤ 2000) (h2 : n ≤ 1000) (hm : 0 ≤ m) (hm2 : m ≤ 1000000) (hcal : CalAt w cb g L cap D) (hd : Days D L m i1 i2)
    (hr : (day, true) = if n ≤ 0 then (0, false) else dateS D L i1 i2 n.toNat) :
    Calls Ybaf.prog 8 #[.agg #[.int .i64 m, .int .i64 n], .pointer (some ⟨cb, 0, none⟩), .int .i64 date] w fun e w' => e = .returned (.bool (decide (day < date))) ∧ Below w.heap.size w w' := by
  have h := date_here (w := w.alloc (tdBox m n)) hL h2 hm hm2 (hcal.below ((Below.refl _ _).alloc (Nat.le_refl _) _)) hd
  rw [← hr] at h
  exact before_some cb m n date day w h
theorem before_no {w : World} {cb g L cap i1 i2 : Nat} {D : Nat → Int} {m n day date : Int} (hL : L ≤ 2000) (h2 : n ≤ 1000) (hm : 0 ≤ m) (hm2 : m ≤ 1000000) (q0 : 0 ≤ date) (q1 : date ≤ 1000000000) (hcal : CalAt w cb g L cap D) (hd : Days D L m i1 i2)
    (hr : (day, false) = if n ≤ 0 then (0, false) else dateS D L i1 i2 n.toNat) :
    Calls Ybaf.prog 8 #[.agg #[.int .i64 m, .int .i64 n], .pointer (some ⟨cb, 0, none⟩), .int .i64 date] w fun e w' => e = .returned (.bool (decide (0 < n) && decide (m < date / 100))) ∧ Below w.heap.size w w' := by
  have h := date_here (w := w.alloc (tdBox m n)) hL h2 hm hm2 (hcal.below ((Below.refl _ _).alloc (Nat.le_refl _) _)) hd
  have h0 : day = 0 := by
    unfold dateS at hr
    split at hr
    · simpa using hr
    · split at hr
      · simp at hr
      · split at hr
        · simp at hr
        · simpa using hr
  rw [← hr, h0] at h
  exact before_none cb m n date w q0 q1 h

set_option maxHeartbeats 400000 in
theorem model_cal (a0 : Option Addr) (b off len cap : Nat) (zs : List Int) (mSel n dSel dDay : Int) (w : World) (hS : Hid (Steps w a0 b off len zs)) (hL : len ≤ 1024) (h1 : -1000 ≤ n) (h2 : n ≤ 1000)
    (m0 : 0 ≤ mSel) (m1 : mSel ≤ 255) (d0 : 0 ≤ dSel) (d1 : dSel ≤ 255) (e0 : 0 ≤ dDay) (e1 : dDay ≤ 255) :
    Calls Ybaf.prog 3 #[.slice a0 len cap, .bool false, .int .u8 mSel, .int .i64 n, .int .u8 dSel, .int .u8 dDay] w fun e w' => e = .returned (.bool true) ∧ Below w.heap.size w w' := by
  have hbm := monthK_bd (mSel % 8).toNat
  have hbd := monthK_bd (dSel % 8).toNat
  obtain ⟨i1, i2, hdays0⟩ := days_ex zs len hS.out.len hL (monthK (mSel % 8).toNat)
  have HD := hide hdays0
  obtain ⟨r, hr⟩ : ∃ r, r = (if n ≤ 0 then (0, false) else dateS (dayAt zs) len i1 i2 n.toNat) := ⟨_, rfl⟩
  have HR := hide hr
  clear hdays0 hr
  have hmon1 := month_calls mSel
  have hmon2 := month_calls dSel
  generalize monthK (mSel % 8).toNat = m at *
  generalize monthK (dSel % 8).toNat = dm at *
  have HM1 := hide hmon1
  have HM2 := hide hmon2
  clear hmon1 hmon2
  obtain ⟨day, ok⟩ := r
  go_enter Ybaf.func3, Ybaf.ntmps3
  go_wp2_with (go_at_call 5; refine (days_here hS.out hL).mono ?_; rintro e w1 ⟨rfl, hg1, hc1, hb1⟩)
  have HC := hide hc1
  have HB := hide hb1
  clear hc1 hb1
  go_wp2_with (go_at_call 6; refine (new_here hS.out.len hL hg1 HC.out).mono ?_; rintro e w2 ⟨cb, g, cap', rfl, hcal, hb2⟩)
  have HB2 := hide (HB.out.trans (hb2.mono (Nat.le_of_lt hg1)))
  have HC2 : Hid (∀ j, j < len → w2.cell? ⟨w.heap.size, j, none⟩ = some (.int .i64 (dayAt zs j))) := fun j hj => (hb2.cell (p := ⟨w.heap.size, j, none⟩) hg1).trans (HC.out j hj)
  have HCAL := hide hcal
  have hs2 := hb2.size
  clear hcal hb2
  go_wp2_with fail
  refine (HM1.out _ (by omega) (by omega)).mono ?_
  rintro e w3 ⟨rfl, hw⟩
  obtain rfl := hw.symm
  go_wp2_with fail
  refine (HM2.out _ (by omega) (by omega)).mono ?_
  rintro e w3 ⟨rfl, hw⟩
  obtain rfl := hw.symm
  have HC3 := hide (HCAL.out.below ((Below.refl _ w2).alloc (Nat.le_refl _) (tdBox m n)))
  have HB3 := hide (HB2.out.alloc HB2.out.size (tdBox m n))
  have hsz : w.heap.size < w2.heap.size := by omega
  cases ok
  · by_cases hn : 0 < n
    · have hnd : decide (0 < n) = true := by simpa using hn
      go_wp2_with fail
      refine (before_no (by omega) h2 (by omega) (by omega) (by omega) (by omega) HC3.out HD.out HR.out).mono ?_
      rintro e w4 ⟨rfl, hb4⟩
      have HB4 := hide hb4
      have HC4 : Hid (∀ j, j < len → w4.cell? ⟨w.heap.size, j, none⟩ = some (.int .i64 (dayAt zs j))) := fun j hj => ((hb4.cell (p := ⟨w.heap.size, j, none⟩) (by simp; omega)).trans (World.cell?_alloc_past _ _ _ hsz)).trans (HC2.out j hj)
      clear hb4
      go_wp2_with fail
      have hdo := dateOf_here (w := w4) (cap := len) (m := m) (n := n) (by omega) h2 (by omega) (by omega) HC4.out HD.out
      rw [← HR.out] at hdo
      refine hdo.mono ?_
      rintro e w5 ⟨rfl, hw5⟩
      obtain rfl := hw5.symm
      clear hdo
      go_wp2
      go_ret
      exact ⟨rfl, HB3.out.trans (HB4.out.mono (by have := HB2.out.size; simp; omega))⟩
    · have hnd : decide (0 < n) = false := by simpa using hn
      go_wp2_with fail
      refine (before_no (by omega) h2 (by omega) (by omega) (by omega) (by omega) HC3.out HD.out HR.out).mono ?_
      rintro e w4 ⟨rfl, hb4⟩
      have HB4 := hide hb4
      have HC4 : Hid (∀ j, j < len → w4.cell? ⟨w.heap.size, j, none⟩ = some (.int .i64 (dayAt zs j))) := fun j hj => ((hb4.cell (p := ⟨w.heap.size, j, none⟩) (by simp; omega)).trans (World.cell?_alloc_past _ _ _ hsz)).trans (HC2.out j hj)
      clear hb4
      go_wp2_with fail
      have hdo := dateOf_here (w := w4) (cap := len) (m := m) (n := n) (by omega) h2 (by omega) (by omega) HC4.out HD.out
      rw [← HR.out] at hdo
      refine hdo.mono ?_
      rintro e w5 ⟨rfl, hw5⟩
      obtain rfl := hw5.symm
      clear hdo
      go_wp2
      go_ret
      exact ⟨rfl, HB3.out.trans (HB4.out.mono (by have := HB2.out.size; simp; omega))⟩
  · go_wp2_with fail
    refine (before_yes (by omega) h2 (by omega) (by omega) HC3.out HD.out HR.out).mono ?_
    rintro e w4 ⟨rfl, hb4⟩
    have HB4 := hide hb4
    have HC4 : Hid (∀ j, j < len → w4.cell? ⟨w.heap.size, j, none⟩ = some (.int .i64 (dayAt zs j))) := fun j hj => ((hb4.cell (p := ⟨w.heap.size, j, none⟩) (by simp; omega)).trans (World.cell?_alloc_past _ _ _ hsz)).trans (HC2.out j hj)
    clear hb4
    go_wp2_with fail
    have hdo := dateOf_here (w := w4) (cap := len) (m := m) (n := n) (by omega) h2 (by omega) (by omega) HC4.out HD.out
    rw [← HR.out] at hdo
    refine hdo.mono ?_
    rintro e w5 ⟨rfl, hw5⟩
    obtain rfl := hw5.symm
    clear hdo
    go_wp2
    go_ret
    exact ⟨rfl, HB3.out.trans (HB4.out.mono (by have := HB2.out.size; simp; omega))⟩

theorem both_far (a0 : Option Addr) (len cap : Nat) (mSel n dSel dDay : Int) (w : World) (hm : len ≤ maxLen) (h : 1024 < len ∨ n < -1000 ∨ 1000 < n) :
    Calls Ybaf.prog 4 #[.slice a0 len cap, .int .u8 mSel, .int .i64 n, .int .u8 dSel, .int .u8 dDay] w fun e w' => e = .returned (.bool true) ∧ Below w.heap.size w w' := by
  unfold maxLen at hm
  by_cases h1 : 1024 < len
  · go_enter Ybaf.func4, Ybaf.ntmps4
    go_wp2
    go_ret
    exact ⟨rfl, Below.refl _ _⟩
  · have h1i : ¬ (1024 : Int) < (len : Int) := by omega
    by_cases h2 : n < -1000
    · go_enter Ybaf.func4, Ybaf.ntmps4
      go_wp2
      go_ret
      exact ⟨rfl, Below.refl _ _⟩
    · have h3 : 1000 < n := by omega
      go_enter Ybaf.func4, Ybaf.ntmps4
      go_wp2
      go_ret
      exact ⟨rfl, Below.refl _ _⟩

/-- 'is' behind the calendar. -/
theorem is_here {w : World} {cb g L cap i1 i2 : Nat} {D : Nat → Int} {m n day date : Int} {ok : Bool} (hL : L ≤ 2000) (h2 : n ≤ 1000) (hm : 0 ≤ m) (hm2 : m ≤ 1000000) (hcal : CalAt w cb g L cap D) (hd : Days D L m i1 i2)
    (hr : (day, ok) = if n ≤ 0 then (0, false) else dateS D L i1 i2 n.toNat) :
    Calls Ybaf.prog 10 #[.agg #[.int .i64 m, .int .i64 n], .pointer (some ⟨cb, 0, none⟩), .int .i64 date] w fun e w' => e = .returned (.bool (ok && date == day)) ∧ Below w.heap.size w w' := by
  have h := date_here (w := w.alloc (tdBox m n)) hL h2 hm hm2 (hcal.below ((Below.refl _ _).alloc (Nat.le_refl _) _)) hd
  rw [← hr] at h
  exact is_calls cb m n date day ok w h

/-- 'before' in one word, and that where it says yes 'is' says no. -/
theorem before_any {w : World} {cb g L cap i1 i2 : Nat} {D : Nat → Int} {m n day date : Int} {ok : Bool} (hL : L ≤ 2000) (h2 : n ≤ 1000) (hm : 0 ≤ m) (hm2 : m ≤ 1000000) (q0 : 0 ≤ date) (q1 : date ≤ 1000000000) (hcal : CalAt w cb g L cap D) (hd : Days D L m i1 i2)
    (hr : (day, ok) = if n ≤ 0 then (0, false) else dateS D L i1 i2 n.toNat) :
    ∃ y : Bool, (y = true → (ok && date == day) = false) ∧ Calls Ybaf.prog 8 #[.agg #[.int .i64 m, .int .i64 n], .pointer (some ⟨cb, 0, none⟩), .int .i64 date] w fun e w' => e = .returned (.bool y) ∧ Below w.heap.size w w' := by
  cases ok
  · exact ⟨_, fun _ => rfl, before_no hL h2 hm hm2 q0 q1 hcal hd hr⟩
  · refine ⟨_, fun h => ?_, before_yes hL h2 hm hm2 hcal hd hr⟩
    have : day < date := by simpa using h
    simp; omega

set_option maxHeartbeats 400000 in
theorem both_cal (a0 : Option Addr) (b off len cap : Nat) (zs : List Int) (mSel n dSel dDay : Int) (w : World) (hS : Hid (Steps w a0 b off len zs)) (hL : len ≤ 1024) (h1 : -1000 ≤ n) (h2 : n ≤ 1000)
    (m0 : 0 ≤ mSel) (m1 : mSel ≤ 255) (d0 : 0 ≤ dSel) (d1 : dSel ≤ 255) (e0 : 0 ≤ dDay) (e1 : dDay ≤ 255) :
    Calls Ybaf.prog 4 #[.slice a0 len cap, .int .u8 mSel, .int .i64 n, .int .u8 dSel, .int .u8 dDay] w fun e w' => e = .returned (.bool true) ∧ Below w.heap.size w w' := by
  have hbm := monthK_bd (mSel % 8).toNat
  have hbd := monthK_bd (dSel % 8).toNat
  obtain ⟨i1, i2, hdays0⟩ := days_ex zs len hS.out.len hL (monthK (mSel % 8).toNat)
  have HD := hide hdays0
  obtain ⟨r, hr⟩ : ∃ r, r = (if n ≤ 0 then (0, false) else dateS (dayAt zs) len i1 i2 n.toNat) := ⟨_, rfl⟩
  have HR := hide hr
  clear hdays0 hr
  have hmon1 := month_calls mSel
  have hmon2 := month_calls dSel
  generalize monthK (mSel % 8).toNat = m at *
  generalize monthK (dSel % 8).toNat = dm at *
  have HM1 := hide hmon1
  have HM2 := hide hmon2
  clear hmon1 hmon2
  obtain ⟨day, ok⟩ := r
  go_enter Ybaf.func4, Ybaf.ntmps4
  go_wp2_with (go_at_call 5; refine (days_here hS.out hL).mono ?_; rintro e w1 ⟨rfl, hg1, hc1, hb1⟩)
  have HC := hide hc1
  have HB := hide hb1
  clear hc1 hb1
  go_wp2_with (go_at_call 6; refine (new_here hS.out.len hL hg1 HC.out).mono ?_; rintro e w2 ⟨cb, g, cap', rfl, hcal, hb2⟩)
  have HB2 := hide (HB.out.trans (hb2.mono (Nat.le_of_lt hg1)))
  have HCAL := hide hcal
  have hs2 := hb2.size
  clear hcal hb2
  go_wp2_with fail
  refine (HM1.out _ (by omega) (by omega)).mono ?_
  rintro e w3 ⟨rfl, hw⟩
  obtain rfl := hw.symm
  go_wp2_with fail
  refine (HM2.out _ (by omega) (by omega)).mono ?_
  rintro e w3 ⟨rfl, hw⟩
  obtain rfl := hw.symm
  have HC3 := hide (HCAL.out.below ((Below.refl _ w2).alloc (Nat.le_refl _) (tdBox m n)))
  have HB3 := hide (HB2.out.alloc HB2.out.size (tdBox m n))
  have hsz : w.heap.size < w2.heap.size := by omega
  obtain ⟨y, hy, hbef⟩ := before_any (date := dm * 100 + dDay % 30) (by omega) h2 (by omega) (by omega) (by omega) (by omega) HC3.out HD.out HR.out
  have HY := hide hy
  have HBF := hide hbef
  clear hy hbef
  have hboxc : ∀ w4, Below (w2.alloc (tdBox m n)).heap.size (w2.alloc (tdBox m n)) w4 → w4.cell? ⟨w2.heap.size, 0, none⟩ = some (.int .i64 m) ∧ w4.cell? ⟨w2.heap.size, 1, none⟩ = some (.int .i64 n) := fun w4 h4 =>
    ⟨(h4.cell (p := ⟨w2.heap.size, 0, none⟩) (by simp)).trans (World.cell?_alloc_at _ _ _ _ rfl), (h4.cell (p := ⟨w2.heap.size, 1, none⟩) (by simp)).trans (World.cell?_alloc_at _ _ _ _ rfl)⟩
  have HBX := hide hboxc
  clear hboxc
  cases y
  · go_wp2_with fail
    refine HBF.out.mono ?_
    rintro e w4 ⟨rfl, hb4⟩
    have HB4 := hide hb4
    clear hb4
    go_wp2
    go_ret
    exact ⟨rfl, HB3.out.trans (HB4.out.mono (by have := HB2.out.size; simp; omega))⟩
  · obtain ⟨z, hz, HIS0⟩ : ∃ z, z = false ∧ (∀ w', CalAt w' cb g len cap' (dayAt zs) → Calls Ybaf.prog 10 #[.agg #[.int .i64 m, .int .i64 n], .pointer (some ⟨cb, 0, none⟩), .int .i64 (dm * 100 + dDay % 30)] w' fun e w'' => e = .returned (.bool z) ∧ Below w'.heap.size w' w'') :=
      ⟨_, HY.out rfl, fun w' hcal => is_here (by omega) h2 (by omega) (by omega) hcal HD.out HR.out⟩
    subst hz
    have HIS1 := hide HIS0
    clear HIS0
    go_wp2_with fail
    refine HBF.out.mono ?_
    rintro e w4 ⟨rfl, hb4⟩
    have HB4 := hide hb4
    obtain ⟨bx0, bx1⟩ := HBX.out w4 hb4
    have HIS := hide (HIS1.out w4 (HC3.out.below hb4))
    clear hb4
    go_wp2_with fail
    refine HIS.out.mono ?_
    rintro e w5 ⟨rfl, hb5⟩
    have HB5 := hide hb5
    clear hb5
    go_wp2
    go_ret
    exact ⟨rfl, HB3.out.trans ((HB4.out.mono (by have := HB2.out.size; simp; omega)).trans (HB5.out.mono (by have := HB4.out.size; have := HB2.out.size; simp at *; omega)))⟩
end Go.Proofs.YbulkmouFmt
