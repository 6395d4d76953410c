/-
  OUR OWN WORK (an AI prover). The contracts of '(*blocks[int]).grow' (function 4) at the shapes in which the law calls it: there is room; there is none and the free row serves; there is none and a new row is made.
-/
import Derived.Test.YbulkmouRows
import Derived.WalkKit
import Derived.WalkSpells
import Derived.ProofKit
import Derived.OpenShut
import Derived.Below
import Derived.Deep.OwnRows
import Derived.Lib.JoinLaws
namespace Go.Proofs.Ybulkmou
open Go.ChangeShapes Go.WideShapes Go.ChangeAt Go.RowKit
set_option linter.unusedVariables false
theorem Yba.info3 : (Yba.prog.info? 3).map (fun i => (i.zero, i.size, i.bytes)) = some (some (.int .i64 0), 1, 8) := by kernel_rfl

theorem grow_room (bb sb L C : Nat) (w : World) (h : L < C) (hC : C ≤ 2000) :
    Calls Yba.prog 4 #[.pointer (some ⟨bb, 0, none⟩), .slice (some ⟨sb, 0, none⟩) L C] w fun e w' => e = .returned (.slice (some ⟨sb, 0, none⟩) L C) ∧ w' = w := by
  go_enter Yba.func4, Yba.ntmps4
  go_wp2
  go_ret
  exact ⟨rfl, rfl⟩

/-- THERE IS NO ROOM, AND THE FREE ROW IS LONG ENOUGH (L at least 1: n = 2 * L). -/
theorem grow_b1 (bb fb fl sb L : Nat) (news : List Value) (w : World) (hL : 1 ≤ L) (hL2 : L ≤ 1024)
   (c1 : w.cell? ⟨bb, 1, none⟩ = some (.slice (some ⟨fb, 0, none⟩) fl fl)) (f1 : w.frozen? ⟨bb, 1, none⟩ = false)
   (hfl : fl < 512) (hn : 2 * L ≤ fl) (hsrc : Hid (Src Yba.prog 1 22 (.slice (some ⟨sb, 0, none⟩) L L) L news w))
   (hc : Hid (∀ j, j < news.length → (w.cell? ⟨fb, 0 + 0 + j, none⟩).isSome = true)) (hf : Hid (∀ j, j < news.length → w.frozen? ⟨fb, 0 + 0 + j, none⟩ = false)) (hne : bb ≠ fb) :
    Calls Yba.prog 4 #[.pointer (some ⟨bb, 0, none⟩), .slice (some ⟨sb, 0, none⟩) L L] w fun e w' => e = .returned (.slice (some ⟨fb, 0, none⟩) L (2 * L)) ∧ ∃ A, w' = (w.setCells fb 0 news).setCell ⟨bb, 1, none⟩ (.slice A (fl - 2 * L) (fl - 2 * L)) := by
  have d1 : (w.setCells fb 0 news).cell? ⟨bb, 1, none⟩ = some (.slice (some ⟨fb, 0, none⟩) fl fl) := by
    rw [World.cell?_setCells_out _ _ _ _ _ (fun h => absurd h hne)]; exact c1
  have d2 : (w.setCells fb 0 news).frozen? ⟨bb, 1, none⟩ = false := by rw [World.frozen?_setCells]; exact f1
  go_enter Yba.func4, Yba.ntmps4
  go_wp2_with (at_builtin; refine wpList_append_room1 _ rfl (.tmp 39) (.tmp 40) 22 22 rfl 3 (.int .i64 0) 8 Yba.underlying22 Yba.info3 fb 0 0 _ rfl _ rfl L news hsrc.out (by omega) hc.out hf.out ?_)
  all_goals (go_ret; exact ⟨rfl, _, rfl⟩)

/-- The same at L = 0: n = 1. -/
theorem grow_b0 (bb fb fl sb : Nat) (w : World)
   (c1 : w.cell? ⟨bb, 1, none⟩ = some (.slice (some ⟨fb, 0, none⟩) fl fl)) (f1 : w.frozen? ⟨bb, 1, none⟩ = false)
   (hfl : fl < 512) (hn : 1 ≤ fl) (hsrc : Hid (Src Yba.prog 1 22 (.slice (some ⟨sb, 0, none⟩) 0 0) 0 [] w)) :
    Calls Yba.prog 4 #[.pointer (some ⟨bb, 0, none⟩), .slice (some ⟨sb, 0, none⟩) 0 0] w fun e w' => e = .returned (.slice (some ⟨fb, 0, none⟩) 0 1) ∧ ∃ A, w' = w.setCell ⟨bb, 1, none⟩ (.slice A (fl - 1) (fl - 1)) := by
  have hs0 : w.setCells fb (0 + 0) [] = w := rfl
  go_enter Yba.func4, Yba.ntmps4
  go_wp2_with (at_builtin; refine wpList_append_room1 _ rfl (.tmp 39) (.tmp 40) 22 22 rfl 3 (.int .i64 0) 8 Yba.underlying22 Yba.info3 fb 0 0 _ rfl _ rfl 0 [] hsrc.out (by omega) (by simp) (by simp) ?_; rw [hs0])
  all_goals (go_ret; exact ⟨rfl, _, rfl⟩)

/-- The new row as 'make' lays it. -/
abbrev made (m : Nat) : Obj := .cells (madeCells #[.int .i64 0] m) 3
/-- The world in which the call appends: the new row made, and laid into the struct's field. -/
def mid (w : World) (bb m : Nat) : World := (w.setCell ⟨bb, 1, none⟩ (.slice (some ⟨w.heap.size, 0, none⟩) m m)).alloc (made m)

theorem mid_cell (w : World) (bb m sb j : Nat) (hsb : sb < w.heap.size) (hne : sb ≠ bb) : (mid w bb m).cell? ⟨sb, j, none⟩ = w.cell? ⟨sb, j, none⟩ := by
  have hb : Below (w.heap.size) (w.setCell ⟨bb, 1, none⟩ (.slice (some ⟨w.heap.size, 0, none⟩) m m)) (mid w bb m) := (Below.refl _ _).alloc (by simp) _
  rw [hb.cell (p := ⟨sb, j, none⟩) hsb]
  exact World.cell?_of_block (w := w) (Below.heap_setCell _ _ _ _ hne)

/-- What lies behind the call where a new row was made. -/
theorem mid_row (w : World) (bb m j : Nat) (hj : j < m) : (mid w bb m).cell? ⟨w.heap.size, j, none⟩ = some (.int .i64 0) := by
  have h := World.rowIs_made (w.setCell ⟨bb, 1, none⟩ (.slice (some ⟨w.heap.size, 0, none⟩) m m)) (.int .i64 0) m 3
  have e : (w.setCell ⟨bb, 1, none⟩ (.slice (some ⟨w.heap.size, 0, none⟩) m m)).heap.size = w.heap.size := by simp
  rw [e] at h
  exact h.cell hj
theorem mid_frozen (w : World) (bb m j : Nat) : (mid w bb m).frozen? ⟨w.heap.size, j, none⟩ = false := by
  have h := World.rowIs_made (w.setCell ⟨bb, 1, none⟩ (.slice (some ⟨w.heap.size, 0, none⟩) m m)) (.int .i64 0) m 3
  have e : (w.setCell ⟨bb, 1, none⟩ (.slice (some ⟨w.heap.size, 0, none⟩) m m)).heap.size = w.heap.size := by simp
  rw [e] at h
  exact h.frozen j
theorem mid_field (w : World) (bb m : Nat) (hbb : bb < w.heap.size) {v : Value} (c1 : w.cell? ⟨bb, 1, none⟩ = some v) : (mid w bb m).cell? ⟨bb, 1, none⟩ = some (.slice (some ⟨w.heap.size, 0, none⟩) m m) := by
  have hb : Below (w.heap.size) (w.setCell ⟨bb, 1, none⟩ (.slice (some ⟨w.heap.size, 0, none⟩) m m)) (mid w bb m) := (Below.refl _ _).alloc (by simp) _
  rw [hb.cell (p := ⟨bb, 1, none⟩) hbb]
  exact World.cell?_setCell_same _ _ _ c1
theorem mid_free (w : World) (bb m : Nat) (hbb : bb < w.heap.size) (f1 : w.frozen? ⟨bb, 1, none⟩ = false) : (mid w bb m).frozen? ⟨bb, 1, none⟩ = false := by
  have hb : Below (w.heap.size) (w.setCell ⟨bb, 1, none⟩ (.slice (some ⟨w.heap.size, 0, none⟩) m m)) (mid w bb m) := (Below.refl _ _).alloc (by simp) _
  rw [hb.frozen (p := ⟨bb, 1, none⟩) hbb]
  simpa using f1

/-- THERE IS NO ROOM, AND THE FREE ROW IS TOO SHORT (L at least 1: n = 2 * L): a new row of m = max(n, size). -/
theorem grow_c1 (bb fb fl sb L m sz : Nat) (news : List Value) (w : World) (hL : 1 ≤ L) (hL2 : L ≤ 1024) (hsz : sz < 300)
   (c0 : w.cell? ⟨bb, 0, none⟩ = some (.int .i64 sz)) (c1 : w.cell? ⟨bb, 1, none⟩ = some (.slice (some ⟨fb, 0, none⟩) fl fl)) (f1 : w.frozen? ⟨bb, 1, none⟩ = false)
   (hfl : fl < 512) (hn : fl < 2 * L) (hm : (sz ≤ 2 * L ∧ m = 2 * L) ∨ (2 * L < sz ∧ m = sz)) (hln : news.length = L) (hsrc : Hid (Src Yba.prog 1 22 (.slice (some ⟨sb, 0, none⟩) L L) L news (mid w bb m))) (hbb : bb < w.heap.size) :
    Calls Yba.prog 4 #[.pointer (some ⟨bb, 0, none⟩), .slice (some ⟨sb, 0, none⟩) L L] w fun e w' => e = .returned (.slice (some ⟨w.heap.size, 0, none⟩) L (2 * L)) ∧ ∃ A, w' = ((mid w bb m).setCells w.heap.size 0 news).setCell ⟨bb, 1, none⟩ (.slice A (m - 2 * L) (m - 2 * L)) := by
  have hmk := run_make_row' (P := Yba.prog) 22 3 (.int .i64 0) 8 Yba.underlying22 Yba.info3 rfl .i64 .i64 m (by omega) (by omega)
  have hm2 : 2 * L ≤ m := by omega
  have hm3 : m ≤ 2048 := by omega
  have d1 : (((w.setCell ⟨bb, 1, none⟩ (.slice (some ⟨w.heap.size, 0, none⟩) m m)).alloc (made m)).setCells w.heap.size 0 news).cell? ⟨bb, 1, none⟩ = some (.slice (some ⟨w.heap.size, 0, none⟩) m m) := by
    rw [World.cell?_setCells_out _ _ _ _ _ (fun h => absurd h (by simp; omega))]; exact mid_field w bb m hbb c1
  have d2 : (((w.setCell ⟨bb, 1, none⟩ (.slice (some ⟨w.heap.size, 0, none⟩) m m)).alloc (made m)).setCells w.heap.size 0 news).frozen? ⟨bb, 1, none⟩ = false := by rw [World.frozen?_setCells]; exact mid_free w bb m hbb f1
  have hc : Hid (∀ j, j < news.length → ((mid w bb m).cell? ⟨w.heap.size, 0 + 0 + j, none⟩).isSome = true) := fun j hj => by
    rw [show 0 + 0 + j = j from by omega, mid_row w bb m j (by omega)]; rfl
  have hf : Hid (∀ j, j < news.length → (mid w bb m).frozen? ⟨w.heap.size, 0 + 0 + j, none⟩ = false) := fun j hj => mid_frozen w bb m _
  clear hln
  rcases hm with ⟨h1, rfl⟩ | ⟨h1, rfl⟩
  · rw [show ((2 * L : Nat) : Int) = 2 * (L : Int) from by omega] at hmk
    go_enter Yba.func4, Yba.ntmps4
    go_wp2_with (at_builtin; refine wpList_append_room1 (mid w bb (2 * L)) rfl (.tmp 39) (.tmp 40) 22 22 rfl 3 (.int .i64 0) 8 Yba.underlying22 Yba.info3 w.heap.size 0 0 _ rfl _ rfl L news hsrc.out (by omega) hc.out hf.out ?_; unfold mid)
    all_goals (go_ret; exact ⟨rfl, _, by rw [Nat.sub_self]; rfl⟩)
  · go_enter Yba.func4, Yba.ntmps4
    go_wp2_with (at_builtin; refine wpList_append_room1 (mid w bb m) rfl (.tmp 39) (.tmp 40) 22 22 rfl 3 (.int .i64 0) 8 Yba.underlying22 Yba.info3 w.heap.size 0 0 _ rfl _ rfl L news hsrc.out (by omega) hc.out hf.out ?_; unfold mid)
    all_goals (go_ret; exact ⟨rfl, _, rfl⟩)

/-- The same at L = 0: n = 1. -/
theorem grow_c0 (bb fb sb m sz : Nat) (w : World) (hsz : sz < 300)
   (c0 : w.cell? ⟨bb, 0, none⟩ = some (.int .i64 sz)) (c1 : w.cell? ⟨bb, 1, none⟩ = some (.slice (some ⟨fb, 0, none⟩) 0 0)) (f1 : w.frozen? ⟨bb, 1, none⟩ = false)
   (hm : (sz ≤ 1 ∧ m = 1) ∨ (1 < sz ∧ m = sz)) (hsrc : Hid (Src Yba.prog 1 22 (.slice (some ⟨sb, 0, none⟩) 0 0) 0 [] (mid w bb m))) (hbb : bb < w.heap.size) :
    Calls Yba.prog 4 #[.pointer (some ⟨bb, 0, none⟩), .slice (some ⟨sb, 0, none⟩) 0 0] w fun e w' => e = .returned (.slice (some ⟨w.heap.size, 0, none⟩) 0 1) ∧ ∃ A, w' = (mid w bb m).setCell ⟨bb, 1, none⟩ (.slice A (m - 1) (m - 1)) := by
  have hmk := run_make_row' (P := Yba.prog) 22 3 (.int .i64 0) 8 Yba.underlying22 Yba.info3 rfl .i64 .i64 m (by omega) (by omega)
  have hm2 : 1 ≤ m := by omega
  have hm3 : m ≤ 2048 := by omega
  have d1 : ((w.setCell ⟨bb, 1, none⟩ (.slice (some ⟨w.heap.size, 0, none⟩) m m)).alloc (made m)).cell? ⟨bb, 1, none⟩ = some (.slice (some ⟨w.heap.size, 0, none⟩) m m) := mid_field w bb m hbb c1
  have d2 : ((w.setCell ⟨bb, 1, none⟩ (.slice (some ⟨w.heap.size, 0, none⟩) m m)).alloc (made m)).frozen? ⟨bb, 1, none⟩ = false := mid_free w bb m hbb f1
  have hs0 : ∀ w : World, w.setCells w.heap.size (0 + 0) [] = w := fun _ => rfl
  rcases hm with ⟨h1, rfl⟩ | ⟨h1, rfl⟩
  · rw [show ((1 : Nat) : Int) = 1 from rfl] at hmk
    go_enter Yba.func4, Yba.ntmps4
    go_wp2_with (at_builtin; refine wpList_append_room1 (mid w bb 1) rfl (.tmp 39) (.tmp 40) 22 22 rfl 3 (.int .i64 0) 8 Yba.underlying22 Yba.info3 w.heap.size 0 0 _ rfl _ rfl 0 [] hsrc.out (by omega) (by simp) (by simp) ?_; change wpList _ _ _ _ _ (mid w bb 1); unfold mid)
    all_goals (go_ret; exact ⟨rfl, _, by unfold mid; rw [World.setCell_alloc_past _ _ _ _ (by simpa using hbb)]⟩)
  · go_enter Yba.func4, Yba.ntmps4
    go_wp2_with (at_builtin; refine wpList_append_room1 (mid w bb m) rfl (.tmp 39) (.tmp 40) 22 22 rfl 3 (.int .i64 0) 8 Yba.underlying22 Yba.info3 w.heap.size 0 0 _ rfl _ rfl 0 [] hsrc.out (by omega) (by simp) (by simp) ?_; change wpList _ _ _ _ _ (mid w bb m); unfold mid)
    all_goals (go_ret; exact ⟨rfl, _, by unfold mid; rw [World.setCell_alloc_past _ _ _ _ (by simpa using hbb)]⟩)

theorem src_of (L sb : Nat) (zs : List Int) (w : World) (hl : zs.length = L) (hs : ∀ j, j < L → w.cell? ⟨sb, j, none⟩ = some (.int .i64 (zs.getD j 0))) : Src Yba.prog 1 22 (.slice (some ⟨sb, 0, none⟩) L L) L (zs.map (Value.int .i64)) w := by
  refine Src.ofSlice w Yba.underlying22 ⟨sb, 0, none⟩ L L _ (by simp [hl]) (fun j u hj => ?_) (ints_oneCell _ _)
  have hjl : j < L := by have := (List.getElem?_eq_some_iff.1 hj).1; simpa [hl] using this
  rw [Addr.add_lit, Nat.zero_add, hs j hjl]
  have hj' : j < zs.length := by omega
  simp [hj'] at hj
  simp [hj', hj]

/-- What the law wants of 'got' where there was no room. -/
def Got (bb fb fl L n sz : Nat) (zs : List Int) (w w' : World) (gb fl' : Nat) : Prop :=
  (n ≤ fl → gb = fb ∧ fl' = fl - n) ∧ (fl < n → gb = w.heap.size ∧ ((sz ≤ n ∧ fl' = 0) ∨ (n < sz ∧ fl' = sz - n))) ∧
  (∀ j, j < L → w'.cell? ⟨gb, j, none⟩ = some (.int .i64 (zs.getD j 0))) ∧ (∃ A, w'.cell? ⟨bb, 1, none⟩ = some (.slice A fl' fl')) ∧
  (∀ B, B ≤ bb → B ≤ fb → B ≤ w.heap.size → Below B w w') ∧ (∃ ca, w'.heap[gb]? = some (.cells ca 3 (0, 0))) ∧ (∃ cb, w'.heap[fb]? = some (.cells cb 3 (0, 0)))

/-- A row stays a row behind stores. -/
theorem row_setCell {w : World} {g t : Nat} {f : Nat × Nat} (p : Addr) (v : Value) (h : ∃ c, w.heap[g]? = some (.cells c t f)) : ∃ c, (w.setCell p v).heap[g]? = some (.cells c t f) := by
  obtain ⟨c, hc⟩ := h
  by_cases e : g = p.block
  · subst e
    simp only [World.setCell, Array.getElem?_modify, hc]
    exact ⟨_, rfl⟩
  · exact ⟨c, by rw [Below.heap_setCell _ _ _ _ e]; exact hc⟩
theorem row_setCells {g t : Nat} {f : Nat × Nat} (b o : Nat) (vs : List Value) (w : World) (h : ∃ c, w.heap[g]? = some (.cells c t f)) : ∃ c, (w.setCells b o vs).heap[g]? = some (.cells c t f) := by
  induction vs generalizing o w with
  | nil => exact h
  | cons v vs ih => exact ih (o + 1) _ (row_setCell _ v h)
theorem row_alloc {w : World} {g t : Nat} {f : Nat × Nat} (o : Obj) (h : ∃ c, w.heap[g]? = some (.cells c t f)) : ∃ c, (w.alloc o).heap[g]? = some (.cells c t f) := by
  obtain ⟨c, hc⟩ := h
  have hlt : g < w.heap.size := by
    obtain ⟨h1, _⟩ := Array.getElem?_eq_some_iff.1 hc
    exact h1
  exact ⟨c, by rw [Below.heap_alloc _ _ _ hlt]; exact hc⟩
theorem row_mid_new (w : World) (bb m : Nat) : ∃ c, (mid w bb m).heap[w.heap.size]? = some (.cells c 3 (0, 0)) := by
  have e : (w.setCell ⟨bb, 1, none⟩ (.slice (some ⟨w.heap.size, 0, none⟩) m m)).heap.size = w.heap.size := by simp
  exact ⟨_, by
    have := heap_alloc_new (w.setCell ⟨bb, 1, none⟩ (.slice (some ⟨w.heap.size, 0, none⟩) m m)) (made m)
    rw [e] at this
    exact this⟩

theorem below_setCells (B b o : Nat) (vs : List Value) (w : World) (h : B ≤ b) : Below B w (w.setCells b o vs) := by
  induction vs generalizing o w with
  | nil => exact Below.refl _ _
  | cons v vs ih => exact ((Below.refl B w).setCell (p := ⟨b, o, none⟩) h v).trans (ih (o + 1) _)

theorem row_in (b L m : Nat) (zs : List Int) (w : World) (hl : zs.length = L) (hm : L ≤ m) (hs : ∀ j, j < m → (w.cell? ⟨b, j, none⟩).isSome = true) (j : Nat) (hj : j < L) :
    (w.setCells b 0 (zs.map (Value.int .i64))).cell? ⟨b, j, none⟩ = some (.int .i64 (zs.getD j 0)) := by
  have h := World.cell?_setCells_in b (zs.map (Value.int .i64)) 0 w (fun k hk => by rw [Nat.zero_add]; exact hs k (by simp at hk; omega)) j (by simp; omega)
  rw [Nat.zero_add] at h
  rw [h]
  have hj' : j < zs.length := by omega
  simp [hj']

/-- 'grow' WHERE THERE IS NO ROOM, IN ONE WORD. -/
theorem grow_full (bb fb fl sb L n sz : Nat) (zs : List Int) (w : World) (hl : zs.length = L) (hL2 : L ≤ 1024) (hsz : sz < 300) (hfl : fl < 512) (hLn : (L = 0 ∧ n = 1) ∨ (1 ≤ L ∧ n = 2 * L))
    (c0 : w.cell? ⟨bb, 0, none⟩ = some (.int .i64 sz)) (c1 : w.cell? ⟨bb, 1, none⟩ = some (.slice (some ⟨fb, 0, none⟩) fl fl)) (f1 : w.frozen? ⟨bb, 1, none⟩ = false)
    (hs : ∀ j, j < L → w.cell? ⟨sb, j, none⟩ = some (.int .i64 (zs.getD j 0))) (hr : ∀ j, j < fl → (w.cell? ⟨fb, j, none⟩).isSome = true) (hf : ∀ j, w.frozen? ⟨fb, j, none⟩ = false)
    (hbb : bb < w.heap.size) (hsb : sb < w.heap.size) (hne : bb ≠ fb) (hne2 : sb ≠ bb) (hrow : ∃ c, w.heap[fb]? = some (.cells c 3 (0, 0))) :
    Calls Yba.prog 4 #[.pointer (some ⟨bb, 0, none⟩), .slice (some ⟨sb, 0, none⟩) L L] w fun e w' => ∃ gb fl', e = .returned (.slice (some ⟨gb, 0, none⟩) L n) ∧ Got bb fb fl L n sz zs w w' gb fl' := by
  rcases hLn with ⟨rfl, rfl⟩ | ⟨hL, rfl⟩
  · obtain rfl : zs = [] := List.eq_nil_of_length_eq_zero hl
    by_cases hn : 1 ≤ fl
    · refine (grow_b0 bb fb fl sb w c1 f1 hfl hn (src_of 0 sb [] w rfl hs)).mono ?_
      rintro e w' ⟨rfl, A, rfl⟩
      exact ⟨fb, fl - 1, rfl, fun _ => ⟨rfl, rfl⟩, fun h => absurd h (by omega), fun j hj => absurd hj (by omega), ⟨A, World.cell?_setCell_same _ _ _ c1⟩, fun B h1 h2 h3 => (Below.refl _ _).setCell h1 _, row_setCell _ _ hrow, row_setCell _ _ hrow⟩
    · obtain rfl : fl = 0 := by omega
      have hfin : ∀ m, ((sz ≤ 1 ∧ m = 1) ∨ (1 < sz ∧ m = sz)) → Calls Yba.prog 4 #[.pointer (some ⟨bb, 0, none⟩), .slice (some ⟨sb, 0, none⟩) 0 0] w fun e w' => ∃ gb fl', e = .returned (.slice (some ⟨gb, 0, none⟩) 0 1) ∧ Got bb fb 0 0 1 sz [] w w' gb fl' := by
        intro m hm
        refine (grow_c0 bb fb sb m sz w hsz c0 c1 f1 hm (src_of 0 sb [] _ rfl (fun j hj => absurd hj (by omega))) hbb).mono ?_
        rintro e w' ⟨rfl, A, rfl⟩
        refine ⟨w.heap.size, m - 1, rfl, fun h => absurd h (by omega), fun _ => ⟨rfl, by omega⟩, fun j hj => absurd hj (by omega), ⟨A, World.cell?_setCell_same _ _ _ (mid_field w bb m hbb c1)⟩, fun B h1 h2 h3 => ?_, row_setCell _ _ (row_mid_new w bb m), row_setCell _ _ (row_alloc _ (row_setCell _ _ hrow))⟩
        exact ((((Below.refl B w).setCell (p := ⟨bb, 1, none⟩) h1 _).alloc (by simpa using h3) _).setCell (p := ⟨bb, 1, none⟩) h1 _)
      by_cases h : sz ≤ 1
      · exact hfin 1 (.inl ⟨h, rfl⟩)
      · exact hfin sz (.inr ⟨by omega, rfl⟩)
  · by_cases hn : 2 * L ≤ fl
    · refine (grow_b1 bb fb fl sb L (zs.map (Value.int .i64)) w hL hL2 c1 f1 hfl hn (src_of L sb zs w hl hs) (fun j hj => by rw [show 0 + 0 + j = j from by omega]; exact hr j (by simp at hj; omega)) (fun j hj => hf _) hne).mono ?_
      rintro e w' ⟨rfl, A, rfl⟩
      refine ⟨fb, fl - 2 * L, rfl, fun _ => ⟨rfl, rfl⟩, fun h => absurd h (by omega), fun j hj => ?_, ⟨A, World.cell?_setCell_same _ _ _ (u := .slice (some ⟨fb, 0, none⟩) fl fl) ?_⟩, fun B h1 h2 h3 => ((below_setCells B fb 0 _ w h2).setCell h1 _), row_setCell _ _ (row_setCells _ _ _ _ hrow), row_setCell _ _ (row_setCells _ _ _ _ hrow)⟩
      · rw [World.cell?_setCell_other _ _ _ _ (by intro h; exact hne (congrArg Addr.block h))]
        exact row_in fb L fl zs w hl (by omega) hr j hj
      · rw [World.cell?_setCells_out _ _ _ _ _ (fun h => absurd h hne)]; exact c1
    · have hfin : ∀ m, ((sz ≤ 2 * L ∧ m = 2 * L) ∨ (2 * L < sz ∧ m = sz)) → Calls Yba.prog 4 #[.pointer (some ⟨bb, 0, none⟩), .slice (some ⟨sb, 0, none⟩) L L] w fun e w' => ∃ gb fl', e = .returned (.slice (some ⟨gb, 0, none⟩) L (2 * L)) ∧ Got bb fb fl L (2 * L) sz zs w w' gb fl' := by
        intro m hm
        refine (grow_c1 bb fb fl sb L m sz (zs.map (Value.int .i64)) w hL hL2 hsz c0 c1 f1 hfl (by omega) hm (by simp [hl]) (src_of L sb zs _ hl (fun j hj => (mid_cell w bb m sb j hsb hne2).trans (hs j hj))) hbb).mono ?_
        rintro e w' ⟨rfl, A, rfl⟩
        refine ⟨w.heap.size, m - 2 * L, rfl, fun h => absurd h (by omega), fun _ => ⟨rfl, by omega⟩, fun j hj => ?_, ⟨A, World.cell?_setCell_same _ _ _ (u := .slice (some ⟨w.heap.size, 0, none⟩) m m) ?_⟩, fun B h1 h2 h3 => ?_, row_setCell _ _ (row_setCells _ _ _ _ (row_mid_new w bb m)), row_setCell _ _ (row_setCells _ _ _ _ (row_alloc _ (row_setCell _ _ hrow)))⟩
        · rw [World.cell?_setCell_other _ _ _ _ (by intro h; have := congrArg Addr.block h; simp at this; omega)]
          exact row_in w.heap.size L m zs _ hl (by omega) (fun k hk => by rw [mid_row w bb m k hk]; rfl) j hj
        · rw [World.cell?_setCells_out _ _ _ _ _ (fun h => absurd h (by simp; omega))]; exact mid_field w bb m hbb c1
        · exact ((((Below.refl B w).setCell (p := ⟨bb, 1, none⟩) h1 _).alloc (by simpa using h3) _).trans (below_setCells B w.heap.size 0 _ (mid w bb m) h3)).setCell (p := ⟨bb, 1, none⟩) h1 _
      by_cases h : sz ≤ 2 * L
      · exact hfin (2 * L) (.inl ⟨h, rfl⟩)
      · exact hfin sz (.inr ⟨by omega, rfl⟩)
end Go.Proofs.Ybulkmou
