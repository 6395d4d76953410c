/-
  OUR OWN WORK (an AI prover). The contract of AlternativesOf.
-/
import Derived.Test.YbulkmqyParts
import Derived.Laws.OwnMore
import Derived.Deep.Onto
namespace Go.Proofs.Ybulkmqy
open Go.ChangeShapes Go.WideShapes Go.ChangeAt Go.RowKit
set_option linter.unusedVariables false

def xs (X : Nat → Alt) (n : Nat) : List Alt := (List.range n).map X
theorem xs_succ (X : Nat → Alt) (n : Nat) : xs X (n + 1) = xs X n ++ [X n] := by simp [xs, List.range_succ]
theorem xs_length (X : Nat → Alt) (n : Nat) : (xs X n).length = n := by simp [xs]
theorem row_length (l : List Alt) : (row l).length = l.length * 3 := by
  induction l with
  | nil => rfl
  | cons x l ih => simp [row, Alt.cells] at ih ⊢; omega
theorem row_get (X : Nat → Alt) (n : Nat) : ∀ j, j < n → ∀ i, i < 3 → (row (xs X n))[j * 3 + i]? = (X j).cells[i]? := by
  induction n with
  | zero => intro j hj; omega
  | succ n ih =>
    intro j hj i hi
    rw [xs_succ, row_app]
    have hl : (row (xs X n)).length = n * 3 := by rw [row_length, xs_length]
    by_cases h : j < n
    · rw [List.getElem?_append_left (by omega)]
      exact ih j h i hi
    · obtain rfl : j = n := by omega
      rw [List.getElem?_append_right (by omega), hl, show j * 3 + i - j * 3 = i by omega]

/-- What an owned row of alternatives says of its slice's value. -/
theorem own_read {w : World} {base n : Nat} {v : Value} {X : Nat → Alt} (h : w.ownsRow base 39 3 v n (row (xs X n))) :
    ∃ a cap g, v = .slice a n cap ∧ (0 < n → a = some ⟨g, 0, none⟩ ∧ base ≤ g ∧ g < w.heap.size) ∧
      ∀ j, j < n → w.cell? ⟨g, j * 3, none⟩ = some (.int .i64 (X j).ty) ∧ w.cell? ⟨g, j * 3 + 1, none⟩ = some (.string (X j).gid) ∧ w.cell? ⟨g, j * 3 + 2, none⟩ = some (.string (X j).uri) := by
  rcases h.2 with ⟨rfl, rfl⟩ | ⟨g, cap, cur, rfl, hb, hh, hle, hm, hs, ht⟩
  · exact ⟨none, 0, 0, rfl, fun h => absurd h (by omega), fun j hj => absurd hj (by omega)⟩
  · obtain ⟨hlt, _⟩ := Array.getElem?_eq_some_iff.1 hh
    refine ⟨_, cap, g, rfl, fun _ => ⟨rfl, hb, hlt⟩, fun j hj => ?_⟩
    have key := row_get X n j hj
    refine ⟨?_, ?_, ?_⟩
    · rw [h.cellAt _ (by omega)]; exact key 0 (by omega)
    · rw [h.cellAt _ (by omega)]; exact key 1 (by omega)
    · rw [h.cellAt _ (by omega)]; exact key 2 (by omega)

/-- The alternatives whose group is that of the variant. -/
def keep (S : Nat → ByteArray) (L : Nat) (x : Alt) : Bool := (grp S L x.ty.toNat).toList == x.gid.toList
def flt (S : Nat → ByteArray) (L : Nat) (X : Nat → Alt) (k : Nat) : List Alt := (xs X k).filter (keep S L)
theorem flt_yes {S : Nat → ByteArray} {L : Nat} {X : Nat → Alt} {k : Nat} (h : keep S L (X k) = true) : flt S L X (k + 1) = flt S L X k ++ [X k] := by
  unfold flt; rw [xs_succ, List.filter_append]; simp [h]
theorem flt_no {S : Nat → ByteArray} {L : Nat} {X : Nat → Alt} {k : Nat} (h : keep S L (X k) = false) : flt S L X (k + 1) = flt S L X k := by
  unfold flt; rw [xs_succ, List.filter_append]; simp [h]
theorem flt_length (S : Nat → ByteArray) (L : Nat) (X : Nat → Alt) (k : Nat) : (flt S L X k).length ≤ k := by
  have := List.length_filter_le (keep S L) (xs X k); rwa [xs_length] at this

abbrev vAgg (S : Nat → ByteArray) (L : Nat) : Array Value := #[noStr, .int .i64 0, noStr, noStr, .string (grp S L 0), .string (grp S L 1), .string (grp S L 2), .string (grp S L 3)]
theorem of_calls (mb L n : Nat) (S : Nat → ByteArray) (X : Nat → Alt) (v : Value) (base : Nat) (w : World) (hn : n ≤ 1024) (hm : w.cell? ⟨mb, 1, none⟩ = some v)
    (hX : Hid (∀ j, j < n → 0 ≤ (X j).ty ∧ (X j).ty < 4)) (hv : w.ownsRow base 39 3 v n (row (xs X n))) :
    Calls Yba.prog 7 #[.pointer (some ⟨mb, 0, none⟩), .agg (vAgg S L)] w fun e w' => ∃ r, e = .returned r ∧ w'.ownsRow w.heap.size 39 3 r (flt S L X n).length (row (flt S L X n)) ∧ (r = .slice none 0 0 ↔ flt S L X n = []) ∧ Below w.heap.size w w' := by
  obtain ⟨i0, hi, hz0, hz1, hz2⟩ := info_parts Yba.info39
  obtain ⟨a, cap, g, rfl, ha, hc0⟩ := own_read hv
  have hc := hide hc0
  have hmb := block_lt_of_cell hm
  clear hc0 hv
  go_enter Yba.func7, Yba.ntmps7
  go_wp2
  go_loopw [5, 13] (fun r i wr => ∃ k : Nat, k ≤ n ∧ i = .int .i64 k ∧ wr.ownsRow (w.heap.size + 1) 39 3 r (flt S L X k).length (row (flt S L X k)) ∧ (r = .slice none 0 0 ↔ flt S L X k = []) ∧ Below (w.heap.size + 1) (w.alloc (.cells (vAgg S L) 26)) wr) (fun r i _ => n - (intOf i).toNat)
  case atStart => exact ⟨0, Nat.zero_le _, rfl, ⟨rfl, .inl ⟨rfl, rfl⟩⟩, by simp [flt, xs], Below.refl _ _⟩
  case round =>
    rename_i r3 _ _
    obtain ⟨k, hk, rfl, hown, hnil, hbel⟩ := hrel
    have hsz := hbel.size
    by_cases hlt : k < n
    · obtain ⟨rfl, hg0, hg⟩ := ha (by omega)
      have hi3 : (k : Int) < (n : Int) := by omega
      obtain ⟨c1, c2, c3⟩ := hc.out k hlt
      obtain ⟨x1, x2⟩ := hX.out k hlt
      have vv : ∀ i, i < 4 → wr.cell? ⟨w.heap.size, 4 + i, none⟩ = some (.string (grp S L i)) := fun i hi => by
        rw [hbel.cell (p := ⟨w.heap.size, 4 + i, none⟩) (by simp), World.cell?_alloc_at _ _ _ _ rfl]
        rcases (show i = 0 ∨ i = 1 ∨ i = 2 ∨ i = 3 by omega) with rfl | rfl | rfl | rfl <;> rfl
      have hr : ∀ i, wr.cell? ⟨g, i, none⟩ = w.cell? ⟨g, i, none⟩ := fun i => by rw [hbel.cell (p := ⟨g, i, none⟩) (by show g < _; omega), World.cell?_alloc_past _ _ _ hg]
      rw [← hr] at c1 c2 c3
      have hlen := flt_length S L X k
      generalize hx : X k = x at c1 c2 c3 x1 x2
      obtain ⟨t, G, U⟩ := x
      simp only at c1 c2 c3 x1 x2
      have HO := hide hown
      have HB := hide hbel
      have HNil := hide hnil
      have HX := hide hx
      clear hown hbel hnil hx hr
      have hs : (w.heap.size : Nat) < wr.heap.size := by simp at hsz; omega
      have hgw : g < wr.heap.size := by omega
      obtain ⟨t, rfl⟩ := Int.eq_ofNat_of_zero_le x1
      have hv := vv t (by omega)
      clear vv
      have HO2 := hide ((HO.out.alloc (.cells #[.int .i64 t, .string G, .string U] 39)).alloc (.cells #[.int .i64 t, .string G, .string U] 39))
      have HN := hide (new_cells (wr.alloc (.cells #[.int .i64 t, .string G, .string U] 39)) (wr.heap.size + 1) (by simp) ⟨t, G, U⟩)
      have HB2 := hide ((HB.out.alloc (by simp at hsz; omega) (.cells #[.int .i64 t, .string G, .string U] 39)).alloc (by simp at hsz ⊢; omega) (.cells #[.int .i64 t, .string G, .string U] 39))
      cases hq : ((grp S L t).toList == G.toList)
      · have HF := hide (flt_no (S := S) (L := L) (X := X) (k := k) (by rw [HX.out]; exact hq))
        go_wp2_with fail
        go_quiet (fail)
        go_wp2
        go_round
        case rel => exact ⟨k + 1, by omega, by go_num, by rw [HF.out]; exact HO.out.alloc _, by rw [HF.out]; exact HNil.out, below_drewN (HB.out.alloc (by simp at hsz; omega) _) _⟩
        case measure => simp [intOf]; omega
      · have HF := hide (flt_yes (S := S) (L := L) (X := X) (k := k) (by rw [HX.out]; exact hq))
        go_wp2_with fail
        go_quiet (fail)
        go_wp2_with (at_builtin; refine wpList_append_own _ rfl (.tmp 25) (.tmp 27) 29 rfl (w.heap.size + 1) 39 i0 _ 3 40 Yba.underlying29 hi hz0 hz1 hz2 rfl (by decide) _ _ (row (flt S L X k)) rfl HO2.out ⟨wr.heap.size + 1, 0, none⟩ 1 1 (Alt.cells ⟨t, G, U⟩) rfl rfl HN.out (cells_one _) (by unfold maxLen; omega) (by omega) (by have := HB2.out.size; simp at this ⊢; omega) ?_; intro v' w1 hown' hgrow hnn)
        have HB3 := hide (Below.grown (below_drewN HB2.out nq) hgrow (by have := HB2.out.size; simp at this ⊢; omega) (own_block HO2.out))
        have e : row (flt S L X k) ++ Alt.cells ⟨t, G, U⟩ = row (flt S L X (k + 1)) := by rw [HF.out, row_app, HX.out]
        have e2 : (flt S L X k).length + 1 = (flt S L X (k + 1)).length := by rw [HF.out]; simp
        rw [e, e2] at hown'
        have HO3 := hide hown'
        have HNil2 : Hid (v' = .slice none 0 0 ↔ flt S L X (k + 1) = []) := ⟨fun h => absurd (hnn.1 h).2 (by decide), fun h => by rw [HF.out] at h; simp at h⟩
        clear hown' hgrow hnn HO HN HB e e2 HO2 HB2
        go_wp2
        go_round
        case rel => exact ⟨k + 1, by omega, by go_num, HO3.out, HNil2.out, HB3.out⟩
        case measure => simp [intOf]; omega
    · obtain rfl : k = n := by omega
      have HB : Hid (Below w.heap.size w wr) := ((Below.refl w.heap.size w).alloc (Nat.le_refl _) _).trans (hbel.mono (Nat.le_succ _))
      have HO : Hid (wr.ownsRow w.heap.size 39 3 _ _ _) := hown.mono (Nat.le_succ _)
      have HNil := hide hnil
      clear hown hbel hnil
      go_wp2
      go_ret
      exact ⟨_, rfl, HO.out, HNil.out, HB.out⟩
end Go.Proofs.Ybulkmqy
