/-
  OUR OWN WORK (an AI prover). The contracts of the law's own 'days', of slices.Clone and of calendar.New.
-/
import Derived.Test.YbulkmouFmtDate
import Derived.Lib.JoinLaws
namespace Go.Proofs.YbulkmouFmt
open Go.ChangeShapes Go.WideShapes Go.ChangeAt Go.RowKit
set_option linter.unusedVariables false
theorem Ybaf.info35 : (Ybaf.prog.info? 35).map (fun i => (i.zero, i.size, i.bytes)) = some (some (.int .i64 0), 1, 8) := by kernel_rfl

theorem hide {p : Prop} (h : p) : Hid p := h

/-- The days as cells. -/
def dayCells (zs : List Int) (k : Nat) : List Value := (List.range k).map fun j => .int .i64 (dayAt zs j)
theorem dayCells_succ (zs : List Int) (k : Nat) : dayCells zs (k + 1) = dayCells zs k ++ [.int .i64 (dayAt zs k)] := by
  unfold dayCells; rw [List.range_succ, List.map_append]; rfl

theorem days_calls (b off : Nat) (a0 : Option Addr) (len cap : Nat) (zs : List Int) (w : World) (hl : Hid (zs.length = len)) (hL : len ≤ 1024) (hao : Hid (0 < len → a0 = some ⟨b, off, none⟩)) (hb : Hid (0 < len → b < w.heap.size))
    (hc : Hid (∀ j, j < len → w.cell? ⟨b, off + j, none⟩ = some (.int .u8 (zs.getD j 0)))) (hz : Hid (∀ j, j < len → 0 ≤ zs.getD j 0 ∧ zs.getD j 0 ≤ 255)) :
    Calls Ybaf.prog 5 #[.slice a0 len cap] w fun e w' => e = .returned (.slice (some ⟨w.heap.size, 0, none⟩) len len) ∧ w'.ownsRow w.heap.size 35 1 (.slice (some ⟨w.heap.size, 0, none⟩) len len) len (dayCells zs len) ∧ Below w.heap.size w w' := by
  obtain ⟨i0, hi, hz0, hz1, hz2⟩ := info_parts Ybaf.info35
  go_enter Ybaf.func5, Ybaf.ntmps5
  go_wp2_with (at_make; refine wpList_make_own _ rfl _ _ 23 rfl w.heap.size 35 i0 (.int .i64 0) 1 Ybaf.underlying23 hi hz0 hz1 .i64 .i64 _ len rfl rfl rfl (by rw [hz2]; omega) (by unfold maxLen; omega) (Nat.le_refl _) ?_; intro w1 hown1 hgrow1)
  have HO := hide hown1
  have HB : Hid (Below w.heap.size w w1) := (Below.refl _ _).grown hgrow1 (Nat.le_refl _) (fun k h => by cases h)
  have HS : Hid (w.heap.size < w1.heap.size) := by
    show w.heap.size < w1.heap.size
    rcases hown1.2 with ⟨h, _⟩ | ⟨g, c, cur, h, _, hh, _⟩
    · cases h
    · cases h
      obtain ⟨h1, _⟩ := Array.getElem?_eq_some_iff.1 hh
      exact h1
  clear hown1 hgrow1
  go_loopw [3, 4, 5, 13] (fun v m d i wr => ∃ k : Nat, k ≤ len ∧ i = .int .i64 k ∧ v = .slice (some ⟨w.heap.size, 0, none⟩) k len ∧ m = .int .i64 (atStep zs k).1 ∧ d = .int .i64 (atStep zs k).2 ∧
      wr.ownsRow w.heap.size 35 1 (.slice (some ⟨w.heap.size, 0, none⟩) k len) k (dayCells zs k) ∧ Below w.heap.size w wr ∧ w.heap.size < wr.heap.size) (fun _ _ _ i _ => len - (intOf i).toNat)
  case atStart => exact ⟨0, Nat.zero_le _, rfl, rfl, rfl, rfl, HO.out, HB.out, HS.out⟩
  case round =>
    obtain ⟨k, hk, rfl, rfl, rfl, rfl, hown, hbel, hsz⟩ := hrel
    have af := atStep_facts zs k (by rw [hl.out]; exact hk)
    by_cases hlt : k < len
    · obtain rfl := hao.out (by omega)
      have hst := atStep_succ zs k (by rw [hl.out]; exact hlt)
      have hda : dayAt zs k = (atStep zs (k + 1)).1 * 100 + (atStep zs (k + 1)).2 := rfl
      obtain ⟨s, hs⟩ : ∃ s, s = zs.getD k 0 := ⟨_, rfl⟩
      have hsb := hz.out k hlt
      rw [← hs] at hst hsb
      have hcell : wr.cell? ⟨b, off + k, none⟩ = some (.int .u8 s) := by rw [hs]; exact (hbel.cell (p := ⟨b, off + k, none⟩) (hb.out (by omega))).trans (hc.out k hlt)
      clear hs
      obtain ⟨M, hM⟩ : ∃ M, M = (atStep zs k).1 := ⟨_, rfl⟩
      obtain ⟨d, hd⟩ : ∃ d, d = (atStep zs k).2 := ⟨_, rfl⟩
      rw [← hM, ← hd] at af ⊢
      have hp : atStep zs k = (M, d) := by rw [hM, hd]
      rw [hp] at hst
      clear hM hd hp
      have HST : Hid (atStep zs (k + 1) = step (M, d) s) := hst
      have HDA := hide hda
      have HOW := hide hown
      have HBE := hide hbel
      clear hst hda hown hbel
      by_cases hc28 : 28 < d + (s % 5 + 1)
      · have HE : Hid (step (M, d) s = (nextM M, d + (s % 5 + 1) - 28)) := by unfold step; exact if_pos hc28
        have nb := nextM_bd M
        go_wp2_with (first | (go_at_call 11; refine (next_calls _ _ (by omega) (by omega)).mono ?_; rintro e w' ⟨rfl, hw⟩; obtain rfl := hw.symm) | (at_builtin; refine wpList_append_fits _ rfl (.tmp 29) (.tmp 34) 23 rfl w.heap.size 35 i0 1 Ybaf.underlying23 hi hz1 w.heap.size k len (dayCells zs k) rfl (HOW.out.alloc _) ⟨wr.heap.size, 0, none⟩ 1 1 [.int .i64 (nextM M * 100 + (d + (s % 5 + 1) - 28))] rfl rfl (cell_one_new _ _ _) (ints_oneCell .i64 [(nextM M * 100 + (d + (s % 5 + 1) - 28))]) (by omega) ?_; intro w2 hown2 hgrow2))
        have HO2 := hide hown2
        have HG2 := hide hgrow2
        clear hown2 hgrow2
        go_wp2
        go_roundw
        case rel =>
          refine ⟨k + 1, by omega, by go_num, rfl, by rw [HST.out, HE.out], by rw [HST.out, HE.out], ?_, ?_, ?_⟩
          · rw [dayCells_succ, HDA.out, HST.out, HE.out]; exact HO2.out
          · exact (HBE.out.alloc (by omega) _).grown HG2.out (by simp; omega) (fun j h => by cases h; exact Nat.le_refl _)
          · have := HG2.out.size; simp at this; omega
        case measure => simp [intOf]; omega
      · have HE : Hid (step (M, d) s = (M, d + (s % 5 + 1))) := by unfold step; exact if_neg hc28
        go_wp2_with (at_builtin; refine wpList_append_fits _ rfl (.tmp 29) (.tmp 34) 23 rfl w.heap.size 35 i0 1 Ybaf.underlying23 hi hz1 w.heap.size k len (dayCells zs k) rfl (HOW.out.alloc _) ⟨wr.heap.size, 0, none⟩ 1 1 [.int .i64 (M * 100 + (d + (s % 5 + 1)))] rfl rfl (cell_one_new _ _ _) (ints_oneCell .i64 [(M * 100 + (d + (s % 5 + 1)))]) (by omega) ?_; intro w2 hown2 hgrow2)
        have HO2 := hide hown2
        have HG2 := hide hgrow2
        clear hown2 hgrow2
        go_wp2
        go_roundw
        case rel =>
          refine ⟨k + 1, by omega, by go_num, rfl, by rw [HST.out, HE.out], by rw [HST.out, HE.out], ?_, ?_, ?_⟩
          · rw [dayCells_succ, HDA.out, HST.out, HE.out]; exact HO2.out
          · exact (HBE.out.alloc (by omega) _).grown HG2.out (by simp; omega) (fun j h => by cases h; exact Nat.le_refl _)
          · have := HG2.out.size; simp at this; omega
        case measure => simp [intOf]; omega
    · obtain rfl : k = len := by omega
      go_wp2
      go_ret
      exact ⟨rfl, hown, hbel⟩
end Go.Proofs.YbulkmouFmt
