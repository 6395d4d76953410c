/-
  OUR OWN WORK (an AI prover). The walk of LawS0661BFilter.
-/
import Derived.Test.YbulkmqyEq

namespace Go.Proofs.Ybulkmqy
open Go.ChangeShapes Go.WideShapes Go.ChangeAt Go.RowKit
set_option linter.unusedVariables false

theorem law_far (L c0 n c1 : Nat) (a0 a1 : Option Addr) (w : World) (hL : L ≤ maxLen) (hn : n ≤ maxLen) (h : 1024 < L ∨ 1024 < n) :
    Calls Yba.prog 3 #[.slice a0 L c0, .slice a1 n c1] w fun e w' => e = .returned (.bool true) ∧ Below w.heap.size w w' := by
  have hL2 : L ≤ 9223372036854775807 := hL
  have hn2 : n ≤ 9223372036854775807 := hn
  by_cases h1 : 1024 < L
  · have h1' : (1024 : Int) < L := by omega
    go_enter Yba.func3, Yba.ntmps3
    go_wp2
    go_ret
    exact ⟨rfl, Below.refl _ _⟩
  · have h1' : ¬ (1024 : Int) < L := by omega
    have h2' : (1024 : Int) < n := by omega
    go_enter Yba.func3, Yba.ntmps3
    go_wp2
    go_ret
    exact ⟨rfl, Below.refl _ _⟩

theorem noBytes : ({ data := #[] } : ByteArray).toList = [] := by
  unfold ByteArray.toList
  unfold ByteArray.toList.loop
  simp [ByteArray.size]
abbrev XX (T : Nat → Int) (G U : Nat → ByteArray) : Nat → Alt := fun j => ⟨T j % 4, G j, U j⟩
set_option maxHeartbeats 4000000 in
theorem law_near (L c0 n c1 b1 o1 b2 o2 : Nat) (a0 a1 : Option Addr) (S G U : Nat → ByteArray) (T : Nat → Int) (w : World) (hL : L ≤ 1024) (hn : n ≤ 1024)
    (ha0 : 0 < L → a0 = some ⟨b1, o1, none⟩) (hb1 : 0 < L → b1 < w.heap.size) (hs : Hid (∀ j, j < L → w.cell? ⟨b1, o1 + j, none⟩ = some (.string (S j))))
    (ha1 : 0 < n → a1 = some ⟨b2, o2, none⟩) (hb2 : 0 < n → b2 < w.heap.size) (hz : Hid (ZAt w b2 o2 n T G U)) :
    Calls Yba.prog 3 #[.slice a0 L c0, .slice a1 n c1] w fun e w' => e = .returned (.bool true) ∧ Below w.heap.size w w' := by
  obtain ⟨i0, hi, hz0, hz1, hz2⟩ := info_parts Yba.info39
  have k5 : Hid (∀ w', w' = w → _) := fun w' (e : w' = w) => variant_calls b1 o1 L a0 c0 S w' hL ha0 (by rw [e]; exact hb1) (by rw [e]; exact hs)
  go_enter Yba.func3, Yba.ntmps3
  go_wp2_with (go_at_call 5; refine (k5.out _ rfl).mono ?_; rintro e w1 ⟨rfl, hbel1⟩; unfold vcells)
  have hs1 := hbel1.size
  have BA : Hid (Below w.heap.size w (w1.alloc (.cells (vAgg S L) 26))) := hbel1.alloc hs1 _
  have k6 : Hid (∀ w', w' = w1.alloc (.cells (vAgg S L) 26) → _) := fun w' (e : w' = w1.alloc (.cells (vAgg S L) 26)) => balts_calls b2 o2 n a1 c1 T G U w' hn ha1 (by rw [e]; intro h; have := hb2 h; simp; omega) (by
    rw [e]
    intro j hj
    have h := hz.out j hj
    have hb := hb2 (by omega)
    rw [← BA.out.cell (p := ⟨b2, _, none⟩) hb, ← BA.out.cell (p := ⟨b2, _, none⟩) hb, ← BA.out.cell (p := ⟨b2, _, none⟩) hb] at h
    exact h)
  refine (k6.out _ rfl).mono ?_
  rintro e w2 ⟨v, rfl, hown, hbel2⟩
  have hs2 := hbel2.size
  rw [World.size_alloc] at hs2
  obtain ⟨a, cap, g, rfl, hag, hcg⟩ := own_read (X := XX T G U) hown
  have vf : ∀ i, w2.cell? ⟨w1.heap.size, i, none⟩ = (vAgg S L)[i]? := fun i => by
    rw [hbel2.cell (p := ⟨w1.heap.size, i, none⟩) (by simp), World.cell?_alloc_at _ _ _ _ rfl]
  have vf0 : w2.cell? ⟨w1.heap.size, 0, none⟩ = some noStr := vf 0
  have vf1 : w2.cell? ⟨w1.heap.size, 1, none⟩ = some (.int .i64 0) := vf 1
  have vf2 : w2.cell? ⟨w1.heap.size, 2, none⟩ = some noStr := vf 2
  have vf3 : w2.cell? ⟨w1.heap.size, 3, none⟩ = some noStr := vf 3
  have vf4 : w2.cell? ⟨w1.heap.size, 4, none⟩ = some (.string (grp S L 0)) := vf 4
  have vf5 : w2.cell? ⟨w1.heap.size, 5, none⟩ = some (.string (grp S L 1)) := vf 5
  have vf6 : w2.cell? ⟨w1.heap.size, 6, none⟩ = some (.string (grp S L 2)) := vf 6
  have vf7 : w2.cell? ⟨w1.heap.size, 7, none⟩ = some (.string (grp S L 3)) := vf 7
  have B2 : Hid (Below w.heap.size w w2) := BA.out.trans (hbel2.mono (by rw [World.size_alloc]; omega))
  have hlt1 : w1.heap.size < w2.heap.size := by omega
  have k7 : Hid (∀ w', w' = w2.alloc (.cells #[.slice none 0 0, .slice a n cap] 33) → _) := fun w' (e : w' = w2.alloc (.cells #[.slice none 0 0, .slice a n cap] 33)) => of_calls w2.heap.size L n S (XX T G U) (.slice a n cap) (w1.alloc (.cells (vAgg S L) 26)).heap.size w' hn (by rw [e]; exact World.cell?_alloc_at _ _ _ _ rfl) (fun j hj => ⟨by simp; omega, by simp; omega⟩) (by rw [e]; exact hown.alloc _)
  clear vf hcg hag hown hbel2 hbel1
  clear BA
  go_wp2_with fail
  refine (k7.out _ rfl).mono ?_
  rintro e w3 ⟨r, rfl, hown3, hnil3, hbel3⟩
  have hs3 := hbel3.size
  rw [World.size_alloc] at hs3
  have hm : w3.cell? ⟨w2.heap.size, 1, none⟩ = some (.slice a n cap) := by
    rw [hbel3.cell (p := ⟨w2.heap.size, 1, none⟩) (by simp), World.cell?_alloc_at _ _ _ _ rfl]; rfl
  have B3 : Hid (Below w.heap.size w w3) := (B2.out.alloc B2.out.size _).trans (hbel3.mono (by rw [World.size_alloc]; omega))
  have HO3 := hide hown3
  have HN3 := hide hnil3
  clear hown3 hnil3 hbel3 vf0 vf1 vf2 vf3 vf4 vf5 vf6 vf7 k5 k6 k7
  go_wp2
  go_loopw [8, 32] (fun v i wr => ∃ k : Nat, k ≤ n ∧ i = .int .i64 k ∧ wr.ownsRow w3.heap.size 39 3 v (flt S L (XX T G U) k).length (row (flt S L (XX T G U) k)) ∧ Below w3.heap.size w3 wr) (fun v i _ => n - (intOf i).toNat)
  case atStart => exact ⟨0, Nat.zero_le _, rfl, ⟨rfl, .inl ⟨rfl, rfl⟩⟩, Below.refl _ _⟩
  case round =>
    obtain ⟨k, hk, rfl, hown, hbel⟩ := hrel
    have hsz := hbel.size
    have hlen := flt_length S L (XX T G U) k
    by_cases hlt : k < n
    · obtain rfl := ha1 (by omega)
      have hbb := hb2 (by omega)
      obtain ⟨d1, d2, d3, h0, h1⟩ := hz.out k hlt
      have hi3 : (k : Int) < (n : Int) := by omega
      have BW : Below w.heap.size w wr := B3.out.trans (hbel.mono B3.out.size)
      rw [← BW.cell (p := ⟨b2, _, none⟩) hbb] at d1 d2 d3
      have t0 : 0 ≤ T k % 4 := by omega
      have t4 : T k % 4 < 4 := by omega
      have hbw : b2 < wr.heap.size := by have := BW.size; omega
      have HO2 := hide ((hown.alloc (.cells #[.int .u8 (T k), .string (G k), .string (U k)] 36)).alloc (.cells #[.int .i64 (T k % 4), .string (G k), .string (U k)] 39))
      have HN := hide (new_cells (wr.alloc (.cells #[.int .u8 (T k), .string (G k), .string (U k)] 36)) (wr.heap.size + 1) (by simp) ⟨T k % 4, G k, U k⟩)
      have HB2 := hide ((hbel.alloc hbel.size (.cells #[.int .u8 (T k), .string (G k), .string (U k)] 36)).alloc (by simp; omega) (.cells #[.int .i64 (T k % 4), .string (G k), .string (U k)] 39))
      have HO := hide hown
      have HB := hide hbel
      clear hown hbel
      by_cases hin : T k % 4 < (L : Int)
      · obtain rfl := ha0 (by omega)
        have d4 := hs.out (T k % 4).toNat (by omega)
        have hb1' := hb1 (by omega)
        rw [← BW.cell (p := ⟨b1, _, none⟩) hb1'] at d4
        have hb1w : b1 < wr.heap.size := by have := BW.size; omega
        have eg : grp S L (T k % 4).toNat = S (T k % 4).toNat := if_pos (by omega)
        clear BW
        cases hq : ((S (T k % 4).toNat).toList == (G k).toList)
        · have HF := hide (flt_no (S := S) (L := L) (X := XX T G U) (k := k) (by show ((grp S L (T k % 4).toNat).toList == _) = false; rw [eg]; exact hq))
          clear eg
          go_wp2
          exact ⟨⟨k + 1, by omega, by go_num, by rw [HF.out]; exact HO.out.alloc _, HB.out.alloc hsz _⟩, by simp [intOf]; omega⟩
        · have HF := hide (flt_yes (S := S) (L := L) (X := XX T G U) (k := k) (by show ((grp S L (T k % 4).toNat).toList == _) = true; rw [eg]; exact hq))
          clear eg
          go_wp2_with (at_builtin; refine wpList_append_own _ rfl (.tmp 52) (.tmp 59) 29 rfl w3.heap.size 39 i0 _ 3 40 Yba.underlying29 hi hz0 hz1 hz2 rfl (by decide) _ _ (row (flt S L (XX T G U) k)) rfl HO2.out ⟨wr.heap.size + 1, 0, none⟩ 1 1 (Alt.cells ⟨T k % 4, G k, U k⟩) rfl rfl HN.out (cells_one _) (by unfold maxLen; omega) (by omega) (by have := HB2.out.size; simp at this ⊢; omega) ?_; intro v' w4 hown' hgrow hnn)
          have HB3 := Below.grown HB2.out hgrow (by have := HB2.out.size; simp at this ⊢; omega) (own_block HO2.out)
          have e : row (flt S L (XX T G U) k) ++ Alt.cells ⟨T k % 4, G k, U k⟩ = row (flt S L (XX T G U) (k + 1)) := by rw [HF.out, row_app]
          have e2 : (flt S L (XX T G U) k).length + 1 = (flt S L (XX T G U) (k + 1)).length := by rw [HF.out]; simp
          rw [e, e2] at hown'
          exact ⟨⟨k + 1, by omega, by go_num, hown', HB3⟩, by simp [intOf]; omega⟩
      · have eg : grp S L (T k % 4).toNat = { data := #[] } := if_neg (by omega)
        clear BW
        cases hq : (([] : List UInt8) == (G k).toList)
        · have HF := hide (flt_no (S := S) (L := L) (X := XX T G U) (k := k) (by show ((grp S L (T k % 4).toNat).toList == _) = false; rw [eg, noBytes]; exact hq))
          clear eg
          go_wp2
          exact ⟨⟨k + 1, by omega, by go_num, by rw [HF.out]; exact HO.out.alloc _, HB.out.alloc hsz _⟩, by simp [intOf]; omega⟩
        · have HF := hide (flt_yes (S := S) (L := L) (X := XX T G U) (k := k) (by show ((grp S L (T k % 4).toNat).toList == _) = true; rw [eg, noBytes]; exact hq))
          clear eg
          go_wp2_with (at_builtin; refine wpList_append_own _ rfl (.tmp 52) (.tmp 59) 29 rfl w3.heap.size 39 i0 _ 3 40 Yba.underlying29 hi hz0 hz1 hz2 rfl (by decide) _ _ (row (flt S L (XX T G U) k)) rfl HO2.out ⟨wr.heap.size + 1, 0, none⟩ 1 1 (Alt.cells ⟨T k % 4, G k, U k⟩) rfl rfl HN.out (cells_one _) (by unfold maxLen; omega) (by omega) (by have := HB2.out.size; simp at this ⊢; omega) ?_; intro v' w4 hown' hgrow hnn)
          have HB3 := Below.grown HB2.out hgrow (by have := HB2.out.size; simp at this ⊢; omega) (own_block HO2.out)
          have e : row (flt S L (XX T G U) k) ++ Alt.cells ⟨T k % 4, G k, U k⟩ = row (flt S L (XX T G U) (k + 1)) := by rw [HF.out, row_app]
          have e2 : (flt S L (XX T G U) k).length + 1 = (flt S L (XX T G U) (k + 1)).length := by rw [HF.out]; simp
          rw [e, e2] at hown'
          exact ⟨⟨k + 1, by omega, by go_num, hown', HB3⟩, by simp [intOf]; omega⟩
    · obtain rfl : k = n := by omega
      have hm2 : wr.cell? ⟨w2.heap.size, 1, none⟩ = some (.slice a k cap) := by rw [hbel.cell (p := ⟨w2.heap.size, 1, none⟩) (by show w2.heap.size < _; omega)]; exact hm
      have BW : Hid (Below w.heap.size w wr) := B3.out.trans (hbel.mono B3.out.size)
      have hg3 : wr.ownsRow (w2.alloc (.cells #[.slice none 0 0, .slice a k cap] 33)).heap.size 39 3 r (flt S L (XX T G U) k).length (row (flt S L (XX T G U) k)) := HO3.out.kept (row := none) ⟨hbel.os, hbel.tape, hbel.output, hbel.size, fun j hj _ => hbel.block j hj⟩ (by cases h : r.ownBlock with | none => exact .inl rfl | some _ => exact .inr (by simp))
      have hn3 := HN3.out
      generalize flt S L (XX T G U) k = l at hown hlen hg3 hn3
      have h8 : Hid (∀ w', w' = wr → Calls Yba.prog 8 #[r, u8] w' fun e w'' => e = .returned (.bool true) ∧ ∃ m, w'' = w'.drewN m) := fun w' e' => by rw [e']; exact eq_list l _ _ r u8 wr (by omega) hg3 hown
      obtain ⟨a', cap', rfl, ha'⟩ := own_list hg3
      obtain ⟨a'', cap'', rfl, _⟩ := own_list hown
      have hnl := fun w => Lib.run_eql_slice_nil (P := Yba.prog) w 29 39 a' l.length cap' 0 0 Yba.underlying29
      clear hown hbel hg3 HO3 HN3
      by_cases hl : l = []
      · obtain rfl : a' = none := by have := hn3.2 hl; injection this
        subst hl
        clear hn3
        simp only [Option.isNone_none, List.length_nil] at hnl h8 ⊢
        go_wp2_with (go_at_call 8; refine (h8.out _ rfl).mono ?_; rintro e w5 ⟨rfl, m, rfl⟩)
        go_ret
        exact ⟨rfl, below_drewN BW.out m⟩
      · have hpos : 0 < l.length := List.length_pos_iff.2 hl
        rw [ha' hpos] at hnl
        clear hn3 hl ha'
        generalize l.length = q at *
        have hq1 : (q : Int) ≠ 0 := by omega
        go_wp2_with (go_at_call 8; refine (h8.out _ rfl).mono ?_; rintro e w5 ⟨rfl, m, rfl⟩)
        go_ret
        exact ⟨rfl, below_drewN BW.out m⟩
end Go.Proofs.Ybulkmqy
