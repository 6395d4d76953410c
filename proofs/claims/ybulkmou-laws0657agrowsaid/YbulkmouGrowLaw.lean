/-
  OUR OWN WORK (an AI prover). The law's own walks ('LawS0657AGrow', function 3), over the contracts of 'grow' (YbulkmouGrow): too long an input; room; no room with elements; no room with none.
-/
import Derived.Test.YbulkmouGrow
import Derived.Laws.CopyOwn
import Derived.BigQuiet
import Derived.Lib.Builder
import Derived.WalkSmall
import Derived.Deep.QuietTactic
namespace Go.Proofs.Ybulkmou
open Go.ChangeShapes Go.WideShapes Go.ChangeAt Go.RowKit
set_option linter.unusedVariables false
theorem hsz3 : (Yba.prog.info? 3).map (·.size) = some 1 := by kernel_rfl
theorem ptr_neq_same (w : World) (a : Addr) : (binOp .neq 28 (.pointer (some a)) (.pointer (some a))).run Yba.prog w = .ok (.bool false) w := by
  obtain ⟨i, hi, _⟩ := info_parts Yba.info3
  exact Lib.run_neq_ptr_same w a Yba.underlying28 hi
theorem ptr_eql_other (w : World) (a b : Nat) (hne : a ≠ b) (ha : ∃ c, w.heap[a]? = some (.cells c 3 (0, 0))) (hb : ∃ c, w.heap[b]? = some (.cells c 3 (0, 0))) (n : Nat) : (binOp .eql 28 (.pointer (some ⟨a, 0, none⟩)) (.pointer (some ⟨b, 0, none⟩))).run Yba.prog (w.drewN n) = .ok (.bool false) (w.drewN n) := by
  obtain ⟨i, hi, _, h1, _⟩ := info_parts Yba.info3
  obtain ⟨ca, ha⟩ := ha
  obtain ⟨cb, hb⟩ := hb
  exact run_eql_ptr_other (w.drewN n) Yba.underlying28 hi (by omega) (fun e => hne (congrArg Addr.block e)) ha hb
theorem make_lc (l r : Nat) (h : l ≤ 1024) (hr : r < 4) (w : World) : (Instr.makeSlice 22 (.int .i64 (l : Int)) (.int .i64 ((l : Int) + (r : Int)))).run Yba.prog w = .ok (.slice (some ⟨w.heap.size, 0, none⟩) l (l + r)) (w.alloc (made (l + r))) := by
  obtain ⟨i, hi, hz0, hz1, hz2⟩ := info_parts Yba.info3
  have h := run_make (P := Yba.prog) w 22 3 i _ Yba.underlying22 hi hz0 .i64 .i64 (l : Int) ((l : Int) + (r : Int)) (by omega) (by omega) (by rw [hz2]; omega) (by omega)
  rw [h, hz1, Nat.mul_one, Int.toNat_natCast, show ((l : Int) + (r : Int)).toNat = l + r from by omega]; rfl

/-- THE copy INTO 's': the equation for the walk, and what 's' then holds. -/
theorem copy_ex (b off len cap r : Nat) (a0 : Option Addr) (zs : List Int) (w : World) (hao : 0 < len → a0 = some ⟨b, off, none⟩) (hb : 0 < len → b < w.heap.size) (hz : len ≤ zs.length)
    (hc : ∀ j, j < len → w.cell? ⟨b, off + j, none⟩ = some (.int .i64 (zs.getD j 0))) :
    ∃ w2, (Builtin.copy_ #[22, 22] 3 #[.slice (some ⟨w.heap.size, 0, none⟩) len (len + r), .slice a0 len cap]).run Yba.prog (w.alloc (made (len + r))) = .ok (.int .i64 len) w2 ∧
      (∀ j, j < len → w2.cell? ⟨w.heap.size, j, none⟩ = some (.int .i64 (zs.getD j 0))) ∧ Below w.heap.size w w2 ∧ w2.heap.size = w.heap.size + 1 := by
  by_cases h0 : len = 0
  · subst h0
    exact ⟨_, run_copy_none (P := Yba.prog) _ 22 22 3 3 _ a0 0 _ 0 cap Yba.underlying22 hsz3 rfl, fun j hj => absurd hj (by omega), (Below.refl _ _).alloc (Nat.le_refl _) _, by simp⟩
  · rw [hao (by omega)]
    have hcl : ((zs.take len).map (Value.int .i64)).length = len := by simp; omega
    have hrun := run_copy_row (P := Yba.prog) (w.alloc (made (len + r))) 22 22 3 3 w.heap.size 0 len (len + r) ⟨b, off, none⟩ len cap (madeCells #[.int .i64 0] (len + r)) 3 ((zs.take len).map (Value.int .i64)) Yba.underlying22 hsz3 (heap_alloc_new w _) (by rw [hcl]; exact (Nat.min_self _).symm) (fun j v hj => by
      have hjl : j < len := by have := (List.getElem?_eq_some_iff.1 hj).1; omega
      rw [Addr.add_lit, World.cell?_alloc_past _ _ _ (hb (by omega)), hc j hjl]
      have hj' : j < zs.length := by omega
      simp [hjl, hj'] at hj
      simp [hj', hj]) (by rw [hcl, size_madeCells]; simp) (ints_oneCell _ _)
    rw [hcl] at hrun
    refine ⟨_, hrun, fun j hj => ?_, below_setRow ((Below.refl _ _).alloc (Nat.le_refl _) _) (Nat.le_refl _) _, by simp [World.setRow]⟩
    have hh := setRow_heap (w.alloc (made (len + r))) w.heap.size _ ((madeCells #[.int .i64 0] (len + r)).toList.take 0 ++ (zs.take len).map (Value.int .i64) ++ (madeCells #[.int .i64 0] (len + r)).toList.drop (0 + len)).toArray 3 _ (heap_alloc_new w _)
    have hj' : j < zs.length := by omega
    simp only [World.cell?, hh]
    simp [hj, hj', List.getElem?_append]
    intro hle
    omega

theorem walk_far (a0 : Option Addr) (len0 cap0 : Nat) (a1 : Int) (a2 : Int) (a3 : Int) (w : World) (hm : len0 ≤ maxLen) (h : 1024 < len0) :
    Calls Yba.prog 3 #[.slice a0 len0 cap0, .int .u8 a1, .int .u16 a2, .int .u16 a3] w fun e w' => e = .returned (.bool true) ∧ Below w.heap.size w w' := by
  unfold maxLen at hm
  go_enter Yba.func3, Yba.ntmps3
  go_wp2
  go_ret
  exact ⟨rfl, Below.refl _ _⟩

theorem walk_room (b off : Nat) (a0 : Option Addr) (len0 cap0 r fl sz : Nat) (zs : List Int) (a1 : Int) (a2 : Int) (a3 : Int) (w : World) (h : len0 ≤ 1024) (hz : len0 ≤ zs.length) (hr : a1 % 4 = (r : Int)) (hfl : a3 % 512 = (fl : Int)) (hsz : a2 % 300 = (sz : Int))
    (hr4 : r < 4) (hr0 : 1 ≤ r) (hf5 : fl < 512) (hs3 : sz < 300) 
    (w1 : 0 ≤ a1) (w1' : a1 ≤ 255) (w2 : 0 ≤ a2) (w2' : a2 ≤ 65535) (w3 : 0 ≤ a3) (w3' : a3 ≤ 65535) (hao : Hid (0 < len0 → a0 = some ⟨b, off, none⟩)) (hb : Hid (0 < len0 → b < w.heap.size)) (hc : Hid (∀ j, j < len0 → w.cell? ⟨b, off + j, none⟩ = some (.int .i64 (zs.getD j 0)))) :
    Calls Yba.prog 3 #[.slice a0 len0 cap0, .int .u8 a1, .int .u16 a2, .int .u16 a3] w fun e w' => e = .returned (.bool true) ∧ Below w.heap.size w w' := by
  have hmk1 := make_lc len0 r h hr4
  have hmk2 := run_make_row' (P := Yba.prog) 22 3 (.int .i64 0) 8 Yba.underlying22 Yba.info3 rfl .i64 .i64 fl (by omega) (by omega)
  obtain ⟨w2, hcp, hs, hB0, hsz2⟩ := copy_ex b off len0 cap0 r a0 zs w hao.out hb.out hz hc.out
  have hcs : Hid (∀ j, j < len0 → w2.cell? ⟨w.heap.size, j, none⟩ = some (.int .i64 (zs.getD j 0))) := hs
  have hB : Hid (Below w.heap.size w w2) := hB0
  clear hs hB0
  have hpn := ptr_neq_same
  go_enter Yba.func3, Yba.ntmps3
  go_wp2_with (go_at_call 4; refine (grow_room _ _ _ _ _ (by omega) (by omega)).mono ?_; rintro e w' ⟨rfl, rfl⟩)
  go_loopw [16] (fun i wr => ∃ k n : Nat, k ≤ len0 ∧ i = .int .i64 k ∧ wr = ((w2.alloc (made fl)).alloc (.cells #[.int .i64 sz, .slice (some ⟨w.heap.size + 1, 0, none⟩) fl fl] 26)).drewN n) (fun i _ => len0 - (intOf i).toNat)
  case atStart => exact ⟨0, 0, Nat.zero_le _, rfl, rfl⟩
  case round =>
    obtain ⟨k, n, hk, rfl, rfl⟩ := hrel
    by_cases hlt : k < len0
    · obtain rfl := hao.out (by omega)
      have g1 : ((w2.alloc (made fl)).alloc (.cells #[.int .i64 sz, .slice (some ⟨w.heap.size + 1, 0, none⟩) fl fl] 26)).cell? ⟨w.heap.size, k, none⟩ = some (.int .i64 (zs.getD k 0)) := by
        rw [World.cell?_alloc_past _ _ _ (by simp; omega), World.cell?_alloc_past _ _ _ (by omega)]; exact hcs.out k hlt
      have g2 : ((w2.alloc (made fl)).alloc (.cells #[.int .i64 sz, .slice (some ⟨w.heap.size + 1, 0, none⟩) fl fl] 26)).cell? ⟨b, off + k, none⟩ = some (.int .i64 (zs.getD k 0)) := by
        have := hb.out (by omega)
        rw [World.cell?_alloc_past _ _ _ (by simp; omega), World.cell?_alloc_past _ _ _ (by omega), hB.out.cell (p := ⟨b, off + k, none⟩) this]; exact hc.out k hlt
      go_wp2_with fail
      go_quiet (fail)
      go_wp2
      exact ⟨⟨k + 1, _, by omega, by go_num, rfl⟩, by simp [intOf]; omega⟩
    · have hl1 : (1 : Int) ≤ (len0 : Int) + (r : Int) := by omega
      have hl2 : 1 ≤ len0 + r := by omega
      go_wp2_with fail
      go_quiet (fail)
      go_wp2
      go_ret
      exact ⟨rfl, below_drewN ((hB.out.alloc (by omega) _).alloc (by simp; omega) _) _⟩

abbrev W3 (w2 : World) (B fl sz : Nat) : World := (w2.alloc (made fl)).alloc (.cells #[.int .i64 sz, .slice (some ⟨B + 1, 0, none⟩) fl fl] 26)

/-- The contract of 'grow' at the law's call, where there is no room. -/
theorem grow_here (len0 n fl sz : Nat) (zs : List Int) (w w2 : World) (h : len0 ≤ 1024) (hz : zs.length = len0) (hf5 : fl < 512) (hs3 : sz < 300) (hLn : (len0 = 0 ∧ n = 1) ∨ (1 ≤ len0 ∧ n = 2 * len0))
    (hs : ∀ j, j < len0 → w2.cell? ⟨w.heap.size, j, none⟩ = some (.int .i64 (zs.getD j 0))) (hsz2 : w2.heap.size = w.heap.size + 1) :
    Calls Yba.prog 4 #[.pointer (some ⟨w.heap.size + 1 + 1, 0, none⟩), .slice (some ⟨w.heap.size, 0, none⟩) len0 len0] (W3 w2 w.heap.size fl sz) fun e w' =>
      ∃ gb fl', e = .returned (.slice (some ⟨gb, 0, none⟩) len0 n) ∧ Got (w.heap.size + 1 + 1) (w.heap.size + 1) fl len0 n sz zs (W3 w2 w.heap.size fl sz) w' gb fl' := by
  have e1 : (w2.alloc (made fl)).heap.size = w.heap.size + 1 + 1 := by simp [hsz2]
  have hr := World.rowIs_made w2 (.int .i64 0) fl 3
  rw [hsz2] at hr
  refine grow_full (w.heap.size + 1 + 1) (w.heap.size + 1) fl w.heap.size len0 n sz zs _ hz h hs3 hf5 hLn ?_ ?_ ?_ (fun j hj => ?_) (fun j hj => ?_) (fun j => ?_) (by simp [hsz2]) (by simp [hsz2]; omega) (by omega) (by omega) ?_
  · rw [World.cell?_alloc_at _ _ _ _ e1.symm]; rfl
  · rw [World.cell?_alloc_at _ _ _ _ e1.symm]; rfl
  · rw [World.frozen?_alloc_at _ _ _ _ e1.symm]
  · rw [World.cell?_alloc_past _ _ _ (by omega), World.cell?_alloc_past _ _ _ (by omega)]; exact hs j hj
  · rw [World.cell?_alloc_past _ _ _ (by omega), hr.cell hj]; rfl
  · rw [World.frozen?_alloc_past _ _ _ (by omega)]; exact hr.frozen j
  · refine row_alloc _ ⟨madeCells #[.int .i64 0] fl, ?_⟩
    rw [← hsz2]; exact heap_alloc_new w2 _

set_option maxRecDepth 100000 in
theorem walk_none (b off : Nat) (a0 : Option Addr) (len0 cap0 n fl sz : Nat) (zs : List Int) (a1 : Int) (a2 : Int) (a3 : Int) (w : World) (h : len0 ≤ 1024) (hz : Hid (zs.length = len0)) (hr : a1 % 4 = 0) (hfl : a3 % 512 = (fl : Int)) (hsz : a2 % 300 = (sz : Int))
    (hf5 : fl < 512) (hs3 : sz < 300) (hLn : 1 ≤ len0 ∧ n = 2 * len0)
    (w1 : 0 ≤ a1) (w1' : a1 ≤ 255) (w2 : 0 ≤ a2) (w2' : a2 ≤ 65535) (w3 : 0 ≤ a3) (w3' : a3 ≤ 65535) (hao : Hid (0 < len0 → a0 = some ⟨b, off, none⟩)) (hb : Hid (0 < len0 → b < w.heap.size)) (hc : Hid (∀ j, j < len0 → w.cell? ⟨b, off + j, none⟩ = some (.int .i64 (zs.getD j 0)))) :
    Calls Yba.prog 3 #[.slice a0 len0 cap0, .int .u8 a1, .int .u16 a2, .int .u16 a3] w fun e w' => e = .returned (.bool true) ∧ Below w.heap.size w w' := by
  have hmk1 := run_make_row' (P := Yba.prog) 22 3 (.int .i64 0) 8 Yba.underlying22 Yba.info3 rfl .i64 .i64 len0 (by omega) (by omega)
  have hmk2 := run_make_row' (P := Yba.prog) 22 3 (.int .i64 0) 8 Yba.underlying22 Yba.info3 rfl .i64 .i64 fl (by omega) (by omega)
  obtain ⟨w2, hcp, hs, hB0, hsz2⟩ := copy_ex b off len0 cap0 0 a0 zs w hao.out hb.out (by rw [hz.out]; exact Nat.le_refl _) hc.out
  have hgrow : Hid (∀ n, ((len0 = 0 ∧ n = 1) ∨ (1 ≤ len0 ∧ n = 2 * len0)) → _) := fun n hn => grow_here len0 n fl sz zs w w2 h hz.out hf5 hs3 hn hs hsz2
  have hcs : Hid (∀ j, j < len0 → w2.cell? ⟨w.heap.size, j, none⟩ = some (.int .i64 (zs.getD j 0))) := hs
  have hB : Hid (Below w.heap.size w w2) := hB0
  clear hs hB0
  obtain ⟨hLn, rfl⟩ := hLn
  have hpn := ptr_neq_same
  simp only [Nat.add_zero] at hcp
  go_enter Yba.func3, Yba.ntmps3
  go_wp2_with (go_at_call 4; refine (hgrow.out (2 * len0) (.inr ⟨hLn, rfl⟩)).mono ?_; rintro e w4 ⟨gb, fl', rfl, hgot⟩)
  obtain ⟨g1, g2, hgc, ⟨A, hA⟩, hgB, hca, hcb⟩ := hgot
  have G1 : Hid _ := g1
  have G2 : Hid _ := g2
  have HGC : Hid _ := hgc
  have HGB : Hid _ := hgB
  have HCA : Hid _ := hca
  have HCB : Hid _ := hcb
  have hbel : Hid (Below w.heap.size w w4) := ((hB.out.alloc (by omega) _).alloc (by simp; omega) _).trans (hgB w.heap.size (by omega) (by omega) (by simp; omega))
  have hsW : (W3 w2 w.heap.size fl sz).heap.size = w.heap.size + 1 + 1 + 1 := by simp [hsz2]
  rw [hsW] at G2
  clear g1 g2 hgc hgB hca hcb hsW
  go_loopw [16] (fun i wr => ∃ k n : Nat, k ≤ len0 ∧ i = .int .i64 k ∧ wr = w4.drewN n) (fun i _ => len0 - (intOf i).toNat)
  case atStart => exact ⟨0, 0, Nat.zero_le _, rfl, rfl⟩
  case round =>
    obtain ⟨k, n, hk, rfl, rfl⟩ := hrel
    by_cases hlt : k < len0
    · obtain rfl := hao.out (by omega)
      have g1 : w4.cell? ⟨gb, k, none⟩ = some (.int .i64 (zs.getD k 0)) := HGC.out k hlt
      have g2 : w4.cell? ⟨b, off + k, none⟩ = some (.int .i64 (zs.getD k 0)) := (hbel.out.cell (p := ⟨b, off + k, none⟩) (hb.out (by omega))).trans (hc.out k hlt)
      go_wp2_with fail
      go_quiet (fail)
      go_wp2
      exact ⟨⟨k + 1, _, by omega, by go_num, rfl⟩, by simp [intOf]; omega⟩
    · have hl1 : (1 : Int) ≤ 2 * (len0 : Int) := by omega
      have hl2 : 1 ≤ 2 * len0 := by omega
      by_cases hn : 2 * len0 ≤ fl
      · obtain ⟨rfl, e2⟩ := G1.out hn
        have e3 : (fl' : Int) = (fl : Int) - 2 * (len0 : Int) := by omega
        have h0 : (0 : Int) < (fl : Int) := by omega
        clear e2
        go_wp2_with fail
        go_quiet (fail)
        go_wp2
        go_ret
        exact ⟨rfl, below_drewN (below_drewN hbel.out _) _⟩
      · obtain ⟨rfl, e2⟩ := G2.out (by omega)
        have hpo := ptr_eql_other w4 _ _ (by omega) HCA.out HCB.out
        have hn2 : (fl : Int) < 2 * (len0 : Int) := by omega
        by_cases hs : sz < 2 * len0
        · obtain rfl : fl' = 0 := by omega
          clear e2
          by_cases hf0 : fl = 0
          · subst hf0
            go_wp2_with fail
            go_quiet (fail)
            go_wp2
            go_ret
            exact ⟨rfl, below_drewN (below_drewN hbel.out _) _⟩
          · have h0 : 0 < fl := by omega
            have h0' : (0 : Int) < (fl : Int) := by omega
            have h0d : decide ((0 : Int) < (fl : Int)) = true := by simpa using h0
            go_wp2_with fail
            go_quiet (fail)
            go_wp2
            go_ret
            exact ⟨rfl, below_drewN (below_drewN hbel.out _) _⟩
        · have hs1 : 2 * (len0 : Int) ≤ (sz : Int) := by omega
          have e3 : (fl' : Int) = (sz : Int) - 2 * (len0 : Int) := by omega
          clear e2
          by_cases hf0 : fl = 0
          · subst hf0
            go_wp2_with fail
            go_quiet (fail)
            go_wp2
            go_ret
            exact ⟨rfl, below_drewN (below_drewN hbel.out _) _⟩
          · have h0 : 0 < fl := by omega
            have h0' : (0 : Int) < (fl : Int) := by omega
            have h0d : decide ((0 : Int) < (fl : Int)) = true := by simpa using h0
            go_wp2_with fail
            go_quiet (fail)
            go_wp2
            go_ret
            exact ⟨rfl, below_drewN (below_drewN hbel.out _) _⟩

set_option maxRecDepth 100000 in
theorem walk_zero (a0 : Option Addr) (cap0 fl sz : Nat) (a1 : Int) (a2 : Int) (a3 : Int) (w : World) (hr : a1 % 4 = 0) (hfl : a3 % 512 = (fl : Int)) (hsz : a2 % 300 = (sz : Int))
    (hf5 : fl < 512) (hs3 : sz < 300)
    (w1 : 0 ≤ a1) (w1' : a1 ≤ 255) (w2 : 0 ≤ a2) (w2' : a2 ≤ 65535) (w3 : 0 ≤ a3) (w3' : a3 ≤ 65535) :
    Calls Yba.prog 3 #[.slice a0 0 cap0, .int .u8 a1, .int .u16 a2, .int .u16 a3] w fun e w' => e = .returned (.bool true) ∧ Below w.heap.size w w' := by
  have hmk1 : ∀ w : World, (Instr.makeSlice 22 (.int .i64 0) (.int .i64 0)).run Yba.prog w = .ok (.slice (some ⟨w.heap.size, 0, none⟩) 0 0) (w.alloc (made 0)) := run_make_row' (P := Yba.prog) 22 3 (.int .i64 0) 8 Yba.underlying22 Yba.info3 rfl .i64 .i64 0 (by omega) (by omega)
  have hmk2 := run_make_row' (P := Yba.prog) 22 3 (.int .i64 0) 8 Yba.underlying22 Yba.info3 rfl .i64 .i64 fl (by omega) (by omega)
  obtain ⟨w2, hcp, hs, hB0, hsz2⟩ := copy_ex 0 0 0 cap0 0 a0 [] w (by omega) (by omega) (by simp) (by simp)
  have hgrow : Hid (∀ n, ((0 = 0 ∧ n = 1) ∨ (1 ≤ 0 ∧ n = 2 * 0)) → _) := fun n hn => grow_here 0 n fl sz [] w w2 (by omega) rfl hf5 hs3 hn hs hsz2
  have hB : Hid (Below w.heap.size w w2) := hB0
  clear hs hB0
  have hpn := ptr_neq_same
  simp only [Nat.add_zero, Int.natCast_zero] at hcp
  go_enter Yba.func3, Yba.ntmps3
  go_wp2_with (go_at_call 4; refine (hgrow.out 1 (.inl ⟨rfl, rfl⟩)).mono ?_; rintro e w4 ⟨gb, fl', rfl, hgot⟩)
  obtain ⟨g1, g2, hgc, ⟨A, hA⟩, hgB, hca, hcb⟩ := hgot
  have G1 : Hid _ := g1
  have G2 : Hid _ := g2
  have HCA : Hid _ := hca
  have HCB : Hid _ := hcb
  have hbel : Hid (Below w.heap.size w w4) := ((hB.out.alloc (by omega) _).alloc (by simp; omega) _).trans (hgB w.heap.size (by omega) (by omega) (by simp; omega))
  have hsW : (W3 w2 w.heap.size fl sz).heap.size = w.heap.size + 1 + 1 + 1 := by simp [hsz2]
  rw [hsW] at G2
  clear g1 g2 hgc hgB hca hcb hsW
  go_loopw [16] (fun i wr => i = .int .i64 0 ∧ wr = w4) (fun i _ => 0)
  case atStart => exact ⟨rfl, rfl⟩
  case round =>
    obtain ⟨rfl, rfl⟩ := hrel
    by_cases hn : 1 ≤ fl
    · obtain ⟨rfl, e2⟩ := G1.out hn
      have e3 : (fl' : Int) = (fl : Int) - 1 := by omega
      have h0 : (0 : Int) < (fl : Int) := by omega
      have h1 : (1 : Int) ≤ (fl : Int) := by omega
      clear e2
      go_wp2_with fail
      go_quiet (fail)
      go_wp2
      go_ret
      exact ⟨rfl, below_drewN hbel.out _⟩
    · obtain ⟨rfl, e2⟩ := G2.out (by omega)
      obtain rfl : fl = 0 := by omega
      by_cases hs : sz < 1
      · obtain rfl : fl' = 0 := by omega
        clear e2
        go_wp2_with fail
        go_quiet (fail)
        go_wp2
        go_ret
        exact ⟨rfl, below_drewN hbel.out _⟩
      · have hs1 : (1 : Int) ≤ (sz : Int) := by omega
        have e3 : (fl' : Int) = (sz : Int) - 1 := by omega
        clear e2
        go_wp2_with fail
        go_quiet (fail)
        go_wp2
        go_ret
        exact ⟨rfl, below_drewN hbel.out _⟩
end Go.Proofs.Ybulkmou
