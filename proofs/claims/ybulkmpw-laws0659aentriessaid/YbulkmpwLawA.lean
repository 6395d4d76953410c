/-
  OUR OWN WORK (an AI prover). The walk of LawS0659AEntries.
-/
import Derived.Test.YbulkmpwPlain
import Derived.LoopN
import Derived.Deep.Slices
import Derived.Deep.RegionHeld3
import Derived.Deep.OwnRows
namespace Go.Proofs.Ybulkmpw
open Go.ChangeShapes Go.WideShapes Go.ChangeAt Go.RowKit
set_option linter.unusedVariables false

theorem Yba.info32 : (Yba.prog.info? 32).map (fun i => (i.zero, i.size, i.bytes)) = some (some (.pointer none), 1, 8) := by kernel_rfl

theorem Yba.info38 : (Yba.prog.info? 38).map (fun i => (i.zero, i.size, i.bytes)) = some (some (.pointer none), 1, 8) := by kernel_rfl
theorem made3 : madeCells #[Value.pointer none] 3 = #[.pointer none, .pointer none, .pointer none] := by
  apply Array.ext
  · simp [madeCells]
  · intro i h1 h2
    have : i < 3 := by simpa [madeCells] using h1
    rcases (show i = 0 ∨ i = 1 ∨ i = 2 by omega) with rfl | rfl | rfl <;> simp [madeCells]
/-- The uses of the input, as their cells say. -/
def UsesIn (w : World) (b off L : Nat) (Zf Af Sf : Nat → Int) (Yf : Nat → Bool) : Prop :=
  ∀ j, j < L → w.cell? ⟨b, off + j * 4, none⟩ = some (.int .u8 (Zf j)) ∧ w.cell? ⟨b, off + j * 4 + 1, none⟩ = some (.int .u8 (Af j)) ∧ w.cell? ⟨b, off + j * 4 + 2, none⟩ = some (.int .u8 (Sf j)) ∧ w.cell? ⟨b, off + j * 4 + 3, none⟩ = some (.bool (Yf j)) ∧
    0 ≤ Zf j ∧ Zf j ≤ 255 ∧ 0 ≤ Af j ∧ Af j ≤ 255 ∧ 0 ≤ Sf j ∧ Sf j ≤ 255
def sOf (Sf : Nat → Int) (j : Nat) : Fin 5 := ⟨(Sf j % 5).toNat, by omega⟩
def aOf (Af : Nat → Int) (j : Nat) : Nat := (Af j % 3).toNat

theorem ix_ne {c : Fin 5} {o : Option (Fin 5)} (h : ¬ o = some c) : ((c.val : Nat) : Int) ≠ ix o := by
  intro e
  cases o with
  | none => unfold ix at e; simp only at e; omega
  | some d => exact h (congrArg some (Fin.ext (by simp [ix] at e; omega)))

set_option maxRecDepth 100000 in
set_option maxHeartbeats 4000000 in
theorem law_near (L c0 n c1 b1 o1 b2 o2 : Nat) (a0 a1 : Option Addr) (sh : Int) (Zf Af Sf Cf : Nat → Int) (Yf : Nat → Bool) (w : World) (hL : L ≤ 1024) (hn : n ≤ 1024) (hs0 : 0 ≤ sh) (hs1 : sh ≤ 255)
    (ha0 : 0 < L → a0 = some ⟨b1, o1, none⟩) (hb1 : 0 < L → b1 < w.heap.size) (hu : Hid (UsesIn w b1 o1 L Zf Af Sf Yf))
    (ha1 : 0 < n → a1 = some ⟨b2, o2, none⟩) (hb2 : 0 < n → b2 < w.heap.size) (hc : Hid (∀ j, j < n → w.cell? ⟨b2, o2 + j, none⟩ = some (.int .u8 (Cf j)) ∧ 0 ≤ Cf j ∧ Cf j ≤ 255)) :
    Calls Yba.prog 3 #[.slice a0 L c0, .slice a1 n c1, .int .u8 sh] w fun e w' => e = .returned (.bool true) ∧ Below w.heap.size w w' := by
  obtain ⟨i0, hi, hz0, hz1, hz2⟩ := info_parts Yba.info38
  have hmk : ∀ w, (Instr.makeMap 42 none).run Yba.prog w = .ok (.map (some w.heap.size)) (w.alloc (.map #[] 0)) := fun _ => rfl
  have hms := run_make_row' (P := Yba.prog) 31 32 (.pointer none) 8 Yba.underlying31 Yba.info32 rfl .i64 .i64 3 (by omega) (by omega)
  rw [show ((3 : Nat) : Int) = 3 from rfl, made3] at hms
  go_enter Yba.func3, Yba.ntmps3
  go_wp2_with fail
  refine wp_loop_rounds 6 ?_
  iterate 6 (rw [rounds_succ]; go_wp2_with fail)
  refine wp_loop_rounds 4 ?_
  iterate 4 (rw [rounds_succ]; go_wp2_with fail)
  simp only [Nat.add_assoc, Nat.reduceAdd]
  rw [show (8 + sh % 5) % 5 = (8 + sh) % 5 by omega]
  change Code.wp _ _ _ _ (allocs w (objs w.heap.size sh))
  have HBs := hide (based w sh)
  have HB0 := hide (allocs_below (objs w.heap.size sh) w w w.heap.size (Nat.le_refl _) (Below.refl _ _))
  clear hms
  generalize allocs w (objs w.heap.size sh) = w1 at HBs HB0 ⊢
  go_loopw [74] (fun i wr => ∃ (k : Nat) (us : Nat → List U) (V : Nat → Value), k ≤ L ∧ i = .int .i64 k ∧ Zs w1 wr w.heap.size us V ∧ Sem Yf (aOf Af) (sOf Sf) k us ∧ (∀ z, z < 3 → (us z).length ≤ k)) (fun i _ => L - (intOf i).toNat)
  case atStart => exact ⟨0, _, _, Nat.zero_le _, rfl, HBs.out.zs, fun a s => by simp, fun z hz => Nat.le_refl _⟩
  case round =>
    obtain ⟨k, us, V, hk, rfl, hZ, hSem, hlen⟩ := hrel
    have HZ := hide hZ
    have HSem := hide hSem
    have HLen := hide hlen
    have hsz := hZ.size
    clear hZ hSem hlen
    have HB : Hid (Below w.heap.size w wr) := HB0.out.trans (HZ.out.below.mono (by omega))
    by_cases hlt : k < L
    · obtain rfl := ha0 (by omega)
      have hbb := hb1 (by omega)
      obtain ⟨d0, d1, d2, d3, z0, z1, z2, z3, z4, z5⟩ := hu.out k hlt
      rw [← HB.out.cell (p := ⟨b1, _, none⟩) hbb] at d0 d1 d2 d3
      have hi3 : (k : Int) < (L : Int) := by omega
      have t0 : 0 ≤ Zf k % 3 := by omega
      have t1 : Zf k % 3 < 3 := by omega
      have t2 : 0 ≤ Af k % 3 := by omega
      have t3 : Af k % 3 < 3 := by omega
      have t4 : 0 ≤ Sf k % 5 := by omega
      have t5 : Sf k % 5 < 5 := by omega
      have hbw : b1 < wr.heap.size := by omega
      have f1 : wr.cell? ⟨w.heap.size + 8, (Zf k % 3).toNat, none⟩ = some (.pointer (some ⟨w.heap.size + 9 + (Zf k % 3).toNat, 0, none⟩)) := by
        rw [HZ.out.below.cell (p := ⟨w.heap.size + 8, _, none⟩) (by show w.heap.size + 8 < _; omega)]; exact HBs.out.zon _ (by omega)
      have f2 : wr.cell? ⟨w.heap.size, (Af k % 3).toNat, none⟩ = some (.string (nm (Af k % 3).toNat)) := by
        rw [HZ.out.below.cell (p := ⟨w.heap.size, _, none⟩) (by show w.heap.size < _; omega)]; exact HBs.out.abb _ (by omega)
      have f3 : wr.cell? ⟨w.heap.size + 1, (Sf k % 5).toNat, none⟩ = some (.pointer (some ⟨w.heap.size + 2 + (Sf k % 5).toNat, 0, none⟩)) := by
        rw [HZ.out.below.cell (p := ⟨w.heap.size + 1, _, none⟩) (by show w.heap.size + 1 < _; omega)]; exact HBs.out.pool _ (by omega)
      have l1 : w.heap.size + 8 < wr.heap.size := by omega
      have l2 : w.heap.size < wr.heap.size := by omega
      have l3 : w.heap.size + 1 < wr.heap.size := by omega
      go_wp2_with fail
      have r1 : (wr.alloc (.cells #[.int .u8 (Zf k), .int .u8 (Af k), .int .u8 (Sf k), .bool (Yf k)] 37)).cell? ⟨wr.heap.size, 1, none⟩ = some (.int .u8 (Af k)) := World.cell?_alloc_at _ _ _ _ rfl
      have r2 : (wr.alloc (.cells #[.int .u8 (Zf k), .int .u8 (Af k), .int .u8 (Sf k), .bool (Yf k)] 37)).cell? ⟨wr.heap.size, 2, none⟩ = some (.int .u8 (Sf k)) := World.cell?_alloc_at _ _ _ _ rfl
      have r3 : (wr.alloc (.cells #[.int .u8 (Zf k), .int .u8 (Af k), .int .u8 (Sf k), .bool (Yf k)] 37)).cell? ⟨wr.heap.size, 3, none⟩ = some (.bool (Yf k)) := World.cell?_alloc_at _ _ _ _ rfl
      have r4 : (wr.alloc (.cells #[.int .u8 (Zf k), .int .u8 (Af k), .int .u8 (Sf k), .bool (Yf k)] 37)).cell? ⟨w.heap.size, (Af k % 3).toNat, none⟩ = some (.string (nm (Af k % 3).toNat)) := by rw [World.cell?_alloc_past _ _ _ l2]; exact f2
      have r5 : (wr.alloc (.cells #[.int .u8 (Zf k), .int .u8 (Af k), .int .u8 (Sf k), .bool (Yf k)] 37)).cell? ⟨w.heap.size + 1, (Sf k % 5).toNat, none⟩ = some (.pointer (some ⟨w.heap.size + 2 + (Sf k % 5).toNat, 0, none⟩)) := by rw [World.cell?_alloc_past _ _ _ l3]; exact f3
      have HBq := hide (HZ.out.below.alloc (by omega) (.cells #[.int .u8 (Zf k), .int .u8 (Af k), .int .u8 (Sf k), .bool (Yf k)] 37))
      have hsq : (wr.alloc (.cells #[.int .u8 (Zf k), .int .u8 (Af k), .int .u8 (Sf k), .bool (Yf k)] 37)).heap.size = wr.heap.size + 1 := World.size_alloc _ _
      generalize hq : wr.alloc (.cells #[.int .u8 (Zf k), .int .u8 (Af k), .int .u8 (Sf k), .bool (Yf k)] 37) = wq at r1 r2 r3 r4 r5 hsq HBq ⊢
      have Hq := hide hq
      clear hq d0 d1 d2 d3 f1 f2 f3
      have v1 : IntKind.i64.wrap (Af k) = Af k := IntWalk.i64_in _ ⟨by omega, by omega⟩
      have v2 : IntKind.i64.wrap (Sf k) = Sf k := IntWalk.i64_in _ ⟨by omega, by omega⟩
      have m1 : (Af k).tmod 3 = Af k % 3 := Int.tmod_eq_emod_of_nonneg z2
      have m2 : (Sf k).tmod 5 = Sf k % 5 := Int.tmod_eq_emod_of_nonneg z4
      go_region_held3 (fun w' => w'.cell? ⟨wr.heap.size, 1, none⟩ = some (.int .u8 (Af k)) ∧ w'.cell? ⟨wr.heap.size, 2, none⟩ = some (.int .u8 (Sf k)) ∧ w'.cell? ⟨wr.heap.size, 3, none⟩ = some (.bool (Yf k)) ∧ w'.cell? ⟨w.heap.size, (Af k % 3).toNat, none⟩ = some (.string (nm (Af k % 3).toNat)) ∧ w'.cell? ⟨w.heap.size + 1, (Sf k % 5).toNat, none⟩ = some (.pointer (some ⟨w.heap.size + 2 + (Sf k % 5).toNat, 0, none⟩)))
        (first
          | (go_split_ands; exact ⟨by go_keep, by go_keep, by go_keep, by go_keep, by go_keep⟩)
          | (go_split_ands; exact ⟨(World.cell?_alloc_past _ _ _ (by simp; omega)).trans (by assumption), (World.cell?_alloc_past _ _ _ (by simp; omega)).trans (by assumption), (World.cell?_alloc_past _ _ _ (by simp; omega)).trans (by assumption), (World.cell?_alloc_past _ _ _ (by simp; omega)).trans (by assumption), (World.cell?_alloc_past _ _ _ (by simp; omega)).trans (by assumption)⟩))
        (fail)
      have hz : (Zf k % 3).toNat < 3 := by omega
      have k1 : wq.cell? ⟨w.heap.size + 9 + (Zf k % 3).toNat, 2, none⟩ = some (V (Zf k % 3).toNat) := by
        rw [← Hq.out, World.cell?_alloc_past _ _ _ (by omega)]; exact (HZ.out.cell _ hz).1
      have l4 : w.heap.size + 9 + (Zf k % 3).toNat < wr.heap.size + 1 := by omega
      clear r1 r2 r3 r4 r5 v1 v2 m1 m2
      generalize hcu : #[Value.pointer (some ⟨w.heap.size + 9 + (Zf k % 3).toNat, 0, none⟩), .string (nm (Af k % 3).toNat), .slice none 0 0, .slice none 0 0, .bool (Yf k), .pointer (some ⟨w.heap.size + 2 + (Sf k % 5).toNat, 0, none⟩)] = cu
      have y1 : Hid (cu[1]? = some (.string (nm (aOf Af k)))) := by rw [← hcu]; rfl
      have y4 : Hid (cu[4]? = some (.bool (Yf k))) := by rw [← hcu]; rfl
      have y5 : Hid (cu[5]? = some (enc5 (w.heap.size + 2) (sOf Sf k))) := by rw [← hcu]; rfl
      clear hcu
      have hln := HLen.out _ hz
      have HO : Hid (((wq.alloc (.cells cu 41)).alloc (.cells #[.pointer (some ⟨wr.heap.size + 1, 0, none⟩)] 38)).drew.ownsRow (w.heap.size + 12) 38 1 (V (Zf k % 3).toNat) (us (Zf k % 3).toNat).length ((us (Zf k % 3).toNat).map uptr)) := by
        have h := ((((HZ.out.row _ hz).alloc (.cells #[.int .u8 (Zf k), .int .u8 (Af k), .int .u8 (Sf k), .bool (Yf k)] 37)).alloc (.cells cu 41)).alloc (.cells #[.pointer (some ⟨wr.heap.size + 1, 0, none⟩)] 38)).drew
        rw [Hq.out] at h
        exact h
      have HN : Hid (∀ j u, [Value.pointer (some ⟨wr.heap.size + 1, 0, none⟩)][j]? = some u → ((wq.alloc (.cells cu 41)).alloc (.cells #[.pointer (some ⟨wr.heap.size + 1, 0, none⟩)] 38)).drew.cell? ((⟨wr.heap.size + 1 + 1, 0, none⟩ : Addr).add j) = some u) :=
        World.news_of_block (cs := #[.pointer (some ⟨wr.heap.size + 1, 0, none⟩)]) (t := 38) (fr := (0, 0)) (by
          have h := heap_alloc_new (wq.alloc (.cells cu 41)) (.cells #[.pointer (some ⟨wr.heap.size + 1, 0, none⟩)] 38)
          rw [World.size_alloc, hsq] at h
          exact h)
      have HBc : Hid (Below (w.heap.size + 9) w1 ((wq.alloc (.cells cu 41)).alloc (.cells #[.pointer (some ⟨wr.heap.size + 1, 0, none⟩)] 38)).drew) := ((HBq.out.alloc (by omega) _).alloc (by rw [World.size_alloc]; omega) _).drew
      have HS : Hid (((wq.alloc (.cells cu 41)).alloc (.cells #[.pointer (some ⟨wr.heap.size + 1, 0, none⟩)] 38)).drew.heap.size = wr.heap.size + 3) := by
        show ((wq.alloc (.cells cu 41)).alloc (.cells #[.pointer (some ⟨wr.heap.size + 1, 0, none⟩)] 38)).heap.size = _
        rw [World.size_alloc, World.size_alloc, hsq]
      have HH : Hid (((wq.alloc (.cells cu 41)).alloc (.cells #[.pointer (some ⟨wr.heap.size + 1, 0, none⟩)] 38)).drew.heap = (((wr.alloc (.cells #[.int .u8 (Zf k), .int .u8 (Af k), .int .u8 (Sf k), .bool (Yf k)] 37)).alloc (.cells cu 41)).alloc (.cells #[.pointer (some ⟨wr.heap.size + 1, 0, none⟩)] 38)).heap) := by rw [Hq.out]; rfl
      go_wp2_with (at_builtin; refine wpList_append_lies _ rfl (.tmp 106) (.tmp 108) 28 rfl (w.heap.size + 12) 38 i0 _ 1 8 Yba.underlying28 hi hz0 hz1 hz2 rfl (by decide) _ _ ((us (Zf k % 3).toNat).map uptr) rfl HO.out ⟨wr.heap.size + 1 + 1, 0, none⟩ 1 1 [.pointer (some ⟨wr.heap.size + 1, 0, none⟩)] rfl rfl HN.out (by simp [Value.oneCell']) (by decide) (by unfold maxLen; omega) (by omega) (by rw [HS.out]; omega) (wr.heap.size + 3) HS.out ?_; intro g cap w3 hown3 hgrow hat hlt3; obtain ⟨⟨s1, s2⟩, hZ'⟩ := HZ.out.add (Zf k % 3).toNat hz _ _ cu HH.out HBc.out (aOf Af k) (Yf k) (sOf Sf k) (by unfold aOf; omega) y1.out y4.out y5.out g cap hown3 hgrow hat; have HZ' := hide hZ'; clear hZ')
      refine ⟨⟨k + 1, _, _, by omega, by go_num, HZ'.out, HSem.out.add _ hz _, fun z hz' => ?_⟩, by simp [intOf]; omega⟩
      have := HLen.out z hz'
      unfold addU
      split
      · simp; omega
      · omega
    · obtain rfl : k = L := by omega
      clear hi hz0 hz1 hz2
      generalize hch : (fun a => if h : a < n ∧ Cf a % 6 < 5 ∧ 0 ≤ Cf a % 6 then some (⟨(Cf a % 6).toNat, by omega⟩ : Fin 5) else none) = ch
      have HCh := hide (fun a => congrFun hch a)
      clear hch
      have HStart := hide (Chs_start wr (w.heap.size + 2) ch)
      go_wp2
      have HBr : Hid (Below w.heap.size w wr) := HB.out
      have HAb : Hid (∀ a, a < 3 → wr.cell? ⟨w.heap.size, a, none⟩ = some (.string (nm a))) := fun a ha => by
        rw [HZ.out.below.cell (p := ⟨w.heap.size, _, none⟩) (by show w.heap.size < _; omega)]; exact HBs.out.abb _ ha
      have HPo : Hid (∀ i, i < 5 → wr.cell? ⟨w.heap.size + 1, i, none⟩ = some (.pointer (some ⟨w.heap.size + 2 + i, 0, none⟩))) := fun i hi => by
        rw [HZ.out.below.cell (p := ⟨w.heap.size + 1, _, none⟩) (by show w.heap.size + 1 < _; omega)]; exact HBs.out.pool _ hi
      have HPool : Hid (Pool wr (w.heap.size + 2) (rkOf sh)) := HBs.out.sens.below HZ.out.below (by omega)
      generalize hcb : wr.heap.size = cb at HStart hsz ⊢
      go_loopw [19] (fun i wq => ∃ a : Nat, a ≤ 3 ∧ i = .int .i64 a ∧ Chs wr wq (w.heap.size + 2) cb a ch) (fun i _ => 3 - (intOf i).toNat)
      case atStart => exact ⟨0, by omega, rfl, HStart.out⟩
      case round =>
        obtain ⟨a, ha, rfl, hC⟩ := hrel
        have HC := hide hC
        clear hC HStart
        by_cases ha3 : a < 3
        · have ha3' : (a : Int) < 3 := by omega
          obtain ⟨x1, x2⟩ := HC.out.cell a ha3
          by_cases han : a < n
          · have han' : (a : Int) < (n : Int) := by omega
            obtain rfl := ha1 (by omega)
            have hbb := hb2 (by omega)
            obtain ⟨e1, e2, e3⟩ := hc.out a han
            have hcw : b2 < cb := by omega
            have y1 : wr.cell? ⟨b2, o2 + a, none⟩ = some (.int .u8 (Cf a)) := by rw [HC.out.below.cell (p := ⟨b2, _, none⟩) hcw]; rw [HBr.out.cell (p := ⟨b2, _, none⟩) hbb]; exact e1
            have hb2w : b2 ≠ cb + 1 := by omega
            by_cases h5 : Cf a % 6 < 5
            · have q1 : 0 ≤ Cf a % 6 := by omega
              have hca : ch a = some ⟨(Cf a % 6).toNat, by omega⟩ := by rw [← HCh.out a, dif_pos ⟨han, h5, q1⟩]
              go_wp2_with fail
              have hg : wr.grownBy ((wr.setCell ⟨cb + 1, a, none⟩ (.int .i64 (-1))).setCell ⟨cb + 1, a, none⟩ (.int .i64 (Cf a % 6))) (some (cb + 1)) := (grown_setCell wr ⟨cb + 1, a, none⟩ _).andThen (grown_setCell _ ⟨cb + 1, a, none⟩ _) (fun j hj => .inr hj)
              have hcell : ∀ b, b < 3 → ((wr.setCell ⟨cb + 1, a, none⟩ (.int .i64 (-1))).setCell ⟨cb + 1, a, none⟩ (.int .i64 (Cf a % 6))).cell? ⟨cb + 1, b, none⟩ = some (.int .i64 (if b = a then (((⟨(Cf a % 6).toNat, by omega⟩ : Fin 5).val : Nat) : Int) else idxTo ch a b)) ∧ ((wr.setCell ⟨cb + 1, a, none⟩ (.int .i64 (-1))).setCell ⟨cb + 1, a, none⟩ (.int .i64 (Cf a % 6))).frozen? ⟨cb + 1, b, none⟩ = false := fun b hb => by
                obtain ⟨p1, p2⟩ := HC.out.cell b hb
                refine ⟨?_, by rw [World.frozen?_setCell, World.frozen?_setCell]; exact p2⟩
                by_cases e : b = a
                · subst e
                  rw [World.cell?_setCell_same _ _ _ (World.cell?_setCell_same _ _ _ p1), if_pos rfl]
                  show some (Value.int .i64 (Cf b % 6)) = some (Value.int .i64 ((Cf b % 6).toNat : Int))
                  rw [Int.toNat_of_nonneg q1]
                · have hne : (⟨cb + 1, a, none⟩ : Addr) ≠ ⟨cb + 1, b, none⟩ := by intro e'; have := congrArg Addr.off e'; simp at this; omega
                  rw [World.cell?_setCell_other _ _ _ _ hne, World.cell?_setCell_other _ _ _ _ hne, if_neg e]; exact p1
              have hbS := ((HC.out.below.setCell (p := ⟨cb + 1, a, none⟩) (by show cb ≤ cb + 1; omega) (.int .i64 (-1))).setCell (p := ⟨cb + 1, a, none⟩) (by show cb ≤ cb + 1; omega) (.int .i64 (Cf a % 6)))
              obtain ⟨w2, hrun, hC2, hg2, hs2⟩ := HC.out.put ha3 _ hca (wS := ((wr.setCell ⟨cb + 1, a, none⟩ (.int .i64 (-1))).setCell ⟨cb + 1, a, none⟩ (.int .i64 (Cf a % 6))).drew) ⟨hg.os, hg.tape, hg.output, hg.size, hg.block⟩ hcell hbS.drew
              have r1 : ((wr.setCell ⟨cb + 1, a, none⟩ (.int .i64 (-1))).setCell ⟨cb + 1, a, none⟩ (.int .i64 (Cf a % 6))).cell? ⟨w.heap.size, a, none⟩ = some (.string (nm a)) := by rw [hbS.cell (p := ⟨w.heap.size, a, none⟩) (by show w.heap.size < cb; omega)]; exact HAb.out a ha3
              have r2 : ((wr.setCell ⟨cb + 1, a, none⟩ (.int .i64 (-1))).setCell ⟨cb + 1, a, none⟩ (.int .i64 (Cf a % 6))).cell? ⟨w.heap.size + 1, (Cf a % 6).toNat, none⟩ = some (.pointer (some ⟨w.heap.size + 2 + (Cf a % 6).toNat, 0, none⟩)) := by rw [hbS.cell (p := ⟨w.heap.size + 1, _, none⟩) (by show w.heap.size + 1 < cb; omega)]; exact HPo.out _ (by omega)
              have hsw : ((wr.setCell ⟨cb + 1, a, none⟩ (.int .i64 (-1))).setCell ⟨cb + 1, a, none⟩ (.int .i64 (Cf a % 6))).heap.size = wr.heap.size := by simp
              have hszq := HC.out.size
              have HC2 := hide hC2
              clear hg hcell hbS hC2 x1 x2 y1 hca
              generalize (wr.setCell ⟨cb + 1, a, none⟩ (.int .i64 (-1))).setCell ⟨cb + 1, a, none⟩ (.int .i64 (Cf a % 6)) = wS at hrun hg2 hs2 r1 r2 hsw ⊢
              have u1 : w.heap.size < wS.drew.heap.size := by show _ < wS.heap.size; omega
              have u2 : w.heap.size + 1 < wS.drew.heap.size := by show _ < wS.heap.size; omega
              have n1 : some w.heap.size ≠ some cb := fun e => by injection e with e; omega
              have n2 : some (w.heap.size + 1) ≠ some cb := fun e => by injection e with e; omega
              go_region_held3 (fun w' => w'.cell? ⟨w.heap.size, a, none⟩ = some (.string (nm a)) ∧ w'.cell? ⟨w.heap.size + 1, (Cf a % 6).toNat, none⟩ = some (.pointer (some ⟨w.heap.size + 2 + (Cf a % 6).toNat, 0, none⟩)))
                (first
                  | (go_split_ands; exact ⟨by go_keep, by go_keep⟩)
                  | (go_split_ands; exact ⟨(hg2.cell_far ⟨w.heap.size, a, none⟩ u1 n1).trans (by assumption), (hg2.cell_far ⟨w.heap.size + 1, _, none⟩ u2 n2).trans (by assumption)⟩))
                (fail)
              go_wp2
              exact ⟨⟨a + 1, by omega, by go_num, HC2.out⟩, by simp [intOf]; omega⟩
            · have HC2 := hide (HC.out.skip ha3 (by rw [← HCh.out a]; rw [dif_neg (by omega)]))
              go_wp2
              exact ⟨⟨a + 1, by omega, by go_num, HC2.out⟩, by simp [intOf]; omega⟩
          · have han' : ¬ (a : Int) < (n : Int) := by omega
            have HC2 := hide (HC.out.skip ha3 (by rw [← HCh.out a]; rw [dif_neg (by omega)]))
            go_wp2
            exact ⟨⟨a + 1, by omega, by go_num, HC2.out⟩, by simp [intOf]; omega⟩
        · have ha3' : ¬ (a : Int) < 3 := by omega
          have hC3 := HC.out
          rw [show a = 3 by omega] at hC3
          have HC3 := hide hC3
          clear HC hC3
          have HZon : Hid (ZonesAt wr (w.heap.size + 8) (w.heap.size + 9) (w.heap.size + 2) us) := HZ.out.zonesAt HBs.out.zon (fun z hz => by have := HLen.out z hz; omega) hcb HC3.out.below
          have hcon : Hid (∀ w', w' = wr → _) := fun w' (e : w' = wr) => country_calls (w.heap.size + 8) cb (w.heap.size + 9) (w.heap.size + 2) (rkOf sh) us (upto ch 3) w' (by rw [e]; exact HPool.out.below HC3.out.below (by omega)) (by rw [e]; exact HZon) (by rw [e]; exact HC3.out.map)
          go_wp2_with (go_at_call 6; refine (hcon.out _ rfl).mono ?_; rintro e wN ⟨E, V', rfl, hColl, hMap, hSrt, hNd, hBel⟩)
          have hszq := HC3.out.size
          have hszN := hBel.size
          have HMap := hide hMap
          have HSrt := hide hSrt
          have HNd := hide hNd
          have HBN : Hid (Below w.heap.size w wN) := (HBr.out.trans (HC3.out.below.mono (by omega))).trans (hBel.mono (by omega))
          have HAbN : Hid (∀ a, a < 3 → wN.cell? ⟨w.heap.size, a, none⟩ = some (.string (nm a))) := fun a ha => by
            rw [hBel.cell (p := ⟨w.heap.size, a, none⟩) (by show w.heap.size < _; omega), HC3.out.below.cell (p := ⟨w.heap.size, a, none⟩) (by show w.heap.size < _; omega)]; exact HAb.out a ha
          have HPoN : Hid (∀ i, i < 5 → wN.cell? ⟨w.heap.size + 1, i, none⟩ = some (.pointer (some ⟨w.heap.size + 2 + i, 0, none⟩))) := fun i hi => by
            rw [hBel.cell (p := ⟨w.heap.size + 1, i, none⟩) (by show w.heap.size + 1 < _; omega), HC3.out.below.cell (p := ⟨w.heap.size + 1, i, none⟩) (by show w.heap.size + 1 < _; omega)]; exact HPo.out i hi
          have HPoolN : Hid (Pool wN (w.heap.size + 2) (rkOf sh)) := (HPool.out.below HC3.out.below (by omega)).below hBel (by omega)
          have HIx : Hid (∀ a, a < 3 → wN.cell? ⟨cb + 1, a, none⟩ = some (.int .i64 (ix (ch a)))) := fun a ha => by
            rw [hBel.cell (p := ⟨cb + 1, a, none⟩) (by show cb + 1 < _; omega), (HC3.out.cell a ha).1]; unfold idxTo; rw [if_pos ha]
          generalize hpp : (fun (a : Nat) (s : Fin 5) => decide (ch a ≠ some s) && decide (∃ j, j < k ∧ Yf j = true ∧ aOf Af j = a ∧ sOf Sf j = s)) = p
          have HPp : Hid (∀ a s, (decide (ch a ≠ some s) && decide (∃ j, j < k ∧ Yf j = true ∧ aOf Af j = a ∧ sOf Sf j = s)) = p a s) := fun a s => congrFun (congrFun hpp a) s
          have HEp : Hid (∀ a, a < 3 → ∀ s, s ∈ E a ↔ p a s = true) := fun a ha s => by
            rw [← HPp.out a s, hColl a ha s, HSem.out a s]
            unfold upto
            rw [if_pos ha, Bool.and_eq_true, decide_eq_true_iff, decide_eq_true_iff]
            exact And.comm
          obtain ⟨iv, hiv⟩ := Deep.choose_lt (α := Fin 5) (n := 5) (fun r hr => sAt_five sh hs0 r hr)
          have HIv := hide hiv
          clear hpp hiv hColl hMap hSrt hNd hBel hcon HZon HC3
          generalize wr.heap.size = mb at HMap hszN hszq ⊢
          clear HB HBr HAb HPo HPool HZ HSem HLen HCh HBs HB0
          go_wp2
          go_loopw [22, 23] (fun ne i wr => ∃ a : Nat, a ≤ 3 ∧ i = .int .i64 a ∧ ne = .int .i64 (cnTo (entm E V') a) ∧ Below wN.heap.size wN wr) (fun ne i _ => 3 - (intOf i).toNat)
          case atStart => exact ⟨0, by omega, rfl, rfl, Below.refl _ _⟩
          case round =>
            obtain ⟨a, ha, rfl, rfl, hbA⟩ := hrel
            have HBA := hide hbA
            clear hbA
            by_cases ha3 : a < 3
            · have ha3' : (a : Int) < 3 := by omega
              go_wp2
              go_loopw [24, 25] (fun v i wr => ∃ r : Nat, r ≤ 5 ∧ i = .int .i64 r ∧ wr.ownsRow wN.heap.size 25 1 v (wl iv (p a) r).length ((wl iv (p a) r).map (enc5 (w.heap.size + 2))) ∧ Below wN.heap.size wN wr) (fun v i _ => 5 - (intOf i).toNat)
              case atStart => exact ⟨0, by omega, rfl, World.ownsRow_nil _ _ _ _, HBA.out⟩
              case round =>
                clear HBA
                obtain ⟨r, hr, rfl, hown, hbR⟩ := hrel
                have HO := hide hown
                have HBR := hide hbR
                clear hown hbR
                by_cases hr5 : r < 5
                · have hr5' : (r : Int) < 5 := by omega
                  go_wp2
                  go_loop [26, 27] (fun s i => ∃ q : Nat, q ≤ 5 ∧ i = .int .i64 q ∧ s = .int .i64 (sAt sh r q)) (fun s i => 5 - (intOf i).toNat)
                  case atStart => exact ⟨0, by omega, rfl, rfl⟩
                  case round =>
                    obtain ⟨q, hq, rfl, rfl⟩ := hrel
                    by_cases hq5 : q < 5
                    · have hq5' : (q : Int) < 5 := by omega
                      have g1 : wr.cell? ⟨w.heap.size + 1, q, none⟩ = some (.pointer (some ⟨w.heap.size + 2 + q, 0, none⟩)) := by
                        rw [HBR.out.cell (p := ⟨w.heap.size + 1, q, none⟩) (by show w.heap.size + 1 < _; omega)]; exact HPoN.out q hq5
                      have g2 : wr.cell? ⟨w.heap.size + 2 + q, 3, none⟩ = some (.int .i64 (rkOf sh q)) := (HPoolN.out.below HBR.out (by omega)).cell q hq5
                      by_cases hrk : rkOf sh q = r
                      · have hs : sAt sh r (q + 1) = (q : Int) := by show (if rkOf sh q = r then (q : Int) else sAt sh r q) = _; rw [if_pos hrk]
                        go_wp2
                        exact ⟨⟨q + 1, by omega, by go_num, by rw [hs]⟩, by simp [intOf]; omega⟩
                      · have hs : sAt sh r (q + 1) = sAt sh r q := by show (if rkOf sh q = r then (q : Int) else sAt sh r q) = _; rw [if_neg hrk]
                        go_wp2
                        exact ⟨⟨q + 1, by omega, by go_num, by rw [hs]⟩, by simp [intOf]; omega⟩
                    · have hq5' : ¬ (q : Int) < 5 := by omega
                      have hsv : sAt sh r q = ((iv r).val : Int) := by rw [show q = 5 by omega]; exact (HIv.out r hr5).1
                      rw [hsv]
                      clear hsv
                      have hx := HIx.out a ha3
                      rw [← HBR.out.cell (p := ⟨cb + 1, a, none⟩) (by show cb + 1 < _; omega)] at hx
                      have hpr := HPp.out a (iv r)
                      have hcv := (iv r).isLt
                      have hwl : wl iv (p a) (r + 1) = if p a (iv r) then wl iv (p a) r ++ [iv r] else wl iv (p a) r := rfl
                      by_cases hch : ch a = some (iv r)
                      · have hpf : p a (iv r) = false := by rw [← hpr]; simp [hch]
                        rw [if_neg (by rw [hpf]; decide)] at hwl
                        have HW := hide hwl
                        rw [hch] at hx
                        change wr.cell? _ = some (.int .i64 ((iv r).val : Int)) at hx
                        clear hpr hwl hpf hch
                        generalize (iv r).val = cv at hx hcv ⊢
                        go_wp2
                        exact ⟨⟨r + 1, by omega, by go_num, by rw [HW.out]; exact HO.out, HBR.out⟩, by simp [intOf]; omega⟩
                      · have hix : ((iv r).val : Int) ≠ ix (ch a) := ix_ne hch
                        generalize ix (ch a) = y at hx hix
                        have HPr : Hid (p a (iv r) = decide (∃ j, j < k ∧ Yf j = true ∧ aOf Af j = a ∧ sOf Sf j = iv r)) := by rw [← hpr, decide_eq_true (show ch a ≠ some (iv r) from hch), Bool.true_and]; rfl
                        have HW := hide hwl
                        clear hpr hwl hch
                        have hixb : (((iv r).val : Int) == y) = false := beq_eq_false_iff_ne.2 hix
                        have hixc : ¬ ((iv r).val : Int) = y := hix
                        have hcv0 : ¬ ((iv r).val : Int) < 0 := by omega
                        clear hix
                        go_wp2
                        go_loopw [28, 177] (fun used i wr => ∃ j : Nat, j ≤ k ∧ i = .int .i64 j ∧ used = .bool false ∧ (∀ j', j' < j → ¬ (Yf j' = true ∧ aOf Af j' = a ∧ sOf Sf j' = iv r)) ∧ wr.ownsRow wN.heap.size 25 1 u24 (wl iv (p a) r).length ((wl iv (p a) r).map (enc5 (w.heap.size + 2))) ∧ Below wN.heap.size wN wr) (fun used i _ => k - (intOf i).toNat)
                        case atStart => exact ⟨0, Nat.zero_le _, rfl, rfl, fun j' h => absurd h (by omega), HO.out, HBR.out⟩
                        case round =>
                          clear hx hixb hixc HO HBR
                          obtain ⟨j, hj, rfl, rfl, hnot, hown, hbJ⟩ := hrel
                          have HNot := hide hnot
                          have HO := hide hown
                          have HBJ := hide hbJ
                          clear hnot hown hbJ
                          by_cases hjk : j < k
                          · obtain rfl := ha0 (by omega)
                            have hbb := hb1 (by omega)
                            obtain ⟨d0, d1, d2, d3, z0, z1, z2, z3, z4, z5⟩ := hu.out j hjk
                            have hbbN : b1 < wN.heap.size := by omega
                            rw [← HBN.out.cell (p := ⟨b1, _, none⟩) hbb, ← HBJ.out.cell (p := ⟨b1, _, none⟩) hbbN] at d0 d1 d2 d3
                            have hj3 : (j : Int) < (k : Int) := by omega
                            have hbw : b1 < wr.heap.size := by have := HBJ.out.size; omega
                            cases hY : Yf j with
                            | false =>
                              rw [hY] at d3
                              have HNot2 : Hid (∀ j', j' < j + 1 → ¬ (Yf j' = true ∧ aOf Af j' = a ∧ sOf Sf j' = iv r)) := fun j' h' hm => by
                                by_cases e : j' = j
                                · subst e; rw [hY] at hm; cases hm.1
                                · exact HNot.out j' (by omega) hm
                              go_wp2
                              exact ⟨⟨j + 1, by omega, by go_num, rfl, HNot2.out, HO.out.alloc _, HBJ.out.alloc (by have := HBJ.out.size; omega) _⟩, by simp [intOf]; omega⟩
                            | true =>
                              rw [hY] at d3
                              by_cases hA : Af j % 3 = (a : Int)
                              · by_cases hS : Sf j % 5 = ((iv r).val : Int)
                                · have hpt : p a (iv r) = true := by
                                    rw [HPr.out, decide_eq_true_iff]
                                    exact ⟨j, hjk, hY, by unfold aOf; omega, Fin.ext (by show (Sf j % 5).toNat = _; omega)⟩
                                  have HW2 : Hid (wl iv (p a) (r + 1) = wl iv (p a) r ++ [iv r]) := by rw [HW.out, hpt]; rfl
                                  clear hpt
                                  obtain ⟨i1, hi1, hz01, hz11, hz21⟩ := info_parts Yba.info25
                                  have hlw := wl_len (iv := iv) (p := p a) r
                                  have g1 : wr.cell? ⟨w.heap.size + 1, (iv r).val, none⟩ = some (.pointer (some ⟨w.heap.size + 2 + (iv r).val, 0, none⟩)) := by
                                    rw [HBJ.out.cell (p := ⟨w.heap.size + 1, _, none⟩) (by show w.heap.size + 1 < _; omega)]; exact HPoN.out _ hcv
                                  have g2 : w.heap.size + 1 < wr.heap.size := by have := HBJ.out.size; omega
                                  have HBJ2 := hide ((HBJ.out.alloc HBJ.out.size (.cells #[.int .u8 (Zf j), .int .u8 (Af j), .int .u8 (Sf j), .bool true] 37)).alloc (by rw [World.size_alloc]; have := HBJ.out.size; omega) (.cells #[.pointer (some ⟨w.heap.size + 2 + (iv r).val, 0, none⟩)] 25))
                                  have HO2 := hide ((HO.out.alloc (.cells #[.int .u8 (Zf j), .int .u8 (Af j), .int .u8 (Sf j), .bool true] 37)).alloc (.cells #[.pointer (some ⟨w.heap.size + 2 + (iv r).val, 0, none⟩)] 25))
                                  have HN : Hid (∀ t u, [Value.pointer (some ⟨w.heap.size + 2 + (iv r).val, 0, none⟩)][t]? = some u → ((wr.alloc (.cells #[.int .u8 (Zf j), .int .u8 (Af j), .int .u8 (Sf j), .bool true] 37)).alloc (.cells #[.pointer (some ⟨w.heap.size + 2 + (iv r).val, 0, none⟩)] 25)).cell? ((⟨wr.heap.size + 1, 0, none⟩ : Addr).add t) = some u) :=
                                    World.news_of_block (cs := #[.pointer (some ⟨w.heap.size + 2 + (iv r).val, 0, none⟩)]) (t := 25) (fr := (0, 0)) (by
                                      have h := heap_alloc_new (wr.alloc (.cells #[.int .u8 (Zf j), .int .u8 (Af j), .int .u8 (Sf j), .bool true] 37)) (.cells #[.pointer (some ⟨w.heap.size + 2 + (iv r).val, 0, none⟩)] 25)
                                      rw [World.size_alloc] at h
                                      exact h)
                                  go_wp2_with (at_builtin; refine wpList_append_own _ rfl (.tmp 201) (.tmp 205) 46 rfl wN.heap.size 25 i1 _ 1 8 Yba.underlying46 hi1 hz01 hz11 hz21 rfl (by decide) _ _ ((wl iv (p a) r).map (enc5 (w.heap.size + 2))) rfl HO2.out ⟨wr.heap.size + 1, 0, none⟩ 1 1 [.pointer (some ⟨w.heap.size + 2 + (iv r).val, 0, none⟩)] rfl rfl HN.out (by simp [Value.oneCell']) (by unfold maxLen; omega) (by omega) HBJ2.out.size ?_; intro v' w4 hown' hgrow hnn)
                                  have HB4 := HBJ2.out.grown hgrow HBJ2.out.size (fun t ht => ((HO2.out.lt t ht).1))
                                  have e1 : (wl iv (p a) r).length + 1 = (wl iv (p a) (r + 1)).length := by rw [HW2.out]; simp
                                  have e2 : (wl iv (p a) r).map (enc5 (w.heap.size + 2)) ++ [.pointer (some ⟨w.heap.size + 2 + (iv r).val, 0, none⟩)] = (wl iv (p a) (r + 1)).map (enc5 (w.heap.size + 2)) := by rw [HW2.out, List.map_append]; rfl
                                  rw [e1, e2] at hown'
                                  exact ⟨⟨r + 1, by omega, by go_num, hown', HB4⟩, by simp [intOf]; omega⟩
                                · have hS' : ¬ Sf j % 5 = ((iv r).val : Int) := hS
                                  have HNot2 : Hid (∀ j', j' < j + 1 → ¬ (Yf j' = true ∧ aOf Af j' = a ∧ sOf Sf j' = iv r)) := fun j' h' hm => by
                                    by_cases e : j' = j
                                    · subst e; have h9 := congrArg Fin.val hm.2.2; simp only [sOf] at h9; omega
                                    · exact HNot.out j' (by omega) hm
                                  go_wp2
                                  exact ⟨⟨j + 1, by omega, by go_num, rfl, HNot2.out, HO.out.alloc _, HBJ.out.alloc (by have := HBJ.out.size; omega) _⟩, by simp [intOf]; omega⟩
                              · have hA' : ¬ Af j % 3 = (a : Int) := hA
                                have HNot2 : Hid (∀ j', j' < j + 1 → ¬ (Yf j' = true ∧ aOf Af j' = a ∧ sOf Sf j' = iv r)) := fun j' h' hm => by
                                  by_cases e : j' = j
                                  · subst e; have h9 := hm.2.1; unfold aOf at h9; omega
                                  · exact HNot.out j' (by omega) hm
                                go_wp2
                                exact ⟨⟨j + 1, by omega, by go_num, rfl, HNot2.out, HO.out.alloc _, HBJ.out.alloc (by have := HBJ.out.size; omega) _⟩, by simp [intOf]; omega⟩
                          · have hj3 : ¬ (j : Int) < (k : Int) := by omega
                            have hpf : p a (iv r) = false := by
                              rw [HPr.out, decide_eq_false_iff_not]
                              rintro ⟨j', h1, h2⟩
                              exact HNot.out j' (by omega) h2
                            have HW2 : Hid (wl iv (p a) (r + 1) = wl iv (p a) r) := by rw [HW.out, hpf]; rfl
                            clear hpf
                            go_wp2
                            exact ⟨⟨r + 1, by omega, by go_num, by rw [HW2.out]; exact HO.out, HBJ.out⟩, by simp [intOf]; omega⟩
                · have hr5' : ¬ (r : Int) < 5 := by omega
                  have hr55 : r = 5 := by omega
                  have hmbN := HMap.out.lt
                  have hszR := HBR.out.size
                  have ab : wr.cell? ⟨w.heap.size, a, none⟩ = some (.string (nm a)) := by
                    rw [HBR.out.cell (p := ⟨w.heap.size, a, none⟩) (by show w.heap.size < _; omega)]; exact HAbN.out a ha3
                  have hlk := MapIs.look_ok (HMap.out.below HBR.out hmbN) Yba.underlying44 (Yba.zeroValue46 _) a ha3
                  have hiv2 : ∀ r, r < 5 → rkOf sh (iv r).val = r := fun r hr => (HIv.out r hr).2
                  have hnil := want_nil sh iv hiv2 (p a) (E a) (HEp.out a ha3)
                  have hO5 := HO.out
                  rw [hr55] at hO5
                  clear HO
                  obtain ⟨av, capv, gv, hv, hav, hcellv⟩ := own_ptrs hO5
                  clear hO5
                  by_cases hE : E a = []
                  · have hen : entm E V' a = none := if_pos hE
                    have hw0 := hnil.1 hE
                    rw [hw0] at hv
                    simp only [List.length_nil] at hv
                    rw [hen] at hlk
                    have HCn : Hid (cnTo (entm E V') (a + 1) = cnTo (entm E V') a) := by show cnTo (entm E V') a + one (entm E V') a = _; unfold one; rw [hen]; rfl
                    subst hv
                    clear hnil hw0 hiv2 hen hE hav hcellv
                    simp only [Option.getD_none, Option.isSome_none] at hlk
                    go_wp2
                    exact ⟨⟨a + 1, by omega, by go_num, by rw [HCn.out], HBR.out⟩, by simp [intOf]; omega⟩
                  · have hw0 : wl iv (p a) 5 ≠ [] := fun e => hE (hnil.2 e)
                    obtain ⟨g, cap, d, hV, hpm, hso, hH⟩ := HSrt.out a ha3 hE
                    have hdl := want_row sh iv hiv2 (p a) (E a) (HEp.out a ha3) (HNd.out a ha3) d hpm (hso rfl)
                    have hl1 : (E a).length = (wl iv (p a) 5).length := by rw [← hdl]; exact hpm.length_eq.symm
                    have hen : entm E V' a = some (.slice (some ⟨g, 0, none⟩) (wl iv (p a) 5).length cap) := by unfold entm; rw [if_neg hE, hV, hl1]
                    have hpos : 0 < (wl iv (p a) 5).length := List.length_pos_iff.2 hw0
                    obtain ⟨rfl, _, _, _⟩ := hav hpos
                    have hl5 := wl_len (iv := iv) (p := p a) 5
                    have HT : Hid (∀ q (hq : q < (wl iv (p a) 5).length), wr.cell? ⟨g, q, none⟩ = some (.pointer (some ⟨w.heap.size + 2 + ((wl iv (p a) 5)[q]).val, 0, none⟩)) ∧ wr.cell? ⟨gv, q, none⟩ = some (.pointer (some ⟨w.heap.size + 2 + ((wl iv (p a) 5)[q]).val, 0, none⟩))) := fun q hq => by
                      refine ⟨?_, (hcellv q hq).1⟩
                      have hds : q < d.size := by have : d.toList.length = _ := congrArg List.length hdl; simp at this; omega
                      have h1 := (hH q hds).1
                      rw [Nat.zero_add] at h1
                      rw [HBR.out.cell (p := ⟨g, q, none⟩) (block_lt_of_cell h1), h1, getElem!_pos d q hds]
                      have h2 : d[q] = (wl iv (p a) 5)[q] := by
                        have h3 : d.toList[q]? = (wl iv (p a) 5)[q]? := by rw [hdl]
                        simp [hds, hq] at h3
                        exact h3
                      rw [h2]
                      rfl
                    rw [hen] at hlk
                    have HCn : Hid (cnTo (entm E V') (a + 1) = cnTo (entm E V') a + 1) := by show cnTo (entm E V') a + one (entm E V') a = _; unfold one; rw [hen]; rfl
                    have hcle := cnTo_le (entm E V') a
                    subst hv
                    clear hnil hw0 hiv2 hen hE hcellv hav hdl hH hpm hso hV hl1
                    simp only [Option.getD_some, Option.isSome_some] at hlk
                    obtain ⟨nf, hnf, _⟩ := Option.map_eq_some_iff.1 Yba.info30
                    have hsame : Hid (∀ (A : Addr) (w : World), (binOp .neq 25 (.pointer (some A)) (.pointer (some A))).run Yba.prog w = .ok (.bool false) w) := fun A w => Lib.run_neq_ptr_same w A Yba.underlying25 hnf
                    clear hnf
                    generalize hXX : (fun q => w.heap.size + 2 + ((wl iv (p a) 5).getD q (0 : Fin 5)).val) = XX
                    have HT2 : Hid (∀ q, q < (wl iv (p a) 5).length → wr.cell? ⟨g, q, none⟩ = some (.pointer (some ⟨XX q, 0, none⟩)) ∧ wr.cell? ⟨gv, q, none⟩ = some (.pointer (some ⟨XX q, 0, none⟩))) := fun q hq => by
                      have h := HT.out q hq
                      have e : w.heap.size + 2 + ((wl iv (p a) 5)[q]).val = XX q := by rw [← hXX]; simp [List.getD, hq]
                      rwa [e] at h
                    clear hXX HT
                    generalize (wl iv (p a) 5).length = n5 at *
                    have hn0 : ¬ (n5 : Int) = 0 := by omega
                    go_wp2
                    go_loopw [232] (fun i wq => ∃ q m : Nat, q ≤ n5 ∧ i = .int .i64 q ∧ wq = wr.drewN m) (fun i _ => n5 - (intOf i).toNat)
                    case atStart => exact ⟨0, 0, Nat.zero_le _, rfl, rfl⟩
                    case round =>
                      obtain ⟨q, m, hq, rfl, rfl⟩ := hrel
                      by_cases hqn : q < n5
                      · have hqn' : (q : Int) < (n5 : Int) := by omega
                        obtain ⟨t1, t2⟩ := HT2.out q hqn
                        have hs1 := hsame.out ⟨XX q, 0, none⟩
                        go_wp2_with fail
                        go_quiet (fail)
                        go_wp2
                        exact ⟨⟨q + 1, _, by omega, by go_num, rfl⟩, by simp [intOf]; omega⟩
                      · have hqn' : ¬ (q : Int) < (n5 : Int) := by omega
                        go_wp2
                        exact ⟨⟨a + 1, by omega, by go_num, by rw [HCn.out]; go_num, below_drewN HBR.out m⟩, by simp [intOf]; omega⟩
            · have ha3' : ¬ (a : Int) < 3 := by omega
              have hcn : cnTo (entm E V') a = cnt (entm E V') := by rw [show a = 3 by omega]; exact cnTo_three _
              rw [hcn]
              clear hcn
              have hln : ∀ ty, (Builtin.len_ #[44] ty #[.map (some mb)]).run Yba.prog wr = .ok (.int .i64 (cnt (entm E V'))) wr := fun ty => MapIs.len (HMap.out.below HBA.out HMap.out.lt) Yba.underlying44 ty
              have HEnd : Hid (Below w.heap.size w wr) := HBN.out.trans (HBA.out.mono HBN.out.size)
              generalize cnt (entm E V') = cc at hln ⊢
              go_wp2
              go_ret
              exact ⟨rfl, HEnd.out⟩
end Go.Proofs.Ybulkmpw
