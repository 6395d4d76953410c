/-
  OUR OWN WORK (an AI prover). THE PROOF OF 'Rows.LawS0659AEntriesSaid' ('ozab.LawS0659AEntries').
-/
import Derived.Test.YbulkmpwLawA
import Derived.WalkKit
import Derived.ProofKit
import Derived.OpenShut
import Derived.ChangeOld
import Derived.Below
import Derived.Deep.Slices
namespace Go.Proofs.Ybulkmpw.lawS0659AEntries
open Go.ChangeShapes Go.WideShapes Go.ChangeAt Go.RowKit
set_option linter.unusedVariables false

theorem own : ownKnob Yba.prog.godebug = none := by kernel_rfl
theorem laidOut : laidOutB Yba.prog = true := by kernel_rfl
theorem cells5 : Yba.prog.cellsOf 5 = 1 := by kernel_rfl
theorem cells4 : Yba.prog.cellsOf 4 = 1 := by kernel_rfl
theorem cells37 : Yba.prog.cellsOf 37 = 4 := by kernel_rfl

set_option maxRecDepth 100000 in
theorem law_far (L c0 n c1 : Nat) (a0 a1 : Option Addr) (sh : Int) (w : World) (hL : L ≤ maxLen) (hn : n ≤ maxLen) (h : 1024 < L ∨ 1024 < n) :
    Calls Yba.prog 3 #[.slice a0 L c0, .slice a1 n c1, .int .u8 sh] w fun e w' => e = .returned (.bool true) ∧ Below w.heap.size w w' := by
  have hL2 : L ≤ 9223372036854775807 := hL
  have hn2 : n ≤ 9223372036854775807 := hn
  by_cases h1 : 1024 < L
  · have h1' : (1024 : Int) < L := by omega
    go_enter Yba.func3, Yba.ntmps3
    go_wp2
    go_ret
    exact ⟨rfl, Below.refl _ _⟩
  · have h1' : ¬ (1024 : Int) < L := by omega
    have h2' : (1024 : Int) < n := by omega
    go_enter Yba.func3, Yba.ntmps3
    go_wp2
    go_ret
    exact ⟨rfl, Below.refl _ _⟩

/-- What the walk is told of the uses. -/
def IsUses (w : World) (a : Option Addr) (L : Nat) : Prop :=
  L ≤ maxLen ∧ ∃ (b off : Nat) (Zf Af Sf : Nat → Int) (Yf : Nat → Bool), (0 < L → a = some ⟨b, off, none⟩) ∧ (0 < L → b < w.heap.size) ∧ UsesIn w b off L Zf Af Sf Yf
/-- .. and of the chosen. -/
def IsChs (w : World) (a : Option Addr) (L : Nat) : Prop :=
  L ≤ maxLen ∧ ∃ (b off : Nat) (Cf : Nat → Int), (0 < L → a = some ⟨b, off, none⟩) ∧ (0 < L → b < w.heap.size) ∧ ∀ j, j < L → w.cell? ⟨b, off + j, none⟩ = some (.int .u8 (Cf j)) ∧ 0 ≤ Cf j ∧ Cf j ≤ 255

theorem walk (a0 a1 : Option Addr) (L c0 n c1 : Nat) (sh : Int) (w : World) (h0 : IsUses w a0 L) (h1 : IsChs w a1 n) (h2 : (Lit.int .u8 sh).wf = true) :
    Calls Yba.prog 3 #[.slice a0 L c0, .slice a1 n c1, .int .u8 sh] w fun e w' => e = .returned (.bool true) ∧ Below w.heap.size w w' := by
  obtain ⟨hL, b, off, Zf, Af, Sf, Yf, p1, p2, p3⟩ := h0
  obtain ⟨hn, b', off', Cf, q1, q2, q3⟩ := h1
  have hb := bounds_u8 h2
  by_cases h : 1024 < L ∨ 1024 < n
  · exact law_far L c0 n c1 a0 a1 sh w hL hn h
  · exact law_near L c0 n c1 b off b' off' a0 a1 sh Zf Af Sf Cf Yf w (by omega) (by omega) (by omega) (by omega) p1 p2 p3 q1 q2 q3

section
variable {H : Type} {enc : TypeId × Value → H} {w : World} {base : Nat} {spare : Nat → Bool} {held : Bool}
theorem open_chs {fuel : Nat} {a : Option Addr} {L c : Nat} {x : DataW H × List MemPlace} (h : DataW.trod enc Yba.prog w base spare held fuel 23 [.slice a L c] = some x) : IsChs w a L := by
  rcases Deep.open_slice1 Yba.underlying23 cells5 h with ⟨h1, _⟩ | ⟨ad, len, cap, m, n, V, D, Pl, h1, _, hl, hm, hmm, _, hx⟩
  · simp at h1
    obtain ⟨rfl, rfl, rfl⟩ := h1
    exact ⟨Nat.zero_le _, 0, 0, fun _ => 0, fun h => absurd h (by omega), fun h => absurd h (by omega), fun j h => absurd h (by omega)⟩
  · simp at h1
    obtain ⟨rfl, rfl, rfl⟩ := h1
    have hlm : L ≤ m := by rw [hmm]; split <;> omega
    refine ⟨Nat.le_trans hl hm, ?_⟩
    by_cases h0 : L = 0
    · subst h0
      exact ⟨0, 0, fun _ => 0, fun h => absurd h (by omega), fun h => absurd h (by omega), fun j h => absurd h (by omega)⟩
    · have each : ∀ i, i < L → ∃ z : Int, w.cell? (ad.add i) = some (.int .u8 z) ∧ (Lit.int .u8 z).wf = true := fun i hi => by
        obtain ⟨h1, h2⟩ := hx i (by omega)
        obtain ⟨z, hz, _, hw⟩ := DataW.trod_int Yba.underlying5 h2
        simp at hz
        exact ⟨z, by rw [h1, hz], hw⟩
      obtain ⟨q, hq⟩ := Deep.choose_lt each
      obtain ⟨b, off, spot⟩ := ad
      have hspot : spot = none := by simpa [Addr.add] using World.cell?_spot (hq 0 (by omega)).1
      subst hspot
      refine ⟨b, off, q, fun _ => rfl, fun _ => ?_, fun j hj => ?_⟩
      · have := (hq 0 (by omega)).1
        rw [add_plain] at this
        exact block_lt_of_cell this
      · obtain ⟨r0, r1⟩ := hq j hj
        rw [add_plain] at r0
        have := bounds_u8 r1
        exact ⟨r0, this.1, by omega⟩

theorem open_uses {fuel : Nat} {a : Option Addr} {L c : Nat} {x : DataW H × List MemPlace} (h : DataW.trod enc Yba.prog w base spare held fuel 22 [.slice a L c] = some x) : IsUses w a L := by
  rcases Deep.open_slice Yba.underlying22 h with ⟨h1, _⟩ | ⟨ad, len, cap, m, n, D, Pl, h1, _, hl, hm, hmm, _, hx⟩
  · simp at h1
    obtain ⟨rfl, rfl, rfl⟩ := h1
    exact ⟨Nat.zero_le _, 0, 0, fun _ => 0, fun _ => 0, fun _ => 0, fun _ => false, fun h => absurd h (by omega), fun h => absurd h (by omega), fun j h => absurd h (by omega)⟩
  · simp at h1
    obtain ⟨rfl, rfl, rfl⟩ := h1
    have hlm : L ≤ m := by rw [hmm]; split <;> omega
    refine ⟨Nat.le_trans hl hm, ?_⟩
    by_cases h0 : L = 0
    · subst h0
      exact ⟨0, 0, fun _ => 0, fun _ => 0, fun _ => 0, fun _ => false, fun h => absurd h (by omega), fun h => absurd h (by omega), fun j h => absurd h (by omega)⟩
    · rw [cells37] at hx
      have each : ∀ i, i < L → ∃ q : Int × Int × Int × Bool, (w.cell? (ad.add (i * 4)) = some (.int .u8 q.1) ∧ w.cell? (ad.add (i * 4 + 1)) = some (.int .u8 q.2.1) ∧ w.cell? (ad.add (i * 4 + 2)) = some (.int .u8 q.2.2.1) ∧ w.cell? (ad.add (i * 4 + 3)) = some (.bool q.2.2.2)) ∧
          (Lit.int .u8 q.1).wf = true ∧ (Lit.int .u8 q.2.1).wf = true ∧ (Lit.int .u8 q.2.2.1).wf = true := by
        intro i hi
        obtain ⟨cs', h1, h2⟩ := hx i (by omega)
        obtain ⟨_, hlen, hcell⟩ := World.cells?_some h1
        obtain ⟨xs, k, _, _, _, hxl, hf⟩ := DataW.trod_struct Yba.underlying37 h2
        match cs', hlen, xs, hxl with
        | [v0, v1, v2, v3], _, [y0, y1, y2, y3], _ =>
          have g0 : DataW.trod enc Yba.prog w base spare held k 5 [v0] = some y0 := by simpa [cells5] using hf 0 _ rfl
          have g1 : DataW.trod enc Yba.prog w base spare held k 5 [v1] = some y1 := by simpa [cells5] using hf 1 _ rfl
          have g2 : DataW.trod enc Yba.prog w base spare held k 5 [v2] = some y2 := by simpa [cells5] using hf 2 _ rfl
          have g3 : DataW.trod enc Yba.prog w base spare held k 4 [v3] = some y3 := by simpa [cells4] using hf 3 _ rfl
          obtain ⟨n0, hn0, _, hw0⟩ := DataW.trod_int Yba.underlying5 g0
          obtain ⟨n1, hn1, _, hw1⟩ := DataW.trod_int Yba.underlying5 g1
          obtain ⟨n2, hn2, _, hw2⟩ := DataW.trod_int Yba.underlying5 g2
          obtain ⟨n3, hn3, _⟩ := DataW.trod_bool Yba.underlying4 g3
          simp at hn0 hn1 hn2 hn3
          subst hn0 hn1 hn2 hn3
          have e0 := hcell 0 (by omega)
          have e1 := hcell 1 (by omega)
          have e2 := hcell 2 (by omega)
          have e3 := hcell 3 (by omega)
          rw [Deep.add_add] at e0 e1 e2 e3
          exact ⟨(n0, n1, n2, n3), ⟨by simpa using e0, by simpa using e1, by simpa using e2, by simpa using e3⟩, hw0, hw1, hw2⟩
      obtain ⟨q, hq⟩ := Deep.choose_lt each
      obtain ⟨b, off, spot⟩ := ad
      have hspot : spot = none := by simpa [Addr.add] using World.cell?_spot (hq 0 (by omega)).1.1
      subst hspot
      refine ⟨b, off, fun i => (q i).1, fun i => (q i).2.1, fun i => (q i).2.2.1, fun i => (q i).2.2.2, fun _ => rfl, fun _ => ?_, fun j hj => ?_⟩
      · have := (hq 0 (by omega)).1.1
        rw [add_plain] at this
        exact block_lt_of_cell this
      · obtain ⟨⟨r0, r1, r2, r3⟩, s0, s1, s2⟩ := hq j hj
        rw [add_plain] at r0 r1 r2 r3
        have b0 := bounds_u8 s0
        have b1 := bounds_u8 s1
        have b2 := bounds_u8 s2
        exact ⟨r0, by rw [Nat.add_assoc]; exact r1, by rw [Nat.add_assoc]; exact r2, by rw [Nat.add_assoc]; exact r3, b0.1, by show (q j).1 ≤ 255; omega, b1.1, by show (q j).2.1 ≤ 255; omega, b2.1, by show (q j).2.2.1 ≤ 255; omega⟩
end

set_option maxRecDepth 100000 in
theorem lifted (os : Os) (started : os.Started) (H : Type) (enc : TypeId × Value → H) :
    ReturnsInHanded {} Yba.checked os 3 .any (Rows.lawS0659AEntriesSpec.pre6 enc Yba.prog Yba.f3 Rows.lawS0659AEntriesRow.domain false) (Rows.lawS0659AEntriesSpec.post enc Yba.prog Yba.f3 false true false false) := by
  refine returnsInHanded_of_change (C := Yba.checked) own started (by kernel_rfl) Yba.func3
    (ChangeSpec.witness6 (enc := enc) (C := Yba.checked) false ⟨#[], #[.slice none 0 0, .slice none 0 0, .int .u8 0], []⟩ 8 (by kernel_rfl) (by kernel_rfl) (by kernel_rfl) (by kernel_rfl)) ?_
  intro W base args ds gs before hval0 hW hcnd _
  have hval : ∀ (j : Nat) t v, Yba.f3.params[j]? = some t → args[j]? = some v → Value.okWide Yba.prog W .any base t v := hval0
  have hW' := hW
  obtain ⟨p, q, hA0, hV, rfl, hfz, hnd⟩ := hW
  have hA : DataW.TrodAll enc Yba.prog W 0 (fun _ => true) true Yba.f3.params.toList args.toList ds p := hA0
  rw [Yba.params3] at hA hval
  obtain ⟨v0, vs0, d0, ds0, p0, q0, hargs, rfl, rfl, h0, r0⟩ := trodAll_cons hA
  obtain ⟨v1, vs1, d1, ds1, p1, q1, rfl, rfl, rfl, h1, r1⟩ := trodAll_cons r0
  obtain ⟨v2, vs2, d2, ds2, p2, q2, rfl, rfl, rfl, h2, r2⟩ := trodAll_cons r1
  obtain ⟨rfl, rfl, rfl⟩ := trodAll_nil r2
  obtain rfl : args = #[v0, v1, v2] := by cases args; simp_all
  obtain ⟨rfl, rfl⟩ := trodVars_none hV
  obtain ⟨a0, len0, cap0, rfl⟩ := okWide_slice Yba.underlying22 (hval 0 22 v0 rfl rfl)
  obtain ⟨a1, len1, cap1, rfl⟩ := okWide_slice Yba.underlying23 (hval 1 23 v1 rfl rfl)
  have k0 := h0
  have k1 := h1
  have lt0 : ∀ x ∈ p0, x.block < W.heap.size := by obtain ⟨m, hm⟩ := k0; exact DataW.trod_lt m _ _ _ hm
  have lt1 : ∀ x ∈ p1, x.block < W.heap.size := by obtain ⟨m, hm⟩ := k1; exact DataW.trod_lt m _ _ _ hm
  have w0 : IsUses W a0 len0 := by
    obtain ⟨fuel, hf⟩ := h0
    exact open_uses hf
  have w1 : IsChs W a1 len1 := by
    obtain ⟨fuel, hf⟩ := h1
    exact open_chs hf
  obtain ⟨a2, rfl, rfl, rfl, w2⟩ := open_int Yba.underlying5 (hval 2 5 v2 rfl rfl) h2
  clear hA0 hval0
  refine (walk a0 a1 len0 cap0 len1 cap1 a2 W w0 w1 w2).mono fun e W' ⟨he, bel⟩ => ?_
  subst he
  exact ⟨_, rfl, _, _, _, [], _, [], hW', trodAll_mk1 (shut_bool Yba.underlying4 _), (trodAll_cons_mk (Below.trod laidOut (by kernel_rfl) (of_decide_eq_true (by kernel_rfl)) k0 bel lt0) (trodAll_cons_mk (Below.trod laidOut (by kernel_rfl) (of_decide_eq_true (by kernel_rfl)) k1 bel lt1) (trodAll_cons_mk (shut_int Yba.underlying5 w2) trodAll_mk0))), rfl, bel.frame _, fun h => by cases h⟩

theorem over : Rows.lawS0659AEntriesRow.holds Yba.pinned (OpenSpec.ofChange Rows.lawS0659AEntriesSpec) :=
  OpenClaim.holds_of_wide 3 Yba.f3 rfl rfl rfl rfl rfl rfl rfl ⟨rfl, rfl, rfl, rfl, rfl⟩ rfl rfl rfl rfl rfl (by kernel_rfl) Yba.func3 (by kernel_rfl)
    (of_decide_eq_true (by kernel_rfl)) (by unfold Func.isWrapper; first | (rw [if_pos (by decide +kernel)]; kernel_rfl) | (rw [if_neg (by decide +kernel)]; exact ⟨rfl, rfl⟩))
    (fun os started H enc _ => lifted os started H enc)
theorem proved : Rows.LawS0659AEntriesSaid := over
end Go.Proofs.Ybulkmpw.lawS0659AEntries
namespace Go.Proofs.Ybulkmpw
/-- THE CLAIM. -/
theorem LawS0659AEntries_holds : Rows.LawS0659AEntriesSaid := lawS0659AEntries.proved
end Go.Proofs.Ybulkmpw
