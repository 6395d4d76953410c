/-
  OUR OWN WORK (an AI prover). THE PROOF OF 'Rows.LawS0661BFilterSaid' ('hls.LawS0661BFilter').
-/
import Derived.Test.YbulkmqyLaw
import Derived.WalkKit
import Derived.ProofKit
import Derived.OpenShut
import Derived.ChangeOld
import Derived.Below
import Derived.Deep.Strs
namespace Go.Proofs.Ybulkmqy.lawS0661BFilter
open Go.ChangeShapes Go.WideShapes Go.ChangeAt Go.RowKit
set_option linter.unusedVariables false

theorem own : ownKnob Yba.prog.godebug = none := by kernel_rfl
theorem laidOut : laidOutB Yba.prog = true := by kernel_rfl
theorem cells9 : Yba.prog.cellsOf 9 = 1 := by kernel_rfl
theorem cells5 : Yba.prog.cellsOf 5 = 1 := by kernel_rfl
theorem cells36 : Yba.prog.cellsOf 36 = 3 := by kernel_rfl

/-- What the walk is told of the groups. -/
def IsStrs (w : World) (a : Option Addr) (L c : Nat) : Prop :=
  L ≤ maxLen ∧ ∃ (b off : Nat) (S : Nat → ByteArray), (0 < L → a = some ⟨b, off, none⟩) ∧ (0 < L → b < w.heap.size) ∧ ∀ j, j < L → w.cell? ⟨b, off + j, none⟩ = some (.string (S j))
/-- .. and of the alternatives. -/
def IsZs (w : World) (a : Option Addr) (L c : Nat) : Prop :=
  L ≤ maxLen ∧ ∃ b off T G U, (0 < L → a = some ⟨b, off, none⟩) ∧ (0 < L → b < w.heap.size) ∧ ZAt w b off L T G U

theorem walk (a0 a1 : Option Addr) (L c0 n c1 : Nat) (w : World) (h0 : IsStrs w a0 L c0) (h1 : IsZs w a1 n c1) :
    Calls Yba.prog 3 #[.slice a0 L c0, .slice a1 n c1] w fun e w' => e = .returned (.bool true) ∧ Below w.heap.size w w' := by
  obtain ⟨hL, b, off, S, p1, p2, p3⟩ := h0
  obtain ⟨hn, b', off', T, G, U, q1, q2, q3⟩ := h1
  by_cases h : 1024 < L ∨ 1024 < n
  · exact law_far L c0 n c1 a0 a1 w hL hn h
  · exact law_near L c0 n c1 b off b' off' a0 a1 S G U T w (by omega) (by omega) p1 p2 p3 q1 q2 q3

section
variable {H : Type} {enc : TypeId × Value → H} {w : World} {base : Nat} {spare : Nat → Bool} {held : Bool}
theorem open_groups {fuel : Nat} {a : Option Addr} {L c : Nat} {x : DataW H × List MemPlace} (h : DataW.trod enc Yba.prog w base spare held fuel 22 [.slice a L c] = some x) : IsStrs w a L c := by
  rcases Deep.open_strs Yba.underlying22 Yba.underlying9 cells9 h with ⟨h1, _⟩ | ⟨ad, len, cap, m, S, h1, _, hl, hm, hmm, _, hx⟩
  · simp at h1
    obtain ⟨rfl, rfl, rfl⟩ := h1
    exact ⟨Nat.zero_le _, 0, 0, fun _ => default, fun h => absurd h (by omega), fun h => absurd h (by omega), fun j h => absurd h (by omega)⟩
  · simp at h1
    obtain ⟨rfl, rfl, rfl⟩ := h1
    have hlm : L ≤ m := by rw [hmm]; split <;> omega
    refine ⟨Nat.le_trans hl hm, ?_⟩
    by_cases h0 : L = 0
    · subst h0
      exact ⟨0, 0, fun _ => default, fun h => absurd h (by omega), fun h => absurd h (by omega), fun j h => absurd h (by omega)⟩
    · obtain ⟨b, off, spot⟩ := ad
      have hspot : spot = none := by simpa [Addr.add] using World.cell?_spot (hx 0 (by omega)).1
      subst hspot
      refine ⟨b, off, S, fun _ => rfl, fun _ => ?_, fun j hj => ?_⟩
      · have := (hx 0 (by omega)).1
        rw [add_plain] at this
        exact block_lt_of_cell this
      · rw [← add_plain]; exact (hx j (by omega)).1

theorem open_alts {fuel : Nat} {a : Option Addr} {L c : Nat} {x : DataW H × List MemPlace} (h : DataW.trod enc Yba.prog w base spare held fuel 23 [.slice a L c] = some x) : IsZs w a L c := by
  rcases Deep.open_slice Yba.underlying23 h with ⟨h1, _⟩ | ⟨ad, len, cap, m, n, D, Pl, h1, _, hl, hm, hmm, _, hx⟩
  · simp at h1
    obtain ⟨rfl, rfl, rfl⟩ := h1
    exact ⟨Nat.zero_le _, 0, 0, fun _ => 0, fun _ => default, fun _ => default, fun h => absurd h (by omega), fun h => absurd h (by omega), fun j h => absurd h (by omega)⟩
  · simp at h1
    obtain ⟨rfl, rfl, rfl⟩ := h1
    have hlm : L ≤ m := by rw [hmm]; split <;> omega
    refine ⟨Nat.le_trans hl hm, ?_⟩
    by_cases h0 : L = 0
    · subst h0
      exact ⟨0, 0, fun _ => 0, fun _ => default, fun _ => default, fun h => absurd h (by omega), fun h => absurd h (by omega), fun j h => absurd h (by omega)⟩
    · rw [cells36] at hx
      have each : ∀ i, i < L → ∃ q : Int × ByteArray × ByteArray, w.cell? (ad.add (i * 3)) = some (.int .u8 q.1) ∧ w.cell? (ad.add (i * 3 + 1)) = some (.string q.2.1) ∧ w.cell? (ad.add (i * 3 + 2)) = some (.string q.2.2) ∧ (Lit.int .u8 q.1).wf = true := by
        intro i hi
        obtain ⟨cs', h1, h2⟩ := hx i (by omega)
        obtain ⟨_, hlen, hcell⟩ := World.cells?_some h1
        obtain ⟨y0, y1, y2, k, _, _, g0, g1, g2⟩ := Deep.trod_struct3 Yba.underlying36 h2
        match cs', hlen with
        | [v0, v1, v2], _ =>
          simp [cells5, cells9] at g0 g1 g2
          obtain ⟨z, hz, _, hw⟩ := DataW.trod_int Yba.underlying5 g0
          obtain ⟨s, hs, _, _⟩ := DataW.trod_string Yba.underlying9 g1
          obtain ⟨u, hu, _, _⟩ := DataW.trod_string Yba.underlying9 g2
          simp at hz hs hu
          subst hz hs hu
          have e0 := hcell 0 (by omega)
          have e1 := hcell 1 (by omega)
          have e2 := hcell 2 (by omega)
          rw [Deep.add_add] at e0 e1 e2
          exact ⟨(z, s, u), by simpa using e0, by simpa using e1, by simpa using e2, hw⟩
      obtain ⟨q, hq⟩ := Deep.choose_lt each
      obtain ⟨b, off, spot⟩ := ad
      have hspot : spot = none := by simpa [Addr.add] using World.cell?_spot (hq 0 (by omega)).1
      subst hspot
      refine ⟨b, off, fun i => (q i).1, fun i => (q i).2.1, fun i => (q i).2.2, fun _ => rfl, fun _ => ?_, fun j hj => ?_⟩
      · have := (hq 0 (by omega)).1
        rw [add_plain] at this
        exact block_lt_of_cell this
      · obtain ⟨r0, r1, r2, r3⟩ := hq j hj
        rw [add_plain] at r0 r1 r2
        have := bounds_u8 r3
        exact ⟨r0, by rw [Nat.add_assoc]; exact r1, by rw [Nat.add_assoc]; exact r2, this.1, by show (q j).1 ≤ 255; omega⟩
end

set_option maxRecDepth 100000 in
theorem lifted (os : Os) (started : os.Started) (H : Type) (enc : TypeId × Value → H) :
    ReturnsInHanded {} Yba.checked os 3 .any (Rows.lawS0661BFilterSpec.pre6 enc Yba.prog Yba.f3 Rows.lawS0661BFilterRow.domain false) (Rows.lawS0661BFilterSpec.post enc Yba.prog Yba.f3 false true false false) := by
  refine returnsInHanded_of_change (C := Yba.checked) own started (by kernel_rfl) Yba.func3
    (ChangeSpec.witness6 (enc := enc) (C := Yba.checked) false ⟨#[], #[.slice none 0 0, .slice none 0 0], []⟩ 8 (by kernel_rfl) (by kernel_rfl) (by kernel_rfl) (by kernel_rfl)) ?_
  intro W base args ds gs before hval0 hW hcnd _
  have hval : ∀ (j : Nat) t v, Yba.f3.params[j]? = some t → args[j]? = some v → Value.okWide Yba.prog W .any base t v := hval0
  have hW' := hW
  obtain ⟨p, q, hA0, hV, rfl, hfz, hnd⟩ := hW
  have hA : DataW.TrodAll enc Yba.prog W 0 (fun _ => true) true Yba.f3.params.toList args.toList ds p := hA0
  rw [Yba.params3] at hA hval
  obtain ⟨v0, vs0, d0, ds0, p0, q0, hargs, rfl, rfl, h0, r0⟩ := trodAll_cons hA
  obtain ⟨v1, vs1, d1, ds1, p1, q1, rfl, rfl, rfl, h1, r1⟩ := trodAll_cons r0
  obtain ⟨rfl, rfl, rfl⟩ := trodAll_nil r1
  obtain rfl : args = #[v0, v1] := by cases args; simp_all
  obtain ⟨rfl, rfl⟩ := trodVars_none hV
  obtain ⟨a0, len0, cap0, rfl⟩ := okWide_slice Yba.underlying22 (hval 0 22 v0 rfl rfl)
  obtain ⟨a1, len1, cap1, rfl⟩ := okWide_slice Yba.underlying23 (hval 1 23 v1 rfl rfl)
  have k0 := h0
  have k1 := h1
  have lt0 : ∀ x ∈ p0, x.block < W.heap.size := by obtain ⟨m, hm⟩ := k0; exact DataW.trod_lt m _ _ _ hm
  have lt1 : ∀ x ∈ p1, x.block < W.heap.size := by obtain ⟨m, hm⟩ := k1; exact DataW.trod_lt m _ _ _ hm
  have w0 : IsStrs W a0 len0 cap0 := by
    obtain ⟨fuel, hf⟩ := h0
    exact open_groups hf
  have w1 : IsZs W a1 len1 cap1 := by
    obtain ⟨fuel, hf⟩ := h1
    exact open_alts hf
  clear hA0 hval0
  refine (walk a0 a1 len0 cap0 len1 cap1 W w0 w1).mono fun e W' ⟨he, bel⟩ => ?_
  subst he
  exact ⟨_, rfl, _, _, _, [], _, [], hW', trodAll_mk1 (shut_bool Yba.underlying4 _), (trodAll_cons_mk (Below.trod laidOut (by kernel_rfl) (of_decide_eq_true (by kernel_rfl)) k0 bel lt0) (trodAll_cons_mk (Below.trod laidOut (by kernel_rfl) (of_decide_eq_true (by kernel_rfl)) k1 bel lt1) trodAll_mk0)), rfl, bel.frame _, fun h => by cases h⟩

theorem over : Rows.lawS0661BFilterRow.holds Yba.pinned (OpenSpec.ofChange Rows.lawS0661BFilterSpec) :=
  OpenClaim.holds_of_wide 3 Yba.f3 rfl rfl rfl rfl rfl rfl rfl ⟨rfl, rfl, rfl, rfl, rfl⟩ rfl rfl rfl rfl rfl (by kernel_rfl) Yba.func3 (by kernel_rfl)
    (of_decide_eq_true (by kernel_rfl)) (by unfold Func.isWrapper; first | (rw [if_pos (by decide +kernel)]; kernel_rfl) | (rw [if_neg (by decide +kernel)]; exact ⟨rfl, rfl⟩))
    (fun os started H enc _ => lifted os started H enc)
theorem proved : Rows.LawS0661BFilterSaid := over
end Go.Proofs.Ybulkmqy.lawS0661BFilter
namespace Go.Proofs.Ybulkmqy
/-- THE CLAIM. -/
theorem LawS0661BFilter_holds : Rows.LawS0661BFilterSaid := lawS0661BFilter.proved
end Go.Proofs.Ybulkmqy
