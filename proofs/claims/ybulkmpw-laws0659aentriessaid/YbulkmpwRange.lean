/-
  OUR OWN WORK (an AI prover). The range over the entries: the step's law for our map; the sort of one row in words of the heap.
-/
import Derived.Test.YbulkmpwEnts
namespace Go.Proofs.Ybulkmpw
open Go.ChangeShapes Go.WideShapes Go.ChangeAt Go.RowKit
open Go.Sort (Holds PermIn SortedIn putRow mapBlock)
set_option linter.unusedVariables false

theorem has_inv (m : Nat → Option Value) (k : Lit) (h : Maps.has (DM m) k = true) : ∃ b, b < 3 ∧ k = kl b ∧ (m b).isSome = true := by
  unfold DM at h
  rw [Maps.has_eq, List.any_eq_true] at h
  obtain ⟨p, hp, hk⟩ := h
  have hk := WideAt.sameKey_eq hk
  have key : ∀ a, p ∈ ent m a → p.1 = kl a ∧ (m a).isSome = true := fun a ha => by
    unfold ent at ha
    cases hm : m a with
    | none => rw [hm] at ha; cases ha
    | some v => rw [hm] at ha; simp at ha; rw [ha]; exact ⟨rfl, rfl⟩
  rcases List.mem_append.1 hp with h1 | h1
  · obtain ⟨e, e2⟩ := key 1 h1; exact ⟨1, by omega, by rw [← hk, e], e2⟩
  · rcases List.mem_append.1 h1 with h1 | h1
    · obtain ⟨e, e2⟩ := key 0 h1; exact ⟨0, by omega, by rw [← hk, e], e2⟩
    · obtain ⟨e, e2⟩ := key 2 h1; exact ⟨2, by omega, by rw [← hk, e], e2⟩
theorem kl_same : ∀ a, a < 3 → ∀ b, b < 3 → (kl a).sameKey (kl b) = decide (a = b) := by
  apply three <;> apply three <;> rfl

theorem next_E (w : World) {ops : Array Oper} {rest : List Oper} {o : Oper} {a : Act} {Q : Exit → Act → World → Prop} (hg : o.guard = none) (it : Operand) (hop : o.op = Op.next it false) (M r : Nat) (m : Nat → Option Value) (left : Lit → Bool) (cn : Nat)
    (hit : a.eval it = .pointer (some ⟨r, 0, none⟩)) (h : w.ranges Yba.prog 9 rdV M r 3 (DM m) left cn) (hleft : ∀ k, left k = true → Maps.has (DM m) k = true)
    (hshape : ∀ b, b < 3 → ∀ v, m b = some v → ∃ g n cap, v = .slice (some ⟨g, 0, none⟩) n cap)
    (hDone : (∀ k, left k = false) → wpList Yba.prog ops Q rest (a.put o.dst (.tuple #[.bool false])) w)
    (hMore : ∀ (b g n cap : Nat) (x : Value) (w' : World) (cn' : Nat), b < 3 → m b = some (.slice (some ⟨g, 0, none⟩) n cap) → left (kl b) = true → w'.ranges Yba.prog 9 rdV M r 3 (DM m) (fun z => left z && !z.sameKey (kl b)) cn' → cn' < cn →
      w.grownBy w' (some r) → w'.heap.size = w.heap.size → (Instr.entry (.pointer (some ⟨r, 0, none⟩))).run Yba.prog w' = .ok (.tuple #[x, .slice (some ⟨g, 0, none⟩) n cap]) w' →
      wpList Yba.prog ops Q rest (a.put o.dst (.tuple #[.bool true, x, .slice (some ⟨g, 0, none⟩) n cap])) w') :
    wpList Yba.prog ops Q (o :: rest) a w := by
  refine wpList_next_ranges w hg it hop 9 (Maps.string_keyed Yba.underlying9) rdV (fun x : Value => x) (fun x : Value => x) (fun key _ _ => ⟨key, rfl⟩) (fun v _ _ => ⟨v, rfl⟩) M r 3 (DM m) left cn hit h (fun _ hl => hDone hl) ?_
  intro x c k y w' cn' hkey hlk hv hat hrg hlt hgr hsz hen
  obtain ⟨b, hb, rfl, hsome⟩ := has_inv m k (hleft k hlk)
  obtain ⟨v, hmv⟩ := Option.isSome_iff_exists.1 hsome
  obtain ⟨g, n, cap, rfl⟩ := hshape b hb v hmv
  have e := hat (.held (.slice none 0 0))
  rw [DM_at m _ b hb, hmv] at e
  simp only [rdV, Option.some.injEq] at hv
  subst hv
  simp only [Option.getD_some, DataW.held.injEq] at e
  subst e
  exact hMore b g n cap x w' cn' hb hmv hlk hrg hlt hgr hsz hen

theorem grown_putRow (B : Nat) (w : World) (blk : Nat) (d : Array (Fin 5)) (n : Nat) : w.grownBy ((putRow (enc5 B) w blk 0 d).drewN n) (some blk) := by
  refine ⟨rfl, rfl, rfl, by simp [putRow, mapBlock], fun i hi hne => ?_⟩
  simp only [World.heap_drewN, putRow, mapBlock, Array.getElem?_modify]
  rw [if_neg (fun e => hne (by rw [e]))]

theorem sort_row (B blk cap n : Nat) (rk : Nat → Int) (d : Array (Fin 5)) (w : World) (hP : Pool w B rk) (hne : ∀ i, i < 5 → B + i ≠ blk) (hH : Holds (enc5 B) w blk 0 d) (hn : d.size = n) (h12 : n ≤ 12) :
    Calls Yba.prog 9 #[.slice (some ⟨blk, 0, none⟩) n cap, .func (.func 10) #[] #[]] w fun e w' => e = .returned (.tuple #[]) ∧
      (∃ d' : Array (Fin 5), d'.toList.Perm d.toList ∧ SortedIn (ltOf (cf5 rk)) 0 d'.size d' ∧ Holds (enc5 B) w' blk 0 d') ∧ w.grownBy w' (some blk) ∧ w'.heap.size = w.heap.size := by
  subst hn
  refine (sort_calls B blk cap rk d w (fun i hi => hP.cell i hi) hne hH h12).mono ?_
  rintro e w' ⟨rfl, d', m, hp, hs, rfl⟩
  refine ⟨rfl, ⟨d', ?_, ?_, ?_⟩, grown_putRow B w blk d' m, by simp [putRow, mapBlock]⟩
  · have := hp.2.2
    have e1 : d'.extract 0 d.size = d' := by rw [← hp.1]; simp
    have e2 : d.extract 0 d.size = d := by simp
    rwa [e1, e2] at this
  · rw [hp.1]; exact hs
  · exact Sort.holds_putRow (enc5 B) w blk 0 d d' hH hp.1

/-- The rows of the entries, those sorted that the range has passed. -/
def Srt (wr : World) (B : Nat) (rk : Nat → Int) (E : Nat → List (Fin 5)) (V : Nat → Value) (left : Lit → Bool) : Prop :=
  ∀ a, a < 3 → E a ≠ [] → ∃ (g cap : Nat) (d : Array (Fin 5)), V a = .slice (some ⟨g, 0, none⟩) (E a).length cap ∧ d.toList.Perm (E a) ∧ (left (kl a) = false → SortedIn (ltOf (cf5 rk)) 0 d.size d) ∧ Holds (enc5 B) wr g 0 d
theorem Srt_start {wr : World} {M B : Nat} {rk : Nat → Int} {E : Nat → List (Fin 5)} {V : Nat → Value} (h : Ents wr M B E V) (left : Lit → Bool) (hl : ∀ a, a < 3 → E a ≠ [] → left (kl a) = true) : Srt wr B rk E V left := by
  intro a ha hne
  obtain ⟨ad, cap, g, e, h1, h2⟩ := own_ptrs (h.row a ha)
  have hpos : 0 < (E a).length := List.length_pos_iff.2 hne
  obtain ⟨rfl, _⟩ := h1 hpos
  refine ⟨g, cap, (E a).toArray, e, by simp, fun h' => absurd (h'.symm.trans (hl a ha hne)) (by decide), fun j hj => ?_⟩
  have hj' : j < (E a).length := by simpa using hj
  have := h2 j hj'
  rw [Nat.zero_add]
  simpa [getElem!_pos, hj'] using this
theorem Srt.kept {wr w' : World} {M B : Nat} {rk : Nat → Int} {E : Nat → List (Fin 5)} {V : Nat → Value} {left : Lit → Bool} {row : Option Nat} (h : Srt wr B rk E V left) (hg : wr.grownBy w' row) (hne : ∀ a, a < 3 → ∀ g, (V a).ownBlock = some g → row ≠ some g) : Srt w' B rk E V left := by
  intro a ha hE
  obtain ⟨g, cap, d, e, hp, hs, hH⟩ := h a ha hE
  refine ⟨g, cap, d, e, hp, hs, fun j hj => ?_⟩
  obtain ⟨c1, c2⟩ := hH j hj
  have hlt := block_lt_of_cell c1
  have hn : some g ≠ row := fun e' => hne a ha g (by rw [e]; rfl) e'.symm
  exact ⟨by rw [hg.cell_far ⟨g, 0 + j, none⟩ hlt hn]; exact c1, by rw [hg.frozen_far ⟨g, 0 + j, none⟩ hlt hn]; exact c2⟩
/-- One row sorted. -/
theorem Srt.sorted {wr w' : World} {B : Nat} {rk : Nat → Int} {E : Nat → List (Fin 5)} {V : Nat → Value} {left : Lit → Bool} (h : Srt wr B rk E V left) (b g cap : Nat) (hb : b < 3) (hV : V b = .slice (some ⟨g, 0, none⟩) (E b).length cap)
    (hap : ∀ a, a < 3 → ∀ c, c < 3 → a ≠ c → ∀ g, (V a).ownBlock = some g → (V c).ownBlock ≠ some g) (hg : wr.grownBy w' (some g)) (d' : Array (Fin 5)) (hp : d'.toList.Perm (E b)) (hs : SortedIn (ltOf (cf5 rk)) 0 d'.size d') (hH : Holds (enc5 B) w' g 0 d') :
    Srt w' B rk E V (fun z => left z && !z.sameKey (kl b)) := by
  intro a ha hE
  by_cases e : a = b
  · subst e
    exact ⟨g, cap, d', hV, hp, fun _ => hs, hH⟩
  · obtain ⟨g1, cap1, d1, e1, hp1, hs1, hH1⟩ := h a ha hE
    refine ⟨g1, cap1, d1, e1, hp1, fun h' => hs1 ?_, fun j hj => ?_⟩
    · simp only [kl_same a ha b hb, e, decide_false, Bool.not_false, Bool.and_true] at h'
      exact h'
    · obtain ⟨c1, c2⟩ := hH1 j hj
      have hlt := block_lt_of_cell c1
      have hn : some g1 ≠ some g := fun e' => hap a ha b hb e g1 (by rw [e1]; rfl) (by rw [hV]; exact e'.symm)
      exact ⟨by rw [hg.cell_far ⟨g1, 0 + j, none⟩ hlt hn]; exact c1, by rw [hg.frozen_far ⟨g1, 0 + j, none⟩ hlt hn]; exact c2⟩
end Go.Proofs.Ybulkmpw
