/-
  OUR OWN WORK (an AI prover). The plain law: what the law wants is the sorted row.
-/
import Derived.Test.YbulkmpwChosen
namespace Go.Proofs.Ybulkmpw
open Go.ChangeShapes Go.WideShapes Go.ChangeAt Go.RowKit
set_option linter.unusedVariables false

theorem Zs.zonesAt {w1 wr wq : World} {H cb : Nat} {us : Nat → List U} {V : Nat → Value} (h : Zs w1 wr H us V) (hzon : ∀ z, z < 3 → w1.cell? ⟨H + 8, z, none⟩ = some (.pointer (some ⟨H + 9 + z, 0, none⟩)))
    (hlen : ∀ z, z < 3 → (us z).length ≤ 1024) (hcb : wr.heap.size = cb) (hb : Below cb wr wq) : ZonesAt wq (H + 8) (H + 9) (H + 2) us := by
  intro z hz
  have hsz := h.size
  refine ⟨?_, hlen z hz, ?_⟩
  · rw [hb.cell (p := ⟨H + 8, z, none⟩) (by show H + 8 < cb; omega), h.below.cell (p := ⟨H + 8, z, none⟩) (by show H + 8 < H + 9; omega)]
    exact hzon z hz
  · have hc : wq.cell? ⟨H + 9 + z, 2, none⟩ = some (V z) := by
      rw [hb.cell (p := ⟨H + 9 + z, 2, none⟩) (by show H + 9 + z < cb; omega)]; exact (h.cell z hz).1
    have hrow := h.row z hz
    have huse : ∀ u ∈ us z, UAt wq (H + 2) u := fun u hu => (h.use z hz u hu).1.below hb (by have := (h.use z hz u hu).1.cells.2.1; omega)
    rcases hrow.2 with ⟨e, h0⟩ | ⟨g, cap, cur, e, hbase, hh, hle, hm, hs, ht⟩
    · exact ⟨none, 0, 0, by rw [hc, e, h0], fun h' => absurd h' (by omega), fun j hj => absurd hj (by omega)⟩
    · refine ⟨_, cap, g, by rw [hc, e], fun _ => rfl, fun j hj => ⟨?_, huse _ (List.getElem_mem hj)⟩⟩
      have hlt := (Array.getElem?_eq_some_iff.1 hh).1
      rw [hb.cell (p := ⟨g, j, none⟩) (by show g < cb; omega)]
      rw [e] at hrow
      rw [hrow.cellAt j (by omega)]
      simp [hj, uptr]

/-- The index that the law finds for rank r: the last one among the first k. -/
def sAt (sh r : Int) : Nat → Int
  | 0 => -1
  | k + 1 => if rkOf sh k = r then (k : Int) else sAt sh r k
theorem sAt_five (sh : Int) (h0 : 0 ≤ sh) (r : Nat) (hr : r < 5) : ∃ c : Fin 5, sAt sh r 5 = (c.val : Int) ∧ rkOf sh c.val = r := by
  have h5 : sh % 5 = 0 ∨ sh % 5 = 1 ∨ sh % 5 = 2 ∨ sh % 5 = 3 ∨ sh % 5 = 4 := by omega
  have e : ∀ i : Nat, rkOf sh i = (2 * (i : Int) + sh % 5) % 5 := fun i => by unfold rkOf; omega
  have key : ∀ t : Int, (t = 0 ∨ t = 1 ∨ t = 2 ∨ t = 3 ∨ t = 4) → ∀ r : Nat, r < 5 → ∃ c : Fin 5, (2 * (c.val : Int) + t) % 5 = r := by
    intro t ht
    rcases ht with rfl | rfl | rfl | rfl | rfl <;> apply five
    all_goals first | exact ⟨0, by decide⟩ | exact ⟨1, by decide⟩ | exact ⟨2, by decide⟩ | exact ⟨3, by decide⟩ | exact ⟨4, by decide⟩
  obtain ⟨c, hc⟩ := key _ h5 r hr
  refine ⟨c, ?_, by rw [e]; exact hc⟩
  have uniq : ∀ k : Nat, k < 5 → k ≠ c.val → rkOf sh k ≠ r := fun k hk hne h => by
    rw [e] at h
    have := c.isLt
    omega
  have yes : rkOf sh c.val = r := by rw [e]; exact hc
  have gen : ∀ k, k ≤ 5 → c.val < k → sAt sh r k = (c.val : Int) := by
    intro k
    induction k with
    | zero => intro _ h; omega
    | succ k ih =>
      intro hk hlt
      unfold sAt
      by_cases e2 : k = c.val
      · rw [e2, if_pos yes]
      · rw [if_neg (uniq k (by omega) e2)]
        exact ih (by omega) (by omega)
  exact gen 5 (by omega) c.isLt
theorem rk_inj (sh : Int) (i j : Fin 5) (h : rkOf sh i.val = rkOf sh j.val) : i = j := by
  unfold rkOf at h
  have := i.isLt
  have := j.isLt
  exact Fin.ext (by omega)

/-- What the law wants, of the ranks below k: 'iv r' is the sense of rank r. -/
def wl (iv : Nat → Fin 5) (p : Fin 5 → Bool) : Nat → List (Fin 5)
  | 0 => []
  | k + 1 => if p (iv k) then wl iv p k ++ [iv k] else wl iv p k
theorem wl_mem {iv : Nat → Fin 5} {p : Fin 5 → Bool} (s : Fin 5) : ∀ k, s ∈ wl iv p k ↔ p s = true ∧ ∃ r, r < k ∧ iv r = s
  | 0 => by simp [wl]
  | k + 1 => by
    have ih := wl_mem (iv := iv) (p := p) s k
    unfold wl
    by_cases h : p (iv k) = true
    · rw [if_pos h, List.mem_append, ih, List.mem_singleton]
      constructor
      · rintro (⟨h1, r, h2, h3⟩ | rfl)
        · exact ⟨h1, r, by omega, h3⟩
        · exact ⟨h, k, by omega, rfl⟩
      · rintro ⟨h1, r, h2, h3⟩
        by_cases e : r = k
        · subst e; exact .inr h3.symm
        · exact .inl ⟨h1, r, by omega, h3⟩
    · rw [if_neg h, ih]
      constructor
      · rintro ⟨h1, r, h2, h3⟩; exact ⟨h1, r, by omega, h3⟩
      · rintro ⟨h1, r, h2, h3⟩
        by_cases e : r = k
        · subst e; rw [h3] at h; exact absurd h1 h
        · exact ⟨h1, r, by omega, h3⟩
theorem wl_len {iv : Nat → Fin 5} {p : Fin 5 → Bool} : ∀ k, (wl iv p k).length ≤ k
  | 0 => by simp [wl]
  | k + 1 => by
    have := wl_len (iv := iv) (p := p) k
    unfold wl
    split
    · simp; omega
    · omega
theorem wl_sorted {f : Fin 5 → Int} {iv : Nat → Fin 5} {p : Fin 5 → Bool} (hf : ∀ r, r < 5 → f (iv r) = r) : ∀ k, k ≤ 5 → (wl iv p k).Pairwise (fun x y => f x < f y)
  | 0, _ => by simp [wl]
  | k + 1, hk => by
    have ih := wl_sorted (p := p) hf k (by omega)
    unfold wl
    split
    · rw [List.pairwise_append]
      refine ⟨ih, by simp, ?_⟩
      intro x hx y hy
      simp at hy
      subst hy
      obtain ⟨_, r, hr, rfl⟩ := (wl_mem x k).1 hx
      rw [hf r (by omega), hf k (by omega)]
      omega
    · exact ih
theorem sorted_eq (f : Fin 5 → Int) : ∀ l1 l2 : List (Fin 5), l1.Pairwise (fun x y => f x < f y) → l2.Pairwise (fun x y => f x < f y) → (∀ x, x ∈ l1 ↔ x ∈ l2) → l1 = l2
  | [], [], _, _, _ => rfl
  | [], y :: l2, _, _, h => absurd ((h y).2 List.mem_cons_self) (by simp)
  | x :: l1, [], _, _, h => absurd ((h x).1 List.mem_cons_self) (by simp)
  | x :: l1, y :: l2, h1, h2, h => by
    obtain ⟨p1, p2⟩ := List.pairwise_cons.1 h1
    obtain ⟨q1, q2⟩ := List.pairwise_cons.1 h2
    have exy : x = y := by
      rcases List.mem_cons.1 ((h x).1 List.mem_cons_self) with e | e
      · exact e
      · rcases List.mem_cons.1 ((h y).2 List.mem_cons_self) with e' | e'
        · exact e'.symm
        · have a1 := q1 x e
          have a2 := p1 y e'
          omega
    subst exy
    have : l1 = l2 := sorted_eq f l1 l2 p2 q2 (fun z => by
      constructor
      · intro hz
        rcases List.mem_cons.1 ((h z).1 (List.mem_cons_of_mem _ hz)) with e | e
        · subst e; have := p1 z hz; omega
        · exact e
      · intro hz
        rcases List.mem_cons.1 ((h z).2 (List.mem_cons_of_mem _ hz)) with e | e
        · subst e; have := q1 z hz; omega
        · exact e)
    rw [this]
/-- The sorted row is strictly sorted by rank. -/
theorem row_sorted (sh : Int) (E : List (Fin 5)) (hnd : E.Nodup) (d : Array (Fin 5)) (hp : d.toList.Perm E) (hs : Sort.SortedIn (ltOf (cf5 (rkOf sh))) 0 d.size d) : d.toList.Pairwise (fun x y => rkOf sh x.val < rkOf sh y.val) := by
  have hn : d.toList.Nodup := hp.nodup_iff.2 hnd
  rw [List.pairwise_iff_getElem]
  intro i j hi hj hij
  have hi' : i < d.size := by simpa using hi
  have hj' : j < d.size := by simpa using hj
  have h := hs i j (Nat.zero_le _) hij hj'
  rw [lt5] at h
  simp only [decide_eq_false_iff_not] at h
  rw [getElem!_pos d i hi', getElem!_pos d j hj'] at h
  have hne : d.toList[i] ≠ d.toList[j] := by
    have := List.pairwise_iff_getElem.1 hn i j hi hj hij
    exact this
  have hr : rkOf sh (d[i]).val ≠ rkOf sh (d[j]).val := fun e => hne (by simpa using rk_inj sh _ _ e)
  simp only [Array.getElem_toList]
  omega
/-- THE PLAIN LAW: what the law wants is what lies in the row. -/
theorem want_row (sh : Int) (iv : Nat → Fin 5) (hiv : ∀ r, r < 5 → rkOf sh (iv r).val = r) (p : Fin 5 → Bool) (E : List (Fin 5)) (hE : ∀ s, s ∈ E ↔ p s = true) (hnd : E.Nodup) (d : Array (Fin 5)) (hp : d.toList.Perm E) (hs : Sort.SortedIn (ltOf (cf5 (rkOf sh))) 0 d.size d) :
    d.toList = wl iv p 5 := by
  refine sorted_eq (fun x => rkOf sh x.val) _ _ (row_sorted sh E hnd d hp hs) (wl_sorted hiv 5 (Nat.le_refl _)) (fun s => ?_)
  rw [hp.mem_iff, hE, wl_mem]
  constructor
  · intro h
    refine ⟨h, ?_⟩
    have hr : 0 ≤ rkOf sh s.val ∧ rkOf sh s.val < 5 := by unfold rkOf; omega
    refine ⟨(rkOf sh s.val).toNat, by omega, rk_inj sh _ _ ?_⟩
    rw [hiv _ (by omega)]
    omega
  · exact fun h => h.1
theorem want_nil (sh : Int) (iv : Nat → Fin 5) (hiv : ∀ r, r < 5 → rkOf sh (iv r).val = r) (p : Fin 5 → Bool) (E : List (Fin 5)) (hE : ∀ s, s ∈ E ↔ p s = true) : E = [] ↔ wl iv p 5 = [] := by
  have key : ∀ s, s ∈ E ↔ s ∈ wl iv p 5 := fun s => by
    rw [hE, wl_mem]
    constructor
    · intro h
      refine ⟨h, ?_⟩
      have hr : 0 ≤ rkOf sh s.val ∧ rkOf sh s.val < 5 := by unfold rkOf; omega
      refine ⟨(rkOf sh s.val).toNat, by omega, rk_inj sh _ _ ?_⟩
      rw [hiv _ (by omega)]
      omega
    · exact fun h => h.1
  rw [List.eq_nil_iff_forall_not_mem, List.eq_nil_iff_forall_not_mem]
  simp only [key]

def cnTo (m : Nat → Option Value) : Nat → Nat
  | 0 => 0
  | k + 1 => cnTo m k + one m k
theorem cnTo_three (m : Nat → Option Value) : cnTo m 3 = cnt m := by unfold cnt; simp [cnTo]
theorem cnTo_le (m : Nat → Option Value) : ∀ k, cnTo m k ≤ k
  | 0 => Nat.le_refl _
  | k + 1 => by
    have := cnTo_le m k
    have h1 : one m k ≤ 1 := by unfold one; split <;> omega
    show cnTo m k + one m k ≤ k + 1
    omega
end Go.Proofs.Ybulkmpw
