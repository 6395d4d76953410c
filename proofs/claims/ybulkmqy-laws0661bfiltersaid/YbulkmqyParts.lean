/-
  OUR OWN WORK (an AI prover). The contracts of zzs0661balts, AlternativesOf, zzs0661beq, zzs0661bvariant.
-/
import Derived.Test.YbulkmqyRows
import Derived.WalkKit
import Derived.WalkSpells
import Derived.ProofKit
import Derived.OpenShut
import Derived.Below
import Derived.BigQuiet
import Derived.Deep.QuietTactic
import Derived.WalkSmall
import Derived.Deep.OwnRows
import Derived.Maps.AppendAt
namespace Go.Proofs.Ybulkmqy
open Go.ChangeShapes Go.WideShapes Go.ChangeAt Go.RowKit
set_option linter.unusedVariables false
theorem hide {p : Prop} (h : p) : Hid p := h
abbrev noStr : Value := .string { data := #[] }
theorem Yba.info39 : (Yba.prog.info? 39).map (fun i => (i.zero, i.size, i.bytes)) = some (some (.agg #[.int .i64 0, noStr, noStr]), 3, 40) := by kernel_rfl

/-- One alternative, its type's number reduced already. -/
structure Alt where
  ty : Int
  gid : ByteArray
  uri : ByteArray
def Alt.cells (x : Alt) : List Value := [.int .i64 x.ty, .string x.gid, .string x.uri]
def row (l : List Alt) : List Value := l.flatMap Alt.cells
theorem row_app (l : List Alt) (x : Alt) : row (l ++ [x]) = row l ++ x.cells := by simp [row]
theorem row_one (l : List Alt) : ∀ u ∈ row l, u.oneCell' = true := by
  intro u hu
  obtain ⟨x, _, hx⟩ := List.mem_flatMap.1 hu
  simp [Alt.cells] at hx
  rcases hx with rfl | rfl | rfl <;> rfl

/-- The slice of law inputs, as its cells say. -/
def ZAt (w : World) (b off L : Nat) (T : Nat → Int) (G U : Nat → ByteArray) : Prop :=
  ∀ j, j < L → w.cell? ⟨b, off + j * 3, none⟩ = some (.int .u8 (T j)) ∧ w.cell? ⟨b, off + j * 3 + 1, none⟩ = some (.string (G j)) ∧ w.cell? ⟨b, off + j * 3 + 2, none⟩ = some (.string (U j)) ∧ 0 ≤ T j ∧ T j ≤ 255

def alts (T : Nat → Int) (G U : Nat → ByteArray) (k : Nat) : List Alt := (List.range k).map fun j => ⟨T j % 4, G j, U j⟩

theorem alts_succ (T : Nat → Int) (G U : Nat → ByteArray) (k : Nat) : alts T G U (k + 1) = alts T G U k ++ [⟨T k % 4, G k, U k⟩] := by simp [alts, List.range_succ]
theorem new_cells (w : World) (n : Nat) (hn : n = w.heap.size) (x : Alt) : ∀ j u, x.cells[j]? = some u → (w.alloc (.cells #[.int .i64 x.ty, .string x.gid, .string x.uri] 39)).cell? ((⟨n, 0, none⟩ : Addr).add j) = some u := by
  intro j u h
  rw [Addr.add_lit, Nat.zero_add, World.cell?_alloc_at _ _ _ _ hn]
  rw [← h]; simp [Alt.cells]
theorem cells_one (x : Alt) : ∀ u ∈ x.cells, u.oneCell' = true := by
  intro u hu
  simp [Alt.cells] at hu
  rcases hu with rfl | rfl | rfl <;> rfl

theorem own_block {w : World} {base e size n : Nat} {v : Value} {xs : List Value} (h : w.ownsRow base e size v n xs) : ∀ k, v.ownBlock = some k → base ≤ k := by
  intro k hk
  rcases h.2 with ⟨rfl, _⟩ | ⟨g, cap, cur, rfl, hb, _⟩
  · cases hk
  · cases hk; exact hb
theorem balts_calls (b off L : Nat) (a0 : Option Addr) (c0 : Nat) (T : Nat → Int) (G U : Nat → ByteArray) (w : World) (hL : L ≤ 1024) (ha : 0 < L → a0 = some ⟨b, off, none⟩) (hb : 0 < L → b < w.heap.size) (hz : Hid (ZAt w b off L T G U)) :
    Calls Yba.prog 6 #[.slice a0 L c0] w fun e w' => ∃ v, e = .returned v ∧ w'.ownsRow w.heap.size 39 3 v L (row (alts T G U L)) ∧ Below w.heap.size w w' := by
  obtain ⟨i0, hi, hz0, hz1, hz2⟩ := info_parts Yba.info39
  go_enter Yba.func6, Yba.ntmps6
  go_wp2
  go_loopw [3, 8] (fun v i wr => ∃ k : Nat, k ≤ L ∧ i = .int .i64 k ∧ wr.ownsRow w.heap.size 39 3 v k (row (alts T G U k)) ∧ Below w.heap.size w wr) (fun v i _ => L - (intOf i).toNat)
  case atStart => exact ⟨0, Nat.zero_le _, rfl, ⟨rfl, .inl ⟨rfl, rfl⟩⟩, Below.refl _ _⟩
  case round =>
    rename_i v3 _ _
    obtain ⟨k, hk, rfl, hown, hbel⟩ := hrel
    by_cases hlt : k < L
    · obtain rfl := ha (by omega)
      have hb2 := hb (by omega)
      obtain ⟨c1, c2, c3, h0, h1⟩ := hz.out k hlt
      have hi3 : (k : Int) < (L : Int) := by omega
      rw [← hbel.cell (p := ⟨b, _, none⟩) hb2] at c1 c2 c3
      have HO := hide ((hown.alloc (.cells #[.int .u8 (T k), .string (G k), .string (U k)] 36)).alloc (.cells #[.int .i64 (T k % 4), .string (G k), .string (U k)] 39))
      have HN := hide (new_cells (wr.alloc (.cells #[.int .u8 (T k), .string (G k), .string (U k)] 36)) (wr.heap.size + 1) (by simp) ⟨T k % 4, G k, U k⟩)
      have HB := hide ((hbel.alloc hbel.size (.cells #[.int .u8 (T k), .string (G k), .string (U k)] 36)).alloc (by have := hbel.size; simp; omega) (.cells #[.int .i64 (T k % 4), .string (G k), .string (U k)] 39))
      clear hown hbel
      go_wp2_with (at_builtin; refine wpList_append_own _ rfl (.tmp 12) (.tmp 22) 29 rfl w.heap.size 39 i0 _ 3 40 Yba.underlying29 hi hz0 hz1 hz2 rfl (by decide) _ k (row (alts T G U k)) rfl HO.out ⟨wr.heap.size + 1, 0, none⟩ 1 1 (Alt.cells ⟨T k % 4, G k, U k⟩) rfl rfl HN.out (cells_one _) (by unfold maxLen; omega) (by omega) HB.out.size ?_; intro v' w1 hown' hgrow hnn)
      have HB2 := hide (HB.out.grown hgrow HB.out.size (own_block HO.out))
      rw [← row_app, ← alts_succ] at hown'
      have HO2 := hide hown'
      clear hown' hgrow hnn HO HN HB
      go_wp2
      go_round
      case rel => exact ⟨k + 1, by omega, by go_num, HO2.out, HB2.out⟩
      case measure => simp [intOf]; omega
    · obtain rfl : k = L := by omega
      have HO := hide hown
      have HB := hide hbel
      clear hown hbel
      go_wp2
      go_ret
      exact ⟨_, rfl, HO.out, HB.out⟩

/-- The groups of the variant behind k rounds. -/
def grp (S : Nat → ByteArray) (k i : Nat) : ByteArray := if i < k then S i else { data := #[] }
def vcells (S : Nat → ByteArray) (k : Nat) : Array Value := #[noStr, .int .i64 0, noStr, noStr, .string (grp S k 0), .string (grp S k 1), .string (grp S k 2), .string (grp S k 3)]
def vworld (w : World) (S : Nat → ByteArray) (k : Nat) : World := (w.alloc (.cells #[noStr, .int .i64 0, noStr, noStr, noStr, noStr, noStr, noStr] 26)).alloc (.cells (vcells S k) 26)
theorem grp_stop (S : Nat → ByteArray) {k L : Nat} (hk : k ≤ L) (hk4 : k ≤ 4) (hlt : ¬(k < L ∧ k < 4)) (i : Nat) (hi : i < 4) : grp S k i = grp S L i := by
  unfold grp
  by_cases hh : i < k
  · rw [if_pos hh, if_pos (by omega)]
  · rw [if_neg hh, if_neg (by omega)]
theorem vcells_stop (S : Nat → ByteArray) {k L : Nat} (hk : k ≤ L) (hk4 : k ≤ 4) (hlt : ¬(k < L ∧ k < 4)) : vcells S k = vcells S L := by
  have h := grp_stop S hk hk4 hlt
  simp only [vcells, h 0 (by omega), h 1 (by omega), h 2 (by omega), h 3 (by omega)]
theorem variant_calls (b off L : Nat) (a0 : Option Addr) (c0 : Nat) (S : Nat → ByteArray) (w : World) (hL : L ≤ 1024) (ha : 0 < L → a0 = some ⟨b, off, none⟩) (hb : 0 < L → b < w.heap.size) (hs : Hid (∀ j, j < L → w.cell? ⟨b, off + j, none⟩ = some (.string (S j)))) :
    Calls Yba.prog 5 #[.slice a0 L c0] w fun e w' => e = .returned (.agg (vcells S L)) ∧ Below w.heap.size w w' := by
  go_enter Yba.func5, Yba.ntmps5
  go_wp2
  go_loopw [4] (fun i wr => ∃ k : Nat, k ≤ L ∧ k ≤ 4 ∧ i = .int .i64 k ∧ wr = vworld w S k) (fun i _ => L - (intOf i).toNat)
  case atStart => exact ⟨0, Nat.zero_le _, Nat.zero_le _, rfl, rfl⟩
  case round =>
    obtain ⟨k, hk, hk4, rfl, rfl⟩ := hrel
    by_cases hlt : k < L ∧ k < 4
    · obtain ⟨h1, h2⟩ := hlt
      obtain rfl := ha (by omega)
      have hb2 := hb (by omega)
      have c1 := hs.out k h1
      have hi3 : (k : Int) < (L : Int) := by omega
      rcases (show k = 0 ∨ k = 1 ∨ k = 2 ∨ k = 3 by omega) with rfl | rfl | rfl | rfl
      all_goals (simp only [vworld, vcells, grp] ; simp only [Nat.lt_irrefl, Nat.not_lt_zero, if_false, if_true, Nat.reduceLT]; try simp only [Nat.add_zero] at c1)
      all_goals go_wp2
      all_goals refine ⟨⟨_, h1, h2, by go_num, rfl⟩, by simp [intOf]; omega⟩
    · have e : vcells S k = vcells S L := vcells_stop S hk hk4 hlt
      have hbel : Below w.heap.size w ((w.alloc (.cells (vcells S L) 26)).alloc (.cells (vcells S L) 26)) := ((Below.refl _ w).alloc (Nat.le_refl _) _).alloc (by simp) _
      have H := hide hbel
      clear hbel
      by_cases h1 : k < L
      · have hi3 : (k : Int) < (L : Int) := by omega
        obtain rfl : k = 4 := by omega
        unfold vworld
        rw [e]
        clear e
        unfold vcells
        go_wp2
        refine bodyPost_ret (v := .agg (vcells S L)) (by simp [results, Yba.results5, go_sem, vcells]) rfl ⟨rfl, H.out⟩
      · have hi3 : ¬ (k : Int) < (L : Int) := by omega
        unfold vworld
        rw [e]
        clear e
        unfold vcells
        go_wp2
        refine bodyPost_ret (v := .agg (vcells S L)) (by simp [results, Yba.results5, go_sem, vcells]) rfl ⟨rfl, H.out⟩
end Go.Proofs.Ybulkmqy
