/-
  OUR OWN WORK (an AI prover). slices.SortFunc at the closure of countryEntries: the kit's contract, laid at this program.
-/
import Derived.Test.YbulkmpwRows
import Derived.Shelf.SlSortCmp.Small
import Derived.Shelf.Small.Bits
import Derived.Shelf.Lay
import Derived.Ground.SlsfProg
import Derived.Ground.NamesProg
import Derived.WalkKit
import Derived.WalkSpells
import Derived.ProofKit
import Derived.Below
import Derived.BigQuiet
import Derived.Deep.QuietTactic
namespace Go.Proofs.Ybulkmpw
open Go.Shelf Go.RowKit Go.Lib Go.Sort Go.Proofs
set_option linter.unusedVariables false
shelf_lay_g SlLaysF.n6 Slsf 6 at Yba 9 as Yba.sortL
shelf_lay Lays.n125 Nm 125 at Yba as Yba.bitsLen

theorem nan_calls (x : Int) (w : World) : Calls Yba.prog 16 #[.int .i64 x] w fun e w' => e = .returned (.bool false) ∧ w' = w := by
  go_enter Yba.func16, Yba.ntmps16
  go_wp2
  go_ret
  exact ⟨rfl, rfl⟩
def cmpI (x y : Int) : Int := if x < y then -1 else if y < x then 1 else 0
theorem cmp_calls (x y : Int) (w : World) : Calls Yba.prog 11 #[.int .i64 x, .int .i64 y] w fun e w' => e = .returned (.int .i64 (cmpI x y)) ∧ w' = w := by
  have h1 : Hid (∀ z w, _) := fun z w => nan_calls z w
  have e1 : x < y → cmpI x y = -1 := fun h => if_pos h
  have e2 : y < x → cmpI x y = 1 := fun h => by unfold cmpI; rw [if_neg (by omega), if_pos h]
  have e3 : x = y → cmpI x y = 0 := fun h => by unfold cmpI; rw [if_neg (by omega), if_neg (by omega)]
  have E1 : Hid _ := e1
  have E2 : Hid _ := e2
  have E3 : Hid _ := e3
  clear e1 e2 e3
  rcases Int.lt_trichotomy x y with h | h | h
  · rw [E1.out h]
    go_enter Yba.func11, Yba.ntmps11
    go_wp2_with (go_at_call 16; refine (h1.out _ _).mono ?_; rintro e w' ⟨rfl, rfl⟩)
    go_ret
    exact ⟨rfl, rfl⟩
  · rw [E3.out h]
    subst h
    go_enter Yba.func11, Yba.ntmps11
    go_wp2_with (go_at_call 16; refine (h1.out _ _).mono ?_; rintro e w' ⟨rfl, rfl⟩)
    go_ret
    exact ⟨rfl, rfl⟩
  · rw [E2.out h]
    have h' : ¬ x < y := by omega
    go_enter Yba.func11, Yba.ntmps11
    go_wp2_with (go_at_call 16; refine (h1.out _ _).mono ?_; rintro e w' ⟨rfl, rfl⟩)
    go_ret
    exact ⟨rfl, rfl⟩

theorem closure_calls (p q : Nat) (x y : Int) (w : World) (h1 : w.cell? ⟨p, 3, none⟩ = some (.int .i64 x)) (h2 : w.cell? ⟨q, 3, none⟩ = some (.int .i64 y)) :
    Calls Yba.prog 10 #[.pointer (some ⟨p, 0, none⟩), .pointer (some ⟨q, 0, none⟩)] w fun e w' => e = .returned (.int .i64 (cmpI x y)) ∧ ∃ n, w' = w.drewN n := by
  have hc : Hid (∀ w, _) := fun w => cmp_calls x y w
  go_enter Yba.func10, Yba.ntmps10
  go_wp2_with fail
  go_quiet ((go_at_call 11; exact Calls.quiet_of_same (hc.out _)))
  go_wp2
  go_ret
  exact ⟨rfl, _, rfl⟩

/-- The five senses' pointers. -/
def enc5 (B : Nat) (i : Fin 5) : Value := .pointer (some ⟨B + i.val, 0, none⟩)
def cf5 (rk : Nat → Int) (i j : Fin 5) : Int := cmpI (rk i.val) (rk j.val)
theorem lt5 (rk : Nat → Int) (i j : Fin 5) : ltOf (cf5 rk) i j = decide (rk i.val < rk j.val) := by
  unfold ltOf cf5 cmpI
  by_cases h : rk i.val < rk j.val
  · simp [h]
  · by_cases h' : rk j.val < rk i.val <;> simp [h, h']
theorem swo5 (rk : Nat → Int) : SWO (ltOf (cf5 rk)) where
  irrefl x := by rw [lt5]; simp
  trans x y z h1 h2 := by rw [lt5] at *; simp at *; omega
  ntrans x y z h1 h2 := by rw [lt5] at *; simp at *; omega

theorem sort_calls (B blk cap : Nat) (rk : Nat → Int) (d : Array (Fin 5)) (w : World) (hrk : ∀ i, i < 5 → w.cell? ⟨B + i, 3, none⟩ = some (.int .i64 (rk i))) (hne : ∀ i, i < 5 → B + i ≠ blk)
    (hH : Holds (enc5 B) w blk 0 d) (h12 : d.size ≤ 12) :
    Calls Yba.prog 9 #[.slice (some ⟨blk, 0, none⟩) d.size cap, .func (.func 10) #[] #[]] w fun e w' => e = .returned (.tuple #[]) ∧
      ∃ d' n, PermIn 0 d.size d d' ∧ SortedIn (ltOf (cf5 rk)) 0 d.size d' ∧ w' = (putRow (enc5 B) w blk 0 d').drewN n := by
  have eg : ∀ args w, (callFunc 10 args).run Yba.prog w = .ok (.enter 10 args) w := enters_of Yba.func10 (by kernel_rfl) rfl
  have hlen : ∀ (n : Nat) (W : World), n ≤ 12 → Calls Yba.prog 15 #[.int .u64 n] W fun e w' => (∃ l : Int, e = .returned (.int .i64 l)) ∧ w' = W :=
    fun n W h => (Any.bits_Len Yba.bitsLen n W (by omega) (by omega)).mono fun _ _ ⟨he, hw⟩ => ⟨⟨_, he⟩, hw⟩
  have hcmp : CmpReads Yba.prog 10 #[] (enc5 B) (cf5 rk) blk 0 d.size w := by
    intro m os dk hdk x y
    have hcell : ∀ i, i < 5 → (sortWorld (enc5 B) w blk 0 m dk os).cell? ⟨B + i, 3, none⟩ = some (.int .i64 (rk i)) := fun i hi => by
      have hlt := block_lt_of_cell (hrk i hi)
      unfold sortWorld
      rw [cell?_grow _ _ _ (by simpa [putRow, mapBlock, Sort.ahead] using hlt), cell?_putRow_other _ _ _ _ _ _ (.inl (hne i hi))]
      exact hrk i hi
    exact closure_calls (B + x.val) (B + y.val) _ _ _ (hcell x.val x.isLt) (hcell y.val y.isLt)
  exact Any.slices_SortFunc_small_sorted Yba.sortL (enc5 B) (fun _ => rfl) (cf5 rk) (swo5 rk) 10 #[] blk 0 cap d w eg hcmp hH h12 hlen
end Go.Proofs.Ybulkmpw
