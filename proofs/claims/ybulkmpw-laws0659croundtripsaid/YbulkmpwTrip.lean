/-
  OUR OWN WORK (an AI prover). The walk of 'LawS0659CRoundTrip' (function 5), over the contract of 'layoutYearDay'.
-/
import Derived.Test.YbulkmpwYearDay
namespace Go.Proofs.Ybulkmpw
open Go.ChangeShapes Go.WideShapes Go.ChangeAt Go.RowKit
set_option linter.unusedVariables false

theorem bt_data (s : ByteArray) (j : Nat) (h : j < s.size) : bt s j = ((s.data.toList.getD j 0).toNat : Int) := by
  rw [bt_eq s j h]
  have h' : j < s.data.toList.length := by simpa using h
  have e : s.data.toList.getD j 0 = s[j] := by
    rw [List.getD_eq_getElem?_getD, List.getElem?_eq_getElem h']
    simp
    rfl
  rw [e]

/-- Three digits ahead of a suffix. -/
theorem trip_facts (x y z : UInt8) (s : ByteArray) (hx : 48 ≤ x.toNat ∧ x.toNat ≤ 57) (hy : 48 ≤ y.toNat ∧ y.toNat ≤ 57) (hz : 48 ≤ z.toNat ∧ z.toNat ≤ 57) :
    Lead ((⟨#[x, y, z]⟩ : ByteArray) ++ s) 3 ∧ val ((⟨#[x, y, z]⟩ : ByteArray) ++ s) 3 = ((x.toNat : Int) - 48) * 100 + ((y.toNat : Int) - 48) * 10 + ((z.toNat : Int) - 48) ∧
      ((⟨#[x, y, z]⟩ : ByteArray) ++ s).extract 3 ((⟨#[x, y, z]⟩ : ByteArray) ++ s).size = s ∧ ((⟨#[x, y, z]⟩ : ByteArray) ++ s).size = s.size + 3 := by
  have hsz : ((⟨#[x, y, z]⟩ : ByteArray) ++ s).size = s.size + 3 := by
    rw [ByteArray.size_append]; show 3 + s.size = _; omega
  have hdt : ((⟨#[x, y, z]⟩ : ByteArray) ++ s).data.toList = x :: y :: z :: s.data.toList := by
    rw [ByteArray.data_append]; simp
  have b0 : bt ((⟨#[x, y, z]⟩ : ByteArray) ++ s) 0 = (x.toNat : Int) := by rw [bt_data _ _ (by omega), hdt]; rfl
  have b1 : bt ((⟨#[x, y, z]⟩ : ByteArray) ++ s) 1 = (y.toNat : Int) := by rw [bt_data _ _ (by omega), hdt]; rfl
  have b2 : bt ((⟨#[x, y, z]⟩ : ByteArray) ++ s) 2 = (z.toNat : Int) := by rw [bt_data _ _ (by omega), hdt]; rfl
  refine ⟨⟨by omega, by omega, fun j hj => ?_, fun h => absurd h (by omega)⟩, ?_, ?_, hsz⟩
  · match j, hj with
    | 0, _ => rw [b0]; omega
    | 1, _ => rw [b1]; omega
    | 2, _ => rw [b2]; omega
  · simp only [val, b0, b1, b2]; omega
  · apply ByteArray.ext
    rw [ByteArray.data_extract]
    apply Array.ext'
    rw [Array.toList_extract, hdt, hsz]
    simp [List.extract]
    exact List.take_of_length_le (by simp)

theorem trip_far (v : Int) (s : ByteArray) (p : Bool) (w : World) (hs : s.size ≤ maxLen) (h : 4096 < s.size) :
    Calls Yba.prog 5 #[.int .u16 v, .string s, .bool p] w fun e w' => e = .returned (.bool true) ∧ Grown w w' := by
  unfold maxLen at hs
  go_enter Yba.func5, Yba.ntmps5
  go_wp2
  go_ret
  exact ⟨rfl, Grown.refl _⟩

theorem byte_of (n : Int) (h0 : 0 ≤ n) (h1 : n ≤ 255) : ∃ b : UInt8, (b.toNat : Int) = n := by
  refine ⟨UInt8.ofNat n.toNat, ?_⟩
  rw [UInt8.toNat_ofNat']
  omega

theorem trip_near (v : Int) (s : ByteArray) (p : Bool) (w : World) (hs : s.size ≤ 4096) (h0 : 0 ≤ v) (h1 : v ≤ 65535) :
    Calls Yba.prog 5 #[.int .u16 v, .string s, .bool p] w fun e w' => e = .returned (.bool true) ∧ Grown w w' := by
  obtain ⟨d, hd⟩ : ∃ d, v % 1000 = d := ⟨_, rfl⟩
  have d0 : 0 ≤ d := by omega
  have d1 : d ≤ 999 := by omega
  obtain ⟨x, hx⟩ := byte_of (48 + d / 100) (by omega) (by omega)
  obtain ⟨y, hy⟩ := byte_of (48 + d / 10 % 10) (by omega) (by omega)
  obtain ⟨z, hz⟩ := byte_of (48 + d % 10) (by omega) (by omega)
  obtain ⟨f1, f2, f3, f4⟩ := trip_facts x y z s (by omega) (by omega) (by omega)
  have hval : val ((⟨#[x, y, z]⟩ : ByteArray) ++ s) 3 = d := by rw [f2]; omega
  have hconv : ∀ w : World, (convert 23 9 (.slice (some ⟨w.heap.size, 0, none⟩) 3 3)).run Yba.prog (w.alloc (.cells #[.int .u8 (48 + d / 100), .int .u8 (48 + d / 10 % 10), .int .u8 (48 + d % 10)] 5)) = .ok (.string ⟨#[x, y, z]⟩) (w.alloc (.cells #[.int .u8 (48 + d / 100), .int .u8 (48 + d / 10 % 10), .int .u8 (48 + d % 10)] 5)) := fun w => by
    refine run_convert_bytes_back (P := Yba.prog) _ 23 9 5 ⟨w.heap.size, 0, none⟩ 3 [x, y, z] Yba.underlying23 Yba.underlying5 Yba.underlying9 (fun j hj => ?_)
    rw [Addr.add_lit, World.cell?_alloc_at _ _ _ _ rfl]
    match j, hj with
    | 0, _ => rw [← hx]; rfl
    | 1, _ => rw [← hy]; rfl
    | 2, _ => rw [← hz]; rfl
  have hlay := hide (fun w' => layout_calls ((⟨#[x, y, z]⟩ : ByteArray) ++ s) 3 p w' (by omega) f1)
  have eo : outY ((⟨#[x, y, z]⟩ : ByteArray) ++ s) 3 p = .tuple #[.int .i64 d, .string s, .bool true] := by unfold outY; rw [if_neg (by omega), hval, f3]
  rw [eo] at hlay
  have hs3 : (⟨#[x, y, z]⟩ : ByteArray).size = 3 := rfl
  obtain ⟨B, hB⟩ : ∃ B : ByteArray, B = ⟨#[x, y, z]⟩ := ⟨_, rfl⟩
  rw [← hB] at hlay hconv hs3
  clear f1 f2 f3 f4 hval eo hx hy hz hB
  go_enter Yba.func5, Yba.ntmps5
  go_wp2_with (go_at_call 7; refine (hlay.out _).mono ?_; rintro e w' ⟨rfl, nq, rfl⟩)
  go_ret
  exact ⟨rfl, (Grown.refl w).alloc _ _⟩
end Go.Proofs.Ybulkmpw
