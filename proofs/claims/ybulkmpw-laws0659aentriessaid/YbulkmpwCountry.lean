/-
  OUR OWN WORK (an AI prover). The walk of countryEntries.
-/
import Derived.Test.YbulkmpwRange
import Derived.Deep.RegionHeld3
import Derived.Deep.DrawnRows
import Derived.WalkSmall
namespace Go.Proofs.Ybulkmpw
open Go.ChangeShapes Go.WideShapes Go.ChangeAt Go.RowKit
set_option linter.unusedVariables false

/-- The three zones and their rows of uses. -/
def ZonesAt (w : World) (zb Z B : Nat) (us : Nat → List U) : Prop :=
  ∀ z, z < 3 → w.cell? ⟨zb, z, none⟩ = some (.pointer (some ⟨Z + z, 0, none⟩)) ∧ (us z).length ≤ 1024 ∧ ∃ a cap g, w.cell? ⟨Z + z, 2, none⟩ = some (.slice a (us z).length cap) ∧ (0 < (us z).length → a = some ⟨g, 0, none⟩) ∧
    ∀ j (hj : j < (us z).length), w.cell? ⟨g, j, none⟩ = some (.pointer (some ⟨((us z)[j]).blk, 0, none⟩)) ∧ UAt w B (us z)[j]
def proc (us : Nat → List U) (z j : Nat) (u : U) : Prop := (∃ z', z' < z ∧ u ∈ us z') ∨ u ∈ (us z).take j
theorem proc_next (us : Nat → List U) (z j : Nat) (hj : j < (us z).length) (u : U) : proc us z (j + 1) u ↔ proc us z j u ∨ u = (us z)[j] := by
  unfold proc
  rw [List.take_succ_eq_append_getElem hj, List.mem_append, List.mem_singleton]
  constructor
  · rintro (h | h | h)
    · exact .inl (.inl h)
    · exact .inl (.inr h)
    · exact .inr h
  · rintro ((h | h) | h)
    · exact .inl h
    · exact .inr (.inl h)
    · exact .inr (.inr h)
theorem proc_zone (us : Nat → List U) (z : Nat) (u : U) : proc us (z + 1) 0 u ↔ proc us z (us z).length u := by
  unfold proc
  simp only [List.take_zero, List.not_mem_nil, or_false, List.take_length]
  constructor
  · rintro ⟨z', h1, h2⟩
    by_cases e : z' = z
    · subst e; exact .inr h2
    · exact .inl ⟨z', by omega, h2⟩
  · rintro (⟨z', h1, h2⟩ | h)
    · exact ⟨z', by omega, h2⟩
    · exact ⟨z, by omega, h⟩
theorem MapIs.below {w w' : World} {b K : Nat} {m : Nat → Option Value} (h : MapIs w b m) (hb : Below K w w') (hK : b < K) : MapIs w' b m := by
  obtain ⟨es, clock, h1, h2⟩ := h
  exact ⟨es, clock, (hb.block b hK).trans h1, h2⟩
theorem MapIs.drew {w : World} {b : Nat} {m : Nat → Option Value} (h : MapIs w b m) (n : Nat) : MapIs (w.drewN n) b m := h
theorem neq_nil (a : Addr) (w : World) : (binOp .neq 25 (.pointer (some a)) (.pointer none)).run Yba.prog w = .ok (.bool true) w := by
  have h : ∀ d : Nat, (Op.equalIn (d + 1) 25 (.pointer (some a)) (.pointer none)).run Yba.prog w = .ok false w := fun d => by
    simp [Op.equalIn, run_underlying Yba.underlying25]
  simp only [binOp]
  simp [Op.equal, Op.maxDepth, h 9999]
theorem chosen_fact {w : World} {cb B : Nat} {rk : Nat → Int} {ch : Nat → Option (Fin 5)} (hP : Pool w B rk) (hC : MapIs w cb (fun a => (ch a).map (enc5 B))) (a : Nat) (ha : a < 3) (s : Fin 5) :
    ∃ (q : Option Addr) (b : Bool), (∀ n, (Instr.lookup 42 (.map (some cb)) (.string (nm a)) false).run Yba.prog (w.drewN n) = .ok (.pointer q) (w.drewN n)) ∧
      (∀ n, (binOp .neq 25 (.pointer (some ⟨B + s.val, 0, none⟩)) (.pointer q)).run Yba.prog (w.drewN n) = .ok (.bool b) (w.drewN n)) ∧ (b = false ↔ ch a = some s) := by
  have hl := fun n => (hC.drew n).look Yba.underlying42 (Yba.zeroValue25 _) a ha
  cases hc : ch a with
  | none =>
    simp only [hc, Option.map_none, Option.getD_none] at hl
    exact ⟨none, true, hl, fun n => neq_nil _ _, by simp⟩
  | some c =>
    simp only [hc, Option.map_some, Option.getD_some] at hl
    exact ⟨some ⟨B + c.val, 0, none⟩, !decide (s = c), hl, fun n => (hP.drew n).neq s c, by simp; exact eq_comm⟩
theorem Coll.congr {p q : U → Prop} {ch : Nat → Option (Fin 5)} {E : Nat → List (Fin 5)} (h : Coll p ch E) (e : ∀ u, q u ↔ p u) : Coll q ch E := by
  intro a ha s
  rw [h a ha s]
  simp only [e]

def chm (ch : Nat → Option (Fin 5)) (B : Nat) (a : Nat) : Option Value := (ch a).map (enc5 B)

set_option maxRecDepth 100000 in
set_option maxHeartbeats 4000000 in
theorem country_calls (zb cb Z B : Nat) (rk : Nat → Int) (us : Nat → List U) (ch : Nat → Option (Fin 5)) (w : World) (hP : Pool w B rk) (hZ : Hid (ZonesAt w zb Z B us)) (hC : MapIs w cb (chm ch B)) :
    Calls Yba.prog 6 #[.slice (some ⟨zb, 0, none⟩) 3 3, .map (some cb)] w fun e w' => ∃ E V, e = .returned (.map (some w.heap.size)) ∧ Coll (fun u => ∃ z, z < 3 ∧ u ∈ us z) ch E ∧ MapIs w' w.heap.size (entm E V) ∧ Srt w' B rk E V (fun _ => false) ∧ (∀ a, a < 3 → (E a).Nodup) ∧ Below w.heap.size w w' := by
  obtain ⟨i0, hi, hz0, hz1, hz2⟩ := info_parts Yba.info25
  have HP := hide hP
  have HC := hide hC
  have HPlt : Hid (B + 5 ≤ w.heap.size) := by have := hP.cell0 4 (by omega); show _ ≤ _; omega
  clear hP hC
  have hmk : (Instr.makeMap 44 none).run Yba.prog w = .ok (.map (some w.heap.size)) (w.alloc (.map #[] 0)) := rfl
  go_enter Yba.func6, Yba.ntmps6
  go_wp2
  go_loopw [15] (fun i wr => ∃ (z : Nat) (E : Nat → List (Fin 5)) (V : Nat → Value), z ≤ 3 ∧ i = .int .i64 z ∧ Ents wr w.heap.size B E V ∧ Coll (proc us z 0) ch E ∧ Below w.heap.size w wr) (fun i _ => 3 - (intOf i).toNat)
  case atStart => exact ⟨0, fun _ => [], fun _ => .slice none 0 0, by omega, rfl, Ents_made w B, fun a _ s => by simp [proc], (Below.refl _ _).alloc (Nat.le_refl _) _⟩
  case round =>
    obtain ⟨z, E, V, hz, rfl, hE, hcoll, hbel⟩ := hrel
    have HE := hide hE
    have HB := hide hbel
    have HCo := hide hcoll
    clear hE hbel hcoll
    by_cases hlt : z < 3
    · obtain ⟨z1, z2, a, cap, g, z3, z4, z5⟩ := hZ.out z hlt
      have hzb := block_lt_of_cell z1
      have hzc := block_lt_of_cell z3
      rw [← HB.out.cell (p := ⟨zb, z, none⟩) hzb] at z1
      rw [← HB.out.cell (p := ⟨Z + z, 2, none⟩) hzc] at z3
      have hz3 : (z : Int) < 3 := by omega
      have Z5 := hide z5
      clear z5
      go_wp2
      clear z1 z3
      go_loopw [24] (fun i w' => ∃ (j : Nat) (E : Nat → List (Fin 5)) (V : Nat → Value), j ≤ (us z).length ∧ i = .int .i64 j ∧ Ents w' w.heap.size B E V ∧ Coll (proc us z j) ch E ∧ Below w.heap.size w w') (fun i _ => (us z).length - (intOf i).toNat)
      case atStart => exact ⟨0, E, V, Nat.zero_le _, rfl, HE.out, HCo.out, HB.out⟩
      case round =>
        clear HE HCo HB
        clear E V
        rename_i wq _ _ _
        obtain ⟨j, E, V, hj, rfl, hE, hcoll, hbel⟩ := hrel
        have HE := hide hE
        have HB := hide hbel
        have HCo := hide hcoll
        clear hE hbel hcoll
        by_cases hjl : j < (us z).length
        · obtain rfl := z4 (by omega)
          obtain ⟨p1, hU⟩ := Z5.out j hjl
          have hpr := hide (proc_next us z j hjl)
          generalize (us z)[j] = u at p1 hU hpr
          obtain ⟨ub, ua, uy, us'⟩ := u
          obtain ⟨ha3, hub, q1, q4, q5⟩ := hU.cells
          have hg := block_lt_of_cell p1
          simp only at ha3 hub q1 q4 q5 p1
          rw [← HB.out.cell (p := ⟨g, j, none⟩) hg] at p1
          rw [← HB.out.cell (p := ⟨ub, 1, none⟩) hub] at q1
          rw [← HB.out.cell (p := ⟨ub, 4, none⟩) hub] at q4
          rw [← HB.out.cell (p := ⟨ub, 5, none⟩) hub] at q5
          have hj3 : (j : Int) < ((us z).length : Int) := by omega
          clear hU
          cases uy with
          | false =>
            go_wp2_with fail
            go_quiet (fail)
            go_wp2
            exact ⟨⟨j + 1, E, V, by omega, by go_num, HE.out.drew _, HCo.out.same _ hpr.out (.inl rfl), below_drewN HB.out _⟩, by simp [intOf]; omega⟩
          | true =>
            obtain ⟨q, b, hL1, hN, hb⟩ := chosen_fact (HP.out.below HB.out HPlt.out) (HC.out.below HB.out (MapIs.lt HC.out)) ua ha3 us'
            cases b with
            | false =>
              have Hb := hide (hb.1 rfl)
              clear hb
              go_wp2_with fail
              go_quiet (fail)
              go_wp2
              exact ⟨⟨j + 1, E, V, by omega, by go_num, HE.out.drew _, HCo.out.same _ hpr.out (.inr (.inl Hb.out)), below_drewN HB.out _⟩, by simp [intOf]; omega⟩
            | true =>
              have Hb : Hid (ch ua ≠ some us') := fun e => by have := hb.2 e; cases this
              clear hb
              have hL2 := fun n => (HE.out.drew n).map.look Yba.underlying44 (Yba.zeroValue46 _) ua ha3
              rw [HE.out.val ua ha3] at hL2
              have h5 := HE.out.len ua ha3
              have hcon : Hid (∀ n, Calls Yba.prog 8 #[V ua, .pointer (some ⟨B + us'.val, 0, none⟩)] (wr.drewN n) fun e w' => e = .returned (.bool (decide (us' ∈ E ua))) ∧ w' = wr.drewN n) := fun n =>
                contains_calls B (w.heap.size + 1) rk (E ua) us' (V ua) (wr.drewN n) ((HP.out.below HB.out HPlt.out).drew n) ((HE.out.drew n).row ua ha3) (by omega)
              by_cases hin : us' ∈ E ua
              · rw [decide_eq_true hin] at hcon
                have Hin := hide hin
                clear hin
                go_wp2_with fail
                go_quiet ((go_at_call 8; exact Calls.quiet_of_same (hcon.out _)))
                go_wp2
                exact ⟨⟨j + 1, E, V, by omega, by go_num, HE.out.drew _, HCo.out.same _ hpr.out (.inr (.inr (fun _ => Hin.out))), below_drewN HB.out _⟩, by simp [intOf]; omega⟩
              · rw [decide_eq_false hin] at hcon
                have Hin := hide hin
                clear hin
                go_wp2_with fail
                go_quiet ((go_at_call 8; exact Calls.quiet_of_same (hcon.out _)))
                go_wp2_with fail
                have HEd := hide (HE.out.drew nq)
                have HBd := hide (below_drewN HB.out nq)
                have hLd := hL2 (nq + 1)
                clear hL1 hL2 hN hcon HE HB
                have r1 : (wr.drewN nq).cell? ⟨ub, 1, none⟩ = some (.string (nm ua)) := q1
                have r5 : (wr.drewN nq).cell? ⟨ub, 5, none⟩ = some (.pointer (some ⟨B + us'.val, 0, none⟩)) := q5
                change (Instr.lookup 44 (.map (some w.heap.size)) (.string (nm ua)) false).run Yba.prog (wr.drewN nq).drew = .ok (V ua) (wr.drewN nq).drew at hLd
                clear q1 q4 q5 p1
                generalize wr.drewN nq = wd at HEd HBd hLd r1 r5 ⊢
                have hLa : (Instr.lookup 44 (.map (some w.heap.size)) (.string (nm ua)) false).run Yba.prog (wd.alloc (.cells #[.pointer (some ⟨B + us'.val, 0, none⟩)] 25)).drew = .ok (V ua) (wd.alloc (.cells #[.pointer (some ⟨B + us'.val, 0, none⟩)] 25)).drew := by
                  have h := MapIs.look (World.ownsMap.alloc HEd.out.map (.cells #[.pointer (some ⟨B + us'.val, 0, none⟩)] 25)).drew Yba.underlying44 (Yba.zeroValue46 _) ua ha3
                  rw [HEd.out.val ua ha3] at h
                  exact h
                have hMs := HBd.out.size
                have hMlt := HEd.out.map.lt
                have hbl := (HEd.out.row ua ha3).lt
                have hfar : some ub ≠ (V ua).ownBlock := fun e => by have := (hbl ub e.symm).1; omega
                have hfar2 : some ub ≠ some w.heap.size := fun e => by cases e; omega
                have hubd : ub < wd.heap.size := by omega
                clear hbl
                go_region_held3 (fun w' => w'.cell? ⟨ub, 1, none⟩ = some (.string (nm ua)) ∧ w'.cell? ⟨ub, 5, none⟩ = some (.pointer (some ⟨B + us'.val, 0, none⟩)))
                  (first
                    | (go_split_ands; exact ⟨by go_keep, by go_keep⟩)
                    | (go_split_ands; exact ⟨(hg2.cell_far ⟨ub, 1, none⟩ hu1 hfar2).trans (by assumption), (hg2.cell_far ⟨ub, 5, none⟩ hu1 hfar2).trans (by assumption)⟩)
                    | (go_split_ands; exact ⟨by rw [hgrow.cell_far _ (by simp; omega) hfar]; assumption, by rw [hgrow.cell_far _ (by simp; omega) hfar]; assumption⟩))
                  ((refine step_append_lies _ (by rfl) _ _ _ (by rfl) (w.heap.size + 1) 25 i0 _ 1 8 Yba.underlying46 hi hz0 hz1 hz2 rfl (by omega) (V ua) (E ua).length ((E ua).map (enc5 B)) (by rfl) (((HEd.out.row ua ha3).alloc _).drew) ⟨wd.heap.size, 0, none⟩ 1 1 [.pointer (some ⟨B + us'.val, 0, none⟩)] (by rfl) (by rfl) (World.news_of_block (cs := #[.pointer (some ⟨B + us'.val, 0, none⟩)]) (t := 25) (fr := (0, 0)) (heap_alloc_new wd _)) (by simp [Value.oneCell']) (by omega) (by unfold maxLen; omega) (by omega) (by simp; omega) (wd.heap.size + 1) (by simp) ?_; intro gg cap' w1 hown1 hgrow hat hlt'; obtain ⟨w2, hrun, hE2, hg2, hs2⟩ := HEd.out.grow (w0 := (wd.alloc (.cells #[.pointer (some ⟨B + us'.val, 0, none⟩)] 25)).drew) ua ha3 us' Hin.out (.cells #[.pointer (some ⟨B + us'.val, 0, none⟩)] 25) rfl gg cap' hown1 hgrow hat; have hu1 : ub < w1.heap.size := by { have h9 := hgrow.size; simp at h9; omega }))
                all_goals
                  have HB2 : Hid (Below w.heap.size w w2) := (Below.grown (Below.drew (HBd.out.alloc hMs _)) hgrow (by simp; omega) (fun k hk => by have := ((HEd.out.row ua ha3).lt k hk).1; omega)).grown hg2 (by have := hgrow.size; simp at this; omega) (fun k hk => by cases hk; exact Nat.le_refl _)
                  have HE2 := hide hE2
                  clear hE2 hrun hg2 hgrow hown1 hat hLd hLa HEd HBd
                  go_wp2
                  exact ⟨⟨j + 1, _, _, by omega, by go_num, HE2.out, HCo.out.add _ hpr.out rfl Hb.out, HB2.out⟩, by simp [intOf]; omega⟩
        · obtain rfl : j = (us z).length := by omega
          have HCo2 := hide (HCo.out.congr (proc_zone us z))
          clear HCo
          go_wp2
          exact ⟨⟨z + 1, E, V, by omega, by go_num, HE.out, HCo2.out, HB.out⟩, by simp [intOf]; omega⟩
    · have hz3 : ¬ (z : Int) < 3 := by omega
      have hMs := HB.out.size
      have hMlt := HE.out.map.lt
      have HX : Hid (Coll (fun u => ∃ z, z < 3 ∧ u ∈ us z) ch E) := by
        have h := HCo.out
        rw [show z = 3 by omega] at h
        exact h.congr (fun u => by simp [proc])
      have HR := hide (fun a ha k hk => ((HE.out.row a ha).lt k hk))
      have hshape : Hid (∀ b, b < 3 → ∀ v, entm E V b = some v → ∃ g n cap, v = .slice (some ⟨g, 0, none⟩) n cap) := fun b hb v hv => by
        unfold entm at hv
        by_cases e : E b = []
        · rw [if_pos e] at hv; cases hv
        · rw [if_neg e] at hv
          cases hv
          obtain ⟨g, cap, hv, _⟩ := (HE.out.row b hb).form (List.length_pos_iff.2 e)
          exact ⟨g, _, cap, hv⟩
      clear HCo
      go_wp2_with (first
        | (at_range; refine wpList_range_own _ rfl _ 44 rfl 9 46 (Maps.string_keyed Yba.underlying9) Yba.underlying44 rdV w.heap.size 3 (DM (entm E V)) rfl HE.out.map ?_; intro w0 hrg0 hg0 hs0)
        | go_in)
      try go_frame
      have HRg := hide hrg0
      have HG0 := hide hg0
      clear hrg0 hg0
      generalize hr : wr.heap.size = r at HRg ⊢
      go_loopw [11] (fun _ wq => ∃ (left : Lit → Bool) (cn : Nat), wq.ranges Yba.prog 9 rdV w.heap.size r 3 (DM (entm E V)) left cn ∧ (∀ k, left k = true → Maps.has (DM (entm E V)) k = true) ∧ Srt wq B rk E V left ∧ Below w.heap.size w wq) (fun _ wq => wq.rangeLeft w.heap.size r)
      case atStart =>
        refine ⟨_, _, HRg.out, fun k h => h, (Srt_start HE.out _ (fun a ha hne => ?_)).kept (M := w.heap.size) HG0.out (fun a ha g hg => by simp), HB.out.grown HG0.out hMs (fun k hk => by cases hk)⟩
        rw [DM_has _ a ha]
        unfold entm
        rw [if_neg hne]
        rfl
      case round =>
        obtain ⟨left, cn, hrg, hleft, hsrt, hbel⟩ := hrel
        have HRq := hide hrg
        have HL := hide hleft
        have HS := hide hsrt
        have HBq := hide hbel
        clear hrg hleft hsrt hbel
        go_wp2_with (first
          | (at_next; refine next_E _ rfl _ rfl w.heap.size r (entm E V) left cn rfl HRq.out HL.out hshape.out ?_ ?_)
          | go_in)
        · intro hl0
          have HL0 := hide hl0
          clear hl0
          go_wp2
          go_ret
          refine ⟨E, V, rfl, HX.out, MapIs.of (HRq.out.owns), fun a ha hE => ?_, fun a ha => HE.out.nodup a ha, HBq.out⟩
          obtain ⟨g, cap, d, e1, e2, e3, e4⟩ := HS.out a ha hE
          exact ⟨g, cap, d, e1, e2, fun _ => e3 (HL0.out _), e4⟩
        · intro b g n cap x w1 cn1 hb hmb hlb hrg1 hlt1 hg1 hs1 hen
          have hEb : E b ≠ [] := fun e => by unfold entm at hmb; rw [if_pos e] at hmb; cases hmb
          have hVb : V b = .slice (some ⟨g, 0, none⟩) n cap := by unfold entm at hmb; rw [if_neg hEb] at hmb; exact Option.some.inj hmb
          obtain ⟨g1, cap1, d, e1, hp, _, hH⟩ := HS.out b hb hEb
          obtain ⟨rfl, rfl, rfl⟩ : g1 = g ∧ n = (E b).length ∧ cap1 = cap := by
            rw [hVb] at e1
            simp at e1
            exact ⟨e1.1.symm, e1.2.1, e1.2.2.symm⟩
          have h5 := HE.out.len b hb
          obtain ⟨hg0, hgr⟩ := HR.out b hb g1 (by rw [hVb]; rfl)
          have hgne : some g1 ≠ some r := fun e => by cases e; omega
          have hlt0 := HRq.out.owns.lt
          have HS1 : Hid (Srt w1 B rk E V left) := HS.out.kept (M := w.heap.size) hg1 (fun a ha g' hg' e => by have := (HR.out a ha g' hg').2; cases e; omega)
          have HB1 : Hid (Below w.heap.size w w1) := HBq.out.grown hg1 HBq.out.size (fun k hk => by cases hk; omega)
          have hH1 : Sort.Holds (enc5 B) w1 g1 0 d := fun j hj => by
            obtain ⟨c1, c2⟩ := hH j hj
            have hlt := block_lt_of_cell c1
            exact ⟨by rw [hg1.cell_far ⟨g1, 0 + j, none⟩ hlt hgne]; exact c1, by rw [hg1.frozen_far ⟨g1, 0 + j, none⟩ hlt hgne]; exact c2⟩
          have hsort : Hid (∀ w', w' = w1 → _) := fun w' (e : w' = w1) => sort_row B g1 cap1 (E b).length rk d w' (by rw [e]; exact HP.out.below HB1.out HPlt.out) (fun i hi => by have := HPlt.out; omega) (by rw [e]; exact hH1) (by have := hp.length_eq; simpa using this) (by omega)
          have HRg1 := hide hrg1
          have HG1 := hide hg1
          have HVb := hide hVb
          have HPm := hide hp
          clear hH1 hH hrg1 hg1 hVb hmb e1 hp hEb
          go_wp2_with (go_at_call 9; refine (hsort.out _ rfl).mono ?_; rintro e w2 ⟨rfl, ⟨d', hp', hs', hH'⟩, hg2, hs2⟩)
          have HRg2 : Hid (w2.ranges _ _ _ _ _ _ _ _ _) := HRg1.out.kept hg2 (fun e => by cases e; omega) (fun e => hgne e.symm)
          have HS2 : Hid (Srt w2 B rk E V _) := HS1.out.sorted b g1 cap1 hb HVb.out HE.out.apart hg2 d' (hp'.trans HPm.out) hs' hH'
          have HB2 : Hid (Below w.heap.size w w2) := HB1.out.grown hg2 HB1.out.size (fun k hk => by cases hk; omega)
          clear hp' hs' hH' hg2 hsort
          go_wp2
          go_roundw
          case rel => exact ⟨_, cn1, HRg2.out, fun k hk => HL.out k (by simp at hk; exact hk.1), HS2.out, HB2.out⟩
          case measure => rw [HRg2.out.left_eq, HRq.out.left_eq]; exact hlt1
end Go.Proofs.Ybulkmpw
