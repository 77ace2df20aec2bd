import Derived.Test.YbulkbjvgDoorSortV
import Derived.Lib.SliceRun
namespace Go.Proofs.YbulkbjvgDoor
open Go.RowKit Go.Sort

theorem clear_run (w : World) (g o n : Nat) (hn : 0 < n) (hd : ∀ j, j < n * 5 → (w.cell? ⟨g, o + j, none⟩).isSome = true) (hf : ∀ j, j < n * 5 → w.frozen? ⟨g, o + j, none⟩ = false) :
    ∃ vs : List Value, vs.length = n * 5 ∧ ∀ ty c, (Builtin.clear_ #[23] ty #[.slice (some ⟨g, o, none⟩) n c]).run Ybad.prog w = .ok (.tuple #[]) (w.setCells g o vs) := by
  have hl : (Builtin.zeroCells #[.int .u8 0, .bool false, .int .i64 0, .int .i64 0, .slice none 0 0] n).toList.length = n * 5 := by simp [Builtin.zeroCells]
  have h1 : ∀ v ∈ (Builtin.zeroCells #[.int .u8 0, .bool false, .int .i64 0, .int .i64 0, .slice none 0 0] n).toList, v.oneCell' = true := by
    intro v hv
    simp only [Builtin.zeroCells, Array.toList_map, List.mem_map] at hv
    obtain ⟨i, _, rfl⟩ := hv
    have h : i % 5 = 0 ∨ i % 5 = 1 ∨ i % 5 = 2 ∨ i % 5 = 3 ∨ i % 5 = 4 := by omega
    show (#[.int .u8 0, .bool false, .int .i64 0, .int .i64 0, .slice none 0 0] : Array Value)[i % 5]!.oneCell' = true
    rcases h with h | h | h | h | h <;> rw [h] <;> rfl
  refine ⟨_, hl, fun ty c => ?_⟩
  have hst := run_storeCells_cells (P := Ybad.prog) g o (Builtin.zeroCells #[.int .u8 0, .bool false, .int .i64 0, .int .i64 0, .slice none 0 0] n).toList 0 w (fun j hj => by rw [hl] at hj; rw [Nat.add_zero]; exact hd j hj) (fun j hj => by rw [hl] at hj; rw [Nat.add_zero]; exact hf j hj) h1
  rw [Nat.add_zero] at hst
  obtain ⟨m, rfl⟩ : ∃ m, n = m + 1 := ⟨n - 1, by omega⟩
  simp [Builtin.clear_, run_underlying Ybad.underlying23, Value.cells, hst]

/-- Behind a store of one value: the row with that value turned. -/
theorem VC.put {w : World} {g n : Nat} {x : Nat → V} (h : VC w g n x) (k : Nat) (v : V) :
    VC (((((w.setCell ⟨g, k * 5, none⟩ (.int .u8 (v.1.val : Int))).setCell ⟨g, k * 5 + 1, none⟩ (.bool v.2.1)).setCell ⟨g, k * 5 + 2, none⟩ (.int .i64 v.2.2.1)).setCell ⟨g, k * 5 + 3, none⟩ (.int .i64 v.2.2.2)).setCell ⟨g, k * 5 + 4, none⟩ (.slice none 0 0)) g n (fun i => if i = k then v else x i) := by
  intro i hi c hc
  have hfz : ∀ (w : World) (a b : Addr) (u : Value), (w.setCell a u).frozen? b = w.frozen? b := fun w a b u => World.frozen?_setCell _ _ _ _
  refine ⟨?_, by rw [hfz, hfz, hfz, hfz, hfz]; exact (h i hi c hc).2⟩
  have hsome := fun c (hc : c < 5) => (h i hi c hc).1
  by_cases e : i = k
  · subst e
    simp only [if_true]
    have hc' : c = 0 ∨ c = 1 ∨ c = 2 ∨ c = 3 ∨ c = 4 := by omega
    rcases hc' with rfl | rfl | rfl | rfl | rfl
    · rw [World.cell?_setCell_other _ _ _ _ (by simp), World.cell?_setCell_other _ _ _ _ (by simp), World.cell?_setCell_other _ _ _ _ (by simp), World.cell?_setCell_other _ _ _ _ (by simp)]
      exact World.cell?_setCell_same _ _ _ (hsome 0 (by omega))
    · rw [World.cell?_setCell_other _ _ _ _ (by simp), World.cell?_setCell_other _ _ _ _ (by simp), World.cell?_setCell_other _ _ _ _ (by simp)]
      exact World.cell?_setCell_same _ _ _ ((World.cell?_setCell_other _ _ _ _ (by simp)).trans (hsome 1 (by omega)))
    · rw [World.cell?_setCell_other _ _ _ _ (by simp), World.cell?_setCell_other _ _ _ _ (by simp)]
      exact World.cell?_setCell_same _ _ _ ((World.cell?_setCell_other _ _ _ _ (by simp)).trans ((World.cell?_setCell_other _ _ _ _ (by simp)).trans (hsome 2 (by omega))))
    · rw [World.cell?_setCell_other _ _ _ _ (by simp)]
      exact World.cell?_setCell_same _ _ _ ((World.cell?_setCell_other _ _ _ _ (by simp)).trans ((World.cell?_setCell_other _ _ _ _ (by simp)).trans ((World.cell?_setCell_other _ _ _ _ (by simp)).trans (hsome 3 (by omega)))))
    · exact World.cell?_setCell_same _ _ _ ((World.cell?_setCell_other _ _ _ _ (by simp)).trans ((World.cell?_setCell_other _ _ _ _ (by simp)).trans ((World.cell?_setCell_other _ _ _ _ (by simp)).trans ((World.cell?_setCell_other _ _ _ _ (by simp)).trans (hsome 4 (by omega))))))
  · simp only [e, if_false]
    rw [World.cell?_setCell_other _ _ _ _ (by simp <;> omega), World.cell?_setCell_other _ _ _ _ (by simp <;> omega), World.cell?_setCell_other _ _ _ _ (by simp <;> omega), World.cell?_setCell_other _ _ _ _ (by simp <;> omega), World.cell?_setCell_other _ _ _ _ (by simp <;> omega)]
    exact hsome c hc

theorem VC.fiveAt {w : World} {g n : Nat} {x : Nat → V} (h : VC w g n x) {i o : Nat} {v : V} (hi : i < n) (ho : i * 5 = o) (hv : x i = v) :
    w.cell? ⟨g, o, none⟩ = some (.int .u8 (v.1.val : Int)) ∧ w.cell? ⟨g, o + 1, none⟩ = some (.bool v.2.1) ∧ w.cell? ⟨g, o + 2, none⟩ = some (.int .i64 v.2.2.1) ∧
      w.cell? ⟨g, o + 3, none⟩ = some (.int .i64 v.2.2.2) ∧ w.cell? ⟨g, o + 4, none⟩ = some (.slice none 0 0) := by
  subst ho hv
  exact h.five hi

theorem eq_callsB (x y : V) : ∃ b : Bool, Hid (b = true ↔ x = y) ∧ Hid (∀ w : World, Calls Ybad.prog 8 #[.agg (encV x).toArray, .agg (encV y).toArray] w fun e w' => e = .returned (.bool b) ∧ ∃ q os', w' = grow (w.drewN q) os') :=
  ⟨decide (x = y), hid (by simp), hid fun w => eq_calls x y w⟩

/-- Ascending, equals let in. -/
def Srt (n : Nat) (x : Nat → V) : Prop := ∀ i j, i < j → j < n → ¬ ltV (x j) (x i)

theorem srt_lt {n : Nat} {x : Nat → V} (h : Srt n x) {i j : Nat} (hij : i < j) (hj : j < n) (hne : x j ≠ x i) : ltV (x i) (x j) := by
  rcases ltV_total (x i) (x j) with e | e | e
  · exact e
  · exact absurd e.symm hne
  · exact absurd e (h i j hij hj)

set_option maxRecDepth 100000 in
set_option maxHeartbeats 4000000 in
theorem compact12 (g n cap : Nat) (x : Nat → V) (w : World) (hV : VC w g n x) (hg : g < w.heap.size) (hn : n ≤ 1024) (h2 : 2 ≤ n) (hcap : n ≤ cap) (hS : Srt n x) :
    Calls Ybad.prog 12 #[.slice (some ⟨g, 0, none⟩) n cap, .func (.func 8) #[] #[]] w fun e w' =>
      ∃ k x', k ≤ n ∧ e = .returned (.slice (some ⟨g, 0, none⟩) k cap) ∧ VC w' g k x' ∧ Asc k x' ∧ RowKit.Below g w w' ∧ g < w'.heap.size := by
  have hm := mixed
  go_enter Ybad.func12, Ybad.ntmps12
  go_wp2
  go_loopw [5] (fun i wr => ∃ k : Nat, 1 ≤ k ∧ k ≤ n ∧ i = .int .i64 k ∧ RowKit.Below w.heap.size w wr ∧ Hid (Asc k x)) (fun i _ => n - (intOf i).toNat)
  case atStart => exact ⟨1, by omega, by omega, rfl, RowKit.Below.refl _ _, hid fun i j h1 h2 => by omega⟩
  case round =>
    obtain ⟨k, hk1, hkn, rfl, hbw, hA⟩ := hrel
    by_cases hlt : k < n
    · obtain ⟨k1, rfl⟩ : ∃ k1, k = k1 + 1 := ⟨k - 1, by omega⟩
      have HV := hid (hV.below hbw hg)
      have HW := hid hbw
      have hgw : g < wr.heap.size := Nat.lt_of_lt_of_le hg hbw.size
      clear hV hbw
      obtain ⟨d0, d1, d2, d3, d4⟩ := HV.out.five hlt
      obtain ⟨c0, c1, c2, c3, c4⟩ := HV.out.five (show k1 < n by omega)
      have e0 := fun q os => cell_grown (by exact hgw) d0 q os
      have e1 := fun q os => cell_grown (by exact hgw) d1 q os
      have e2 := fun q os => cell_grown (by exact hgw) d2 q os
      have e3 := fun q os => cell_grown (by exact hgw) d3 q os
      have e4 := fun q os => cell_grown (by exact hgw) d4 q os
      have z0 := fun q os => cell_grown (by exact hgw) c0 q os
      have z1 := fun q os => cell_grown (by exact hgw) c1 q os
      have z2 := fun q os => cell_grown (by exact hgw) c2 q os
      have z3 := fun q os => cell_grown (by exact hgw) c3 q os
      have z4 := fun q os => cell_grown (by exact hgw) c4 q os
      obtain ⟨b, HD, HC⟩ := eq_callsB (x (k1 + 1)) (x k1)
      clear c0 c1 c2 c3 c4 d0 d1 d2 d3 d4
      have hb1 : (k1 : Int) + 1 < n := by omega
      have hb2 : (0 : Int) ≤ (k1 : Int) + 1 := by omega
      have hb3 : (k1 : Int) < n := by omega
      have hb4 : (0 : Int) ≤ (k1 : Int) := by omega
      have hwr : IntKind.i64.wrap (k1 : Int) = k1 := by rw [IntKind.wrap_i64]; omega
      go_wp2
      go_quiet_grown ((go_at_call 8; refine Calls.grown_of (HC.out _)))
      clear e0 e1 e2 e3 e4 z0 z1 z2 z3 z4 HC hwr
      have hbg := below_grow wr nq osq
      have HG := hid (HW.out.trans (hbg.mono HW.out.size))
      have HVG := hid (HV.out.below hbg hgw)
      have HBG := hid (Nat.lt_of_lt_of_le hgw hbg.size)
      clear hbg HV HW hgw
      generalize grow (wr.drewN nq) osq = W2 at HG HVG HBG
      cases b
      rotate_left
      · have HE := hid (HD.out.1 rfl)
        clear HD
        go_wp2
        go_loopw [5, 7] (fun i j wi => ∃ k' k2 : Nat, ∃ y : Nat → V, 1 ≤ k2 ∧ k1 + 1 + k2 ≤ n ∧ k1 + 1 ≤ k' ∧ k' ≤ k1 + k2 ∧ i = .int .i64 k' ∧ j = .int .i64 k2 ∧ Hid (VC wi g n y) ∧ Hid (Asc k' y) ∧ Hid (∀ i, k1 + k2 ≤ i → y i = x i) ∧ Hid (y (k' - 1) = x (k1 + k2)) ∧ Hid (RowKit.Below g w wi) ∧ Hid (g < wi.heap.size)) (fun _ j _ => n - (intOf j).toNat)
        case atStart =>
          exact ⟨k1 + 1, 1, x, by omega, by omega, by omega, by omega, rfl, rfl, HVG, hA, hid fun _ _ => rfl, hid HE.out.symm, hid (HG.out.mono (by omega)), HBG⟩
        case round =>
          rename_i hrel
          obtain ⟨k', k2, y, h21, h2n, hk1', hk2', rfl, rfl, HY, HA, HX, HL, HB, HS⟩ := hrel
          clear HVG HG HBG
          by_cases hlt2 : k1 + 1 + k2 < n
          · obtain ⟨k3, rfl⟩ : ∃ k3, k2 = k3 + 1 := ⟨k2 - 1, by omega⟩
            have hb5 : (k3 : Int) + 1 < ((n - (k1 + 1) : Nat) : Int) := by omega
            have hb6 : (0 : Int) ≤ (k3 : Int) + 1 := by omega
            have hb7 : (k3 : Int) < ((n - (k1 + 1) : Nat) : Int) := by omega
            have hb8 : (0 : Int) ≤ (k3 : Int) := by omega
            have hwr : IntKind.i64.wrap (k3 : Int) = k3 := by rw [IntKind.wrap_i64]; omega
            obtain ⟨d0, d1, d2, d3, d4⟩ := HY.out.fiveAt hlt2 (show _ = (k1 + 1) * 5 + (k3 + 1) * 5 by omega) (HX.out _ (by omega))
            obtain ⟨c0, c1, c2, c3, c4⟩ := HY.out.fiveAt (show k1 + (k3 + 1) < n by omega) (show _ = (k1 + 1) * 5 + k3 * 5 by omega) (HX.out _ (by omega))
            have hgw : g < wr.heap.size := HS.out
            have e0 := fun q os => cell_grown (by exact hgw) d0 q os
            have e1 := fun q os => cell_grown (by exact hgw) d1 q os
            have e2 := fun q os => cell_grown (by exact hgw) d2 q os
            have e3 := fun q os => cell_grown (by exact hgw) d3 q os
            have e4 := fun q os => cell_grown (by exact hgw) d4 q os
            have z0 := fun q os => cell_grown (by exact hgw) c0 q os
            have z1 := fun q os => cell_grown (by exact hgw) c1 q os
            have z2 := fun q os => cell_grown (by exact hgw) c2 q os
            have z3 := fun q os => cell_grown (by exact hgw) c3 q os
            have z4 := fun q os => cell_grown (by exact hgw) c4 q os
            obtain ⟨b, HD, HC⟩ := eq_callsB (x (k1 + 1 + (k3 + 1))) (x (k1 + (k3 + 1)))
            clear c0 c1 c2 c3 c4 d0 d1 d2 d3 d4
            go_wp2
            go_quiet_grown ((go_at_call 8; refine Calls.grown_of (HC.out _)))
            clear e0 e1 e2 e3 e4 z0 z1 z2 z3 z4 HC hwr
            have hbg := below_grow wr nq osq
            have HB2 := hid (HB.out.trans (hbg.mono (Nat.le_of_lt hgw)))
            have HY2 := hid (HY.out.below hbg hgw)
            have HS2 := hid (Nat.lt_of_lt_of_le hgw hbg.size)
            clear hbg HY HB hgw HS
            generalize grow (wr.drewN nq) osq = W3 at HB2 HY2 HS2
            cases b
            rotate_left
            · have HE2 := hid (HD.out.1 rfl)
              clear HD
              go_wp2
              go_roundw
              case rel =>
                refine ⟨k', k3 + 2, y, by omega, by omega, by omega, by omega, rfl, by go_num, HY2, HA, hid fun i hi => HX.out i (by omega), hid ?_, HB2, HS2⟩
                rw [HL.out, ← HE2.out]
                congr 1
                omega
              case measure => simp [intOf]; omega
            · have HE2 : Hid (¬ x (k1 + 1 + (k3 + 1)) = x (k1 + (k3 + 1))) := hid fun h => Bool.noConfusion (HD.out.2 h)
              clear HD
              obtain ⟨d0, d1, d2, d3, d4⟩ := HY2.out.fiveAt hlt2 (show _ = (k1 + 1) * 5 + (k3 + 1) * 5 by omega) (HX.out _ (by omega))
              obtain ⟨s0, s1, s2, s3, s4⟩ := HY2.out.five (show k' < n by omega)
              obtain ⟨f0, f1, f2, f3, f4⟩ := HY2.out.fr (show k' < n by omega)
              have hb9 : (k' : Int) < (n : Int) := by omega
              have hb10 : (0 : Int) ≤ (k' : Int) := by omega
              go_wp2
              go_roundw
              case rel =>
                refine ⟨k' + 1, k3 + 2, fun i => if i = k' then x (k1 + 1 + (k3 + 1)) else y i, by omega, by omega, by omega, by omega, by go_num, by go_num, hid (HY2.out.put k' (x (k1 + 1 + (k3 + 1)))), hid ?_, hid ?_, hid ?_, hid (((((HB2.out.setCell (by simp) _).setCell (by simp) _).setCell (by simp) _).setCell (by simp) _).setCell (by simp) _), hid (by simpa using HS2.out)⟩
                · intro i j hij hj
                  have hl := srt_lt hS (show k1 + (k3 + 1) < k1 + 1 + (k3 + 1) by omega) hlt2 HE2.out
                  by_cases ej : j = k'
                  · subst ej
                    have hne : i ≠ j := by omega
                    simp only [hne, if_false, if_true]
                    rw [← HL.out] at hl
                    by_cases ei : i = j - 1
                    · subst ei; exact hl
                    · exact ltV_trans (HA.out i (j - 1) (by omega) (by omega)) hl
                  · have hne : i ≠ k' := by omega
                    simp only [hne, ej, if_false]
                    exact HA.out i j hij (by omega)
                · intro i hi
                  have hne : i ≠ k' := by omega
                  simp only [hne, if_false]
                  exact HX.out i (by omega)
                · simp only [Nat.add_sub_cancel, if_true]
                  congr 1
                  omega
              case measure => simp [intOf]; omega
          · have hk2 : k2 = n - (k1 + 1) := by omega
            have hd2 : decide ((k2 : Int) < ((n - (k1 + 1) : Nat) : Int)) = false := by simp; omega
            have hk'n : k' < n := by omega
            have hb9 : (k' : Int) ≤ (n : Int) := by omega
            have hb10 : (0 : Int) ≤ (k' : Int) := by omega
            have hb11 : (k' : Int) ≤ (cap : Int) := by omega
            have HK := hid hk2
            clear hk2
            obtain ⟨vs, hvl, hcl⟩ : ∃ vs : List Value, vs.length = (n - k') * 5 ∧ ∀ ty c, (Builtin.clear_ #[23] ty #[.slice (some ⟨g, k' * 5, none⟩) (n - k') c]).run Ybad.prog wr = .ok (.tuple #[]) (wr.setCells g (k' * 5) vs) := by
              refine clear_run wr g (k' * 5) (n - k') (by omega) (fun j hj => ?_) (fun j hj => ?_)
              · have := (HY.out (k' + j / 5) (by omega) (j % 5) (by omega)).1
                rw [show (k' + j / 5) * 5 + j % 5 = k' * 5 + j by omega] at this
                rw [this]; rfl
              · have := (HY.out (k' + j / 5) (by omega) (j % 5) (by omega)).2
                rw [show (k' + j / 5) * 5 + j % 5 = k' * 5 + j by omega] at this
                exact this
            have HVL := hid hvl
            clear hvl
            go_wp2
            go_ret
            refine ⟨k', y, by omega, rfl, ?_, HA.out, ?_, ?_⟩
            · intro i hi c hc
              have h := HY.out i (by omega) c hc
              refine ⟨(World.cell?_setCells_out g _ (k' * 5) wr _ (fun _ _ => Or.inl (show i * 5 + c < k' * 5 by omega))).trans h.1, ?_⟩
              exact (World.frozen?_setCells _ _ _ _ _).trans h.2
            · exact setCells_below g (Nat.le_refl _) _ _ _ HB.out
            · rw [setCells_size]; exact HS.out
      · have HE : Hid (¬ x (k1 + 1) = x k1) := hid fun h => Bool.noConfusion (HD.out.2 h)
        clear HD
        go_wp2
        go_roundw
        case rel =>
          refine ⟨k1 + 2, by omega, by omega, by go_num, HG.out, hid ?_⟩
          intro i j hij hj
          by_cases ej : j = k1 + 1
          · subst ej
            have hl := srt_lt hS (show k1 < k1 + 1 by omega) hlt HE.out
            by_cases ei : i = k1
            · subst ei; exact hl
            · exact ltV_trans (hA.out i k1 (by omega) (by omega)) hl
          · exact hA.out i j hij (by omega)
        case measure => simp [intOf]; omega
    · have hd : decide ((k : Int) < n) = false := by simp; omega
      have hkn' : k = n := by omega
      subst hkn'
      go_wp2
      go_ret
      exact ⟨k, x, Nat.le_refl _, rfl, hV.below hbw hg, hA.out, hbw.mono (by omega), Nat.lt_of_lt_of_le hg hbw.size⟩

set_option maxRecDepth 100000 in
set_option maxHeartbeats 4000000 in
theorem compact12s (g n cap : Nat) (x : Nat → V) (w : World) (hV : VC w g n x) (hg : g < w.heap.size) (h2 : n < 2) :
    Calls Ybad.prog 12 #[.slice (some ⟨g, 0, none⟩) n cap, .func (.func 8) #[] #[]] w fun e w' =>
      ∃ k x', k ≤ n ∧ e = .returned (.slice (some ⟨g, 0, none⟩) k cap) ∧ VC w' g k x' ∧ Asc k x' ∧ RowKit.Below g w w' ∧ g < w'.heap.size := by
  have hb : (n : Int) < 2 := by omega
  go_enter Ybad.func12, Ybad.ntmps12
  go_wp2
  go_ret
  exact ⟨n, x, Nat.le_refl _, rfl, hV, fun i j h1 h2 => by omega, RowKit.Below.refl _ _, hg⟩

theorem compact (g n cap : Nat) (x : Nat → V) (w : World) (hV : VC w g n x) (hg : g < w.heap.size) (hn : n ≤ 1024) (hcap : n ≤ cap) (hS : Srt n x) :
    Calls Ybad.prog 12 #[.slice (some ⟨g, 0, none⟩) n cap, .func (.func 8) #[] #[]] w fun e w' =>
      ∃ k x', k ≤ n ∧ e = .returned (.slice (some ⟨g, 0, none⟩) k cap) ∧ VC w' g k x' ∧ Asc k x' ∧ RowKit.Below g w w' ∧ g < w'.heap.size := by
  by_cases h2 : n < 2
  · exact compact12s g n cap x w hV hg h2
  · exact compact12 g n cap x w hV hg hn (by omega) hcap hS

end Go.Proofs.YbulkbjvgDoor
