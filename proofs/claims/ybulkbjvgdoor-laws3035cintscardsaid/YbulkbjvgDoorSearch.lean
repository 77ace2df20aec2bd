import Derived.Test.YbulkbjvgDoorRow
import Derived.BigQuiet
namespace Go.Proofs.YbulkbjvgDoor
open Go.RowKit Go.Sort

theorem mixed : Ybad.prog.follows .mixedOrders = true := by kernel_rfl

/-- Strictly ascending. -/
def Asc (n : Nat) (x : Nat → V) : Prop := ∀ i j, i < j → j < n → ltV (x i) (x j)

set_option maxRecDepth 100000 in
set_option maxHeartbeats 2000000 in
theorem search17 (g n cap : Nat) (x : Nat → V) (y : V) (w : World) (hV : VC w g n x) (hg : g < w.heap.size) (hn : n ≤ 1024) (hA : Asc n x) :
    Calls Ybad.prog 17 #[.slice (some ⟨g, 0, none⟩) n cap, .agg (encV y).toArray, .func (.func 11) #[] #[]] w fun e w' =>
      ∃ i : Nat, i ≤ n ∧ (∀ k, k < i → ltV (x k) y) ∧ (∀ k, i ≤ k → k < n → ¬ ltV (x k) y) ∧ e = .returned (.tuple #[.int .i64 i, .bool (decide (i < n ∧ x i = y))]) ∧ RowKit.Below w.heap.size w w' := by
  have hm := mixed
  obtain ⟨B, hB⟩ : ∃ B, B = w.heap.size := ⟨_, rfl⟩
  unfold encV
  go_enter Ybad.func17, Ybad.ntmps17
  go_wp2
  go_loopw [9, 10] (fun lo hi wr => ∃ a b : Nat, a ≤ b ∧ b ≤ n ∧ lo = .int .i64 a ∧ hi = .int .i64 b ∧ Hid (∀ k, k < a → ltV (x k) y) ∧ Hid (∀ k, b ≤ k → k < n → ¬ ltV (x k) y) ∧
      RowKit.Below w.heap.size w wr ∧ w.heap.size < wr.heap.size ∧ wr.cell? ⟨w.heap.size, 0, none⟩ = some (.int .u8 (y.1.val : Int)) ∧ wr.cell? ⟨w.heap.size, 1, none⟩ = some (.bool y.2.1) ∧ wr.cell? ⟨w.heap.size, 2, none⟩ = some (.int .i64 y.2.2.1) ∧ wr.cell? ⟨w.heap.size, 3, none⟩ = some (.int .i64 y.2.2.2) ∧ wr.cell? ⟨w.heap.size, 4, none⟩ = some (.slice none 0 0))
    (fun lo hi _ => (intOf hi).toNat - (intOf lo).toNat)
  case atStart => exact ⟨0, n, Nat.zero_le _, Nat.le_refl _, rfl, rfl, hid fun k hk => by omega, hid fun k h1 h2 => by omega, (RowKit.Below.refl _ _).alloc (Nat.le_refl _) _, by simp, by simp, by simp, by simp, by simp, by simp⟩
  case round =>
    obtain ⟨a, b, hab, hbn, rfl, rfl, ha, hb, hbw, hlt1, y0, y1, y2, y3, y4⟩ := hrel
    by_cases hlt : a < b
    · obtain ⟨m, hm2, ham, hmb⟩ : ∃ m : Nat, ((a : Int) + (b : Int)) / 2 = (m : Int) ∧ a ≤ m ∧ m < b := ⟨(a + b) / 2, by omega, by omega, by omega⟩
      have HM := hid hm2
      clear hm2
      have HV := hid (hV.below hbw hg)
      have HW := hid hbw
      clear hV hbw
      go_wp2
      rw [HM.out]
      obtain ⟨d0, d1, d2, d3, d4⟩ := HV.out.five (show m < n by omega)
      have hgw : g < wr.heap.size := by omega
      have e0 := fun q os => cell_grown (by exact hgw) d0 q os
      have e1 := fun q os => cell_grown (by exact hgw) d1 q os
      have e2 := fun q os => cell_grown (by exact hgw) d2 q os
      have e3 := fun q os => cell_grown (by exact hgw) d3 q os
      have e4 := fun q os => cell_grown (by exact hgw) d4 q os
      have z0 := fun q os => cell_grown (by exact hlt1) y0 q os
      have z1 := fun q os => cell_grown (by exact hlt1) y1 q os
      have z2 := fun q os => cell_grown (by exact hlt1) y2 q os
      have z3 := fun q os => cell_grown (by exact hlt1) y3 q os
      have z4 := fun q os => cell_grown (by exact hlt1) y4 q os
      have i0 : (m : Int) < n := by omega
      have i1 : 0 ≤ (m : Int) := by omega
      have HC := hid fun W => cmp_calls (x m) y W
      have HY := hid (And.intro y0 (And.intro y1 (And.intro y2 (And.intro y3 y4))))
      clear y0 y1 y2 y3 y4 d0 d1 d2 d3 d4
      go_quiet_grown ((go_at_call 11; refine Calls.grown_of (HC.out _)))
      clear e0 e1 e2 e3 e4
      have hbg := below_grow wr nq osq
      have hbig : w.heap.size < (grow (wr.drewN nq) osq).heap.size := Nat.lt_of_lt_of_le hlt1 hbg.size
      have Z := hid (And.intro (z0 nq osq) (And.intro (z1 nq osq) (And.intro (z2 nq osq) (And.intro (z3 nq osq) (z4 nq osq)))))
      have HG := hid (HW.out.trans (hbg.mono HW.out.size))
      have HBG := hid hbig
      clear z0 z1 z2 z3 z4 hbg hbig
      generalize grow (wr.drewN nq) osq = W2 at Z HG HBG
      by_cases hc : cmpV (x m) y < 0
      · have hc' : ltV (x m) y := (cmpV_neg _ _).1 hc
        have HC2 := hid hc'
        clear hc'
        go_wp2
        go_roundw
        case rel =>
          exact ⟨m + 1, b, by omega, hbn, by go_num, rfl, hid fun k hk => by
            by_cases e : k = m
            · subst e; exact HC2.out
            · exact ltV_trans (hA k m (by omega) (by omega)) HC2.out, hb, HG.out, HBG.out, Z.out.1, Z.out.2.1, Z.out.2.2.1, Z.out.2.2.2.1, Z.out.2.2.2.2⟩
        case measure => simp [intOf]; omega
      · have hc' : ¬ ltV (x m) y := fun h => hc ((cmpV_neg _ _).2 h)
        have HC2 := hid hc'
        clear hc'
        go_wp2
        go_roundw
        case rel =>
          exact ⟨a, m, ham, by omega, rfl, rfl, ha, hid fun k h1 h2 => by
            by_cases e : k = m
            · subst e; exact HC2.out
            · exact fun h => HC2.out (ltV_trans (hA m k (by omega) h2) h), HG.out, HBG.out, Z.out.1, Z.out.2.1, Z.out.2.2.1, Z.out.2.2.2.1, Z.out.2.2.2.2⟩
        case measure => simp [intOf]; omega
    · have hab2 : a = b := by omega
      subst hab2
      by_cases hlt : a < n
      · have HV := hid (hV.below hbw hg)
        have HW := hid hbw
        clear hV hbw
        obtain ⟨d0, d1, d2, d3, d4⟩ := HV.out.five hlt
        have hgw : g < wr.heap.size := by omega
        have e0 := fun q os => cell_grown (by exact hgw) d0 q os
        have e1 := fun q os => cell_grown (by exact hgw) d1 q os
        have e2 := fun q os => cell_grown (by exact hgw) d2 q os
        have e3 := fun q os => cell_grown (by exact hgw) d3 q os
        have e4 := fun q os => cell_grown (by exact hgw) d4 q os
        have z0 := fun q os => cell_grown (by exact hlt1) y0 q os
        have z1 := fun q os => cell_grown (by exact hlt1) y1 q os
        have z2 := fun q os => cell_grown (by exact hlt1) y2 q os
        have z3 := fun q os => cell_grown (by exact hlt1) y3 q os
        have z4 := fun q os => cell_grown (by exact hlt1) y4 q os
        have i0 : (a : Int) < n := by omega
        have i1 : 0 ≤ (a : Int) := by omega
        have hd : decide ((a : Int) < (n : Int)) = true := by simp; omega
        have HC := hid fun W => cmp_calls (x a) y W
        clear y0 y1 y2 y3 y4 d0 d1 d2 d3 d4
        go_wp2
        go_quiet_grown ((go_at_call 11; refine Calls.grown_of (HC.out _)))
        go_wp2
        go_ret2
        have hfin : (cmpV (x a) y == 0) = decide (a < n ∧ x a = y) := by
          rw [Bool.eq_iff_iff, beq_iff_eq, cmpV_zero, decide_eq_true_eq]
          exact ⟨fun h => ⟨hlt, h⟩, fun h => h.2⟩
        rw [hfin]
        exact ⟨a, hbn, ha.out, hb.out, rfl, HW.out.trans ((below_grow wr nq osq).mono HW.out.size)⟩
      · have hd : decide ((a : Int) < (n : Int)) = false := by simp; omega
        have hfin : decide (a < n ∧ x a = y) = false := by simp [hlt]
        have HF := hid hfin
        clear hfin
        go_wp2
        go_quiet (fail)
        go_wp2
        go_ret2
        exact ⟨a, hbn, ha.out, hb.out, by rw [HF.out]; rfl, hbw.trans ⟨rfl, rfl, rfl, Nat.le_refl _, fun _ _ => rfl⟩⟩
end Go.Proofs.YbulkbjvgDoor
