import Derived.Test.YbulkbjvgDoorMk
namespace Go.Proofs.YbulkbjvgDoor
open Go.RowKit Go.Sort

/-- What compareValues gives at two plain values. -/
def cmpV (x y : V) : Int := orI (cI (x.1.val : Int) (y.1.val : Int)) (cI x.2.2.1 y.2.2.1) (cI x.2.2.2 y.2.2.2) (cB x.2.1 y.2.1) 0

theorem cI_zero (a b : Int) : cI a b = 0 ↔ a = b := by
  unfold cI
  by_cases h1 : a < b
  · simp [h1]; omega
  · by_cases h2 : b < a <;> simp [h1, h2] <;> omega
theorem cB_zero (a b : Bool) : cB a b = 0 ↔ a = b := by cases a <;> cases b <;> simp [cB]

theorem cmpV_zero (x y : V) : cmpV x y = 0 ↔ x = y := by
  obtain ⟨k, t, p, n⟩ := x
  obtain ⟨k', t', p', n'⟩ := y
  unfold cmpV orI
  simp only [Prod.mk.injEq]
  by_cases h1 : cI (k.val : Int) (k'.val : Int) = 0
  · have e1 : k = k' := by have := (cI_zero _ _).1 h1; exact Fin.ext (by omega)
    simp only [h1, ne_eq, not_true_eq_false, if_false]
    by_cases h2 : cI p p' = 0
    · simp only [h2, not_true_eq_false, if_false]
      by_cases h3 : cI n n' = 0
      · simp only [h3, not_true_eq_false, if_false]
        by_cases h4 : cB t t' = 0
        · simp only [h4, not_true_eq_false, if_false, true_iff]
          exact ⟨e1, (cB_zero _ _).1 h4, (cI_zero _ _).1 h2, (cI_zero _ _).1 h3⟩
        · simp only [h4, not_false_eq_true, if_true, false_iff]
          intro h; exact h4 ((cB_zero _ _).2 h.2.1)
      · simp only [h3, not_false_eq_true, if_true, false_iff]
        intro h; exact h3 ((cI_zero _ _).2 h.2.2.2)
    · simp only [h2, not_false_eq_true, if_true, false_iff]
      intro h; exact h2 ((cI_zero _ _).2 h.2.2.1)
  · simp only [h1, ne_eq, not_false_eq_true, if_true, false_iff]
    intro h; exact h1 ((cI_zero _ _).2 (by rw [h.1]))

theorem cI_neg (a b : Int) : cI a b < 0 ↔ a < b := by
  unfold cI
  by_cases h1 : a < b
  · simp [h1]
  · by_cases h2 : b < a <;> simp [h1, h2]
theorem cB_neg (a b : Bool) : cB a b < 0 ↔ a.toNat < b.toNat := by cases a <;> cases b <;> simp [cB]

/-- 'less' in the words of numbers. -/
def ltV (x y : V) : Prop := x.1.val < y.1.val ∨ (x.1.val = y.1.val ∧ (x.2.2.1 < y.2.2.1 ∨ (x.2.2.1 = y.2.2.1 ∧ (x.2.2.2 < y.2.2.2 ∨ (x.2.2.2 = y.2.2.2 ∧ x.2.1.toNat < y.2.1.toNat)))))

theorem cmpV_neg (x y : V) : cmpV x y < 0 ↔ ltV x y := by
  unfold cmpV orI ltV
  have a1 := cI_zero (x.1.val : Int) (y.1.val : Int)
  have a2 := cI_zero x.2.2.1 y.2.2.1
  have a3 := cI_zero x.2.2.2 y.2.2.2
  have b1 := cI_neg (x.1.val : Int) (y.1.val : Int)
  have b2 := cI_neg x.2.2.1 y.2.2.1
  have b3 := cI_neg x.2.2.2 y.2.2.2
  have b4 := cB_neg x.2.1 y.2.1
  have a4 := cB_zero x.2.1 y.2.1
  by_cases h1 : cI (x.1.val : Int) (y.1.val : Int) = 0
  · have e1 := a1.1 h1
    by_cases h2 : cI x.2.2.1 y.2.2.1 = 0
    · have e2 := a2.1 h2
      by_cases h3 : cI x.2.2.2 y.2.2.2 = 0
      · have e3 := a3.1 h3
        by_cases h4 : cB x.2.1 y.2.1 = 0
        · have e4 := a4.1 h4
          simp only [h1, h2, h3, h4, ne_eq, not_true_eq_false, if_false]
          rw [e4]; omega
        · simp only [h1, h2, h3, h4, ne_eq, not_true_eq_false, not_false_eq_true, if_false, if_true]
          rw [b4]; omega
      · simp only [h1, h2, h3, ne_eq, not_true_eq_false, not_false_eq_true, if_false, if_true]
        rw [b3]; omega
    · simp only [h1, h2, ne_eq, not_true_eq_false, not_false_eq_true, if_false, if_true]
      rw [b2]; omega
  · simp only [h1, ne_eq, not_false_eq_true, if_true]
    rw [b1]; omega

theorem ltV_trans {x y z : V} (h : ltV x y) (k : ltV y z) : ltV x z := by unfold ltV at *; omega
theorem ltV_irrefl (x : V) : ¬ ltV x x := by unfold ltV; omega
theorem ltV_total (x y : V) : ltV x y ∨ x = y ∨ ltV y x := by
  by_cases h : x = y
  · exact Or.inr (Or.inl h)
  · have h0 : ¬ cmpV x y = 0 := fun e => h ((cmpV_zero x y).1 e)
    by_cases h1 : ltV x y
    · exact Or.inl h1
    · refine Or.inr (Or.inr ?_)
      obtain ⟨k, t, p, n⟩ := x
      obtain ⟨k', t', p', n'⟩ := y
      unfold ltV at *
      simp only [Prod.mk.injEq, not_and] at h
      simp only at *
      by_cases e1 : k.val = k'.val
      · by_cases e2 : p = p'
        · by_cases e3 : n = n'
          · have e4 : t ≠ t' := fun e => h (Fin.ext e1) e e2 e3
            cases t <;> cases t' <;> simp at e4 h1 ⊢ <;> omega
          · omega
        · omega
      · omega

theorem cmp_calls (x y : V) (w : World) : Calls Ybad.prog 11 #[.agg (encV x).toArray, .agg (encV y).toArray] w fun e w' => e = .returned (.int .i64 (cmpV x y)) ∧ ∃ q os', w' = grow (w.drewN q) os' :=
  compare11 _ _ _ _ _ _ _ _ w (by have := x.1.isLt; simp; omega) (by have := y.1.isLt; simp; omega)

theorem eqV_dec (x y : V) : eqV (x.1.val : Int) (y.1.val : Int) x.2.1 y.2.1 x.2.2.1 y.2.2.1 x.2.2.2 y.2.2.2 = decide (x = y) := by
  obtain ⟨k, t, p, n⟩ := x
  obtain ⟨k', t', p', n'⟩ := y
  rw [Bool.eq_iff_iff]
  simp only [eqV, Bool.and_eq_true, beq_iff_eq, decide_eq_true_eq, Prod.mk.injEq]
  constructor
  · rintro ⟨⟨⟨h1, h2⟩, h3⟩, h4⟩
    exact ⟨Fin.ext (by omega), h4, h2, h3⟩
  · rintro ⟨h1, h2, h3, h4⟩
    exact ⟨⟨⟨by rw [h1], h3⟩, h4⟩, h2⟩

theorem eq_calls (x y : V) (w : World) : Calls Ybad.prog 8 #[.agg (encV x).toArray, .agg (encV y).toArray] w fun e w' => e = .returned (.bool (decide (x = y))) ∧ ∃ q os', w' = grow (w.drewN q) os' := by
  rw [← eqV_dec]
  exact ceq8 _ _ _ _ _ _ _ _ w

/-- n plain values, of five cells each, lie in block g from its head on. -/
def VC (w : World) (g n : Nat) (x : Nat → V) : Prop := ∀ i, i < n → ∀ c, c < 5 → w.cell? ⟨g, i * 5 + c, none⟩ = some ((encV (x i)).getD c undef) ∧ w.frozen? ⟨g, i * 5 + c, none⟩ = false

theorem VC.below {w w' : World} {g n B : Nat} {x : Nat → V} (h : VC w g n x) (hb : RowKit.Below B w w') (hg : g < B) : VC w' g n x := fun i hi c hc =>
  ⟨(hb.cell (by exact hg)).trans (h i hi c hc).1, (hb.frozen (by exact hg)).trans (h i hi c hc).2⟩
theorem VC.le {w : World} {g n m : Nat} {x : Nat → V} (h : VC w g n x) (hm : m ≤ n) : VC w g m x := fun i hi => h i (by omega)
theorem VC.congr {w : World} {g n : Nat} {x y : Nat → V} (h : VC w g n x) (e : ∀ i, i < n → x i = y i) : VC w g n y := fun i hi c hc => by rw [← e i hi]; exact h i hi c hc

theorem VC.five {w : World} {g n : Nat} {x : Nat → V} (h : VC w g n x) {i : Nat} (hi : i < n) :
    w.cell? ⟨g, i * 5, none⟩ = some (.int .u8 ((x i).1.val : Int)) ∧ w.cell? ⟨g, i * 5 + 1, none⟩ = some (.bool (x i).2.1) ∧ w.cell? ⟨g, i * 5 + 2, none⟩ = some (.int .i64 (x i).2.2.1) ∧
      w.cell? ⟨g, i * 5 + 3, none⟩ = some (.int .i64 (x i).2.2.2) ∧ w.cell? ⟨g, i * 5 + 4, none⟩ = some (.slice none 0 0) :=
  ⟨(h i hi 0 (by omega)).1, (h i hi 1 (by omega)).1, (h i hi 2 (by omega)).1, (h i hi 3 (by omega)).1, (h i hi 4 (by omega)).1⟩
theorem VC.fr {w : World} {g n : Nat} {x : Nat → V} (h : VC w g n x) {i : Nat} (hi : i < n) :
    w.frozen? ⟨g, i * 5, none⟩ = false ∧ w.frozen? ⟨g, i * 5 + 1, none⟩ = false ∧ w.frozen? ⟨g, i * 5 + 2, none⟩ = false ∧ w.frozen? ⟨g, i * 5 + 3, none⟩ = false ∧ w.frozen? ⟨g, i * 5 + 4, none⟩ = false :=
  ⟨(h i hi 0 (by omega)).2, (h i hi 1 (by omega)).2, (h i hi 2 (by omega)).2, (h i hi 3 (by omega)).2, (h i hi 4 (by omega)).2⟩

theorem below_grow (w : World) (q : Nat) (os : Array Obj) : RowKit.Below w.heap.size w (grow (w.drewN q) os) := by
  refine ⟨rfl, rfl, rfl, by simp [grow, World.drewN], fun k hk => ?_⟩
  show (w.heap ++ os)[k]? = w.heap[k]?
  rw [Array.getElem?_append_left hk]

end Go.Proofs.YbulkbjvgDoor
