import Derived.Test.YbulkbjvgDoorCopy
namespace Go.Proofs.YbulkbjvgDoor
open Go.RowKit Go.Sort

theorem VC.setCell {w : World} {g n : Nat} {x : Nat → V} (h : VC w g n x) {a : Addr} (ha : g ≠ a.block) (u : Value) : VC (w.setCell a u) g n x := fun i hi c hc =>
  ⟨(World.cell?_of_block (w := w) (RowKit.Below.heap_setCell _ _ _ _ ha)).trans (h i hi c hc).1, (World.frozen?_of_block (w := w) (RowKit.Below.heap_setCell _ _ _ _ ha)).trans (h i hi c hc).2⟩
theorem VC.drew {w : World} {g n : Nat} {x : Nat → V} (h : VC w g n x) : VC w.drew g n x := h

/-- The two copies of without, taken together. -/
theorem two_copies (w1 : World) (g n1 cap i : Nat) (x : Nat → V) (hV : VC w1 g (n1 + 1) x) (hg : g < w1.heap.size) (hi : i < n1) :
    ∃ W1 W2 : World, (∀ ty, (Builtin.copy_ #[23, 23] ty #[.slice (some ⟨w1.heap.size, 0, none⟩) n1 n1, .slice (some ⟨g, 0, none⟩) i cap]).run Ybad.prog (w1.alloc (.cells (zeros5 n1) 28)).drew = .ok (.int .i64 (i : Int)) W1.drew) ∧
      (∀ ty c, (Builtin.copy_ #[23, 23] ty #[.slice (some ⟨w1.heap.size, i * 5, none⟩) (n1 - i) (n1 - i), .slice (some ⟨g, (i + 1) * 5, none⟩) (n1 - i) c]).run Ybad.prog W1.drew = .ok (.int .i64 ((n1 - i : Nat) : Int)) W2.drew) ∧
      RowKit.Below w1.heap.size w1 W1 ∧ RowKit.Below w1.heap.size w1 W2 ∧ W2.heap.size = w1.heap.size + 1 ∧ VC W2 w1.heap.size n1 (fun k => if k < i then x k else x (k + 1)) := by
  have hW : RowKit.Below w1.heap.size w1 (w1.alloc (.cells (zeros5 n1) 28)) := (RowKit.Below.refl _ _).alloc (Nat.le_refl _) _
  have hsz : (w1.alloc (.cells (zeros5 n1) 28)).heap.size = w1.heap.size + 1 := by simp
  have hnew := fun j (hj : j < n1 * 5) => new_cells w1 (zeros5 n1) 28 j (by rw [size_zeros5]; exact hj)
  generalize w1.alloc (.cells (zeros5 n1) 28) = W at hW hnew hsz
  have hVW : VC W g (n1 + 1) x := hV.below hW hg
  have b1 : RowKit.Below w1.heap.size w1 (W.setCells w1.heap.size 0 (flat i x)) := setCells_below _ (Nat.le_refl _) _ _ _ hW
  have hVW1 : VC (W.setCells w1.heap.size 0 (flat i x)) g (n1 + 1) x := hV.below b1 hg
  have hd1 : ∀ t, t < i * 5 → (W.cell? ⟨w1.heap.size, 0 + t, none⟩).isSome = true := fun t ht => by rw [Nat.zero_add]; exact (hnew t (by omega)).1
  have out1 : ∀ t, i * 5 ≤ t → (W.setCells w1.heap.size 0 (flat i x)).cell? ⟨w1.heap.size, t, none⟩ = W.cell? ⟨w1.heap.size, t, none⟩ := fun t ht => World.cell?_setCells_out _ _ _ _ _ (fun _ _ => Or.inr (by rw [flat_len]; show 0 + i * 5 ≤ t; omega))
  have hd2 : ∀ t, t < (n1 - i) * 5 → ((W.setCells w1.heap.size 0 (flat i x)).cell? ⟨w1.heap.size, i * 5 + t, none⟩).isSome = true := fun t ht => by rw [out1 _ (by omega)]; exact (hnew _ (by omega)).1
  refine ⟨W.setCells w1.heap.size 0 (flat i x), (W.setCells w1.heap.size 0 (flat i x)).setCells w1.heap.size (i * 5) (flat (n1 - i) (fun k => x (i + 1 + k))), fun ty => ?_, fun ty c => ?_, b1, setCells_below _ (Nat.le_refl _) _ _ _ b1, by rw [setCells_size, setCells_size]; exact hsz, ?_⟩
  · have h := copy_vals W.drew ty w1.heap.size 0 g 0 i n1 n1 i cap x (Nat.min_eq_left (by omega)) (fun k hk c hc => by rw [Nat.zero_add]; exact (hVW k (by omega) c hc).1) hd1 (fun t ht => by rw [Nat.zero_add]; exact (hnew t (by omega)).2)
    rw [setCells_drew] at h
    exact h
  · have h := copy_vals (W.setCells w1.heap.size 0 (flat i x)).drew ty w1.heap.size (i * 5) g ((i + 1) * 5) (n1 - i) (n1 - i) (n1 - i) (n1 - i) c (fun k => x (i + 1 + k)) (Nat.min_self _)
      (fun k hk c hc => by
        have := (hVW1 (i + 1 + k) (by omega) c hc).1
        rw [show (i + 1) * 5 + (k * 5 + c) = (i + 1 + k) * 5 + c by omega]
        exact this) hd2 (fun t ht => by
        have := (hnew (i * 5 + t) (by omega)).2
        rw [← this]
        exact World.frozen?_setCells _ _ _ _ _)
    rw [setCells_drew] at h
    exact h
  · intro k hk c hc
    refine ⟨?_, ?_⟩
    · by_cases hki : k < i
      · rw [World.cell?_setCells_out _ _ _ _ _ (fun _ _ => Or.inl (by show k * 5 + c < i * 5; omega))]
        have := setCells_in W w1.heap.size 0 i x hd1 k hki c hc
        rw [Nat.zero_add] at this
        simp only [hki, if_true]
        exact this
      · have := setCells_in (W.setCells w1.heap.size 0 (flat i x)) w1.heap.size (i * 5) (n1 - i) (fun k => x (i + 1 + k)) hd2 (k - i) (by omega) c hc
        rw [show i * 5 + ((k - i) * 5 + c) = k * 5 + c by omega] at this
        simp only [hki, if_false]
        rw [this, show i + 1 + (k - i) = k + 1 by omega]
    · rw [World.frozen?_setCells, World.frozen?_setCells]
      exact (hnew _ (by omega)).2

set_option maxRecDepth 100000 in
set_option maxHeartbeats 2000000 in
theorem without_found (g n1 cap : Nat) (x : Nat → V) (y : V) (i : Nat) (w : World) (hV : VC w g (n1 + 1) x) (hg : g < w.heap.size) (hn : n1 + 1 ≤ 1024) (hcap : n1 + 1 ≤ cap) (hA : Asc (n1 + 1) x) (hi : i < n1) (hxi : x i = y) :
    Calls Ybad.prog 6 #[.agg #[.int .u8 6, .bool false, .int .i64 0, .int .i64 0, .slice (some ⟨g, 0, none⟩) (n1 + 1) cap], .agg (encV y).toArray] w fun e w' =>
      ∃ g', e = .returned (.agg #[.int .u8 6, .bool false, .int .i64 0, .int .i64 0, .slice (some ⟨g', 0, none⟩) n1 n1]) ∧ w.heap.size ≤ g' ∧ g' < w'.heap.size ∧ VC w' g' n1 (fun k => if k < i then x k else x (k + 1)) ∧ RowKit.Below w.heap.size w w' := by
  have hmk := fun W => make23 n1 (by omega) W
  have HV := hid hV
  have HA := hid hA
  clear hV hA
  unfold encV
  go_enter Ybad.func6, Ybad.ntmps6
  go_wp2_with fail
  have hb0 : RowKit.Below w.heap.size w (((w.alloc (.cells #[.int .u8 6, .bool false, .int .i64 0, .int .i64 0, .slice (some ⟨g, 0, none⟩) (n1 + 1) cap] 28)).alloc (.cells #[.int .u8 (y.1.val : Int), .bool y.2.1, .int .i64 y.2.2.1, .int .i64 y.2.2.2, .slice none 0 0] 28)).alloc (.cells #[.int .u8 0, .bool false, .int .i64 0, .int .i64 0, .slice none 0 0] 28)) :=
    ((RowKit.Below.refl _ _).alloc (Nat.le_refl _) _).alloc (by simp) _ |>.alloc (by simp; omega) _
  refine (search17 g (n1 + 1) cap x y _ (HV.out.below hb0 hg) (by simp; omega) hn HA.out).mono ?_
  rintro e w1 ⟨i', hi', h1, h2, rfl, hb1⟩
  have hii : i' = i := by
    rcases Nat.lt_trichotomy i' i with h | h | h
    · exact absurd (by rw [← hxi]; exact HA.out i' i h (by omega)) (h2 i' (Nat.le_refl _) (by omega))
    · exact h
    · exact absurd (by have := h1 i h; rwa [hxi] at this) (ltV_irrefl y)
  subst hii
  have hdec : decide (i' < n1 + 1 ∧ x i' = y) = true := by simp [hxi]; omega
  rw [hdec]
  have q0 : w1.cell? ⟨w.heap.size, 0, none⟩ = some (.int .u8 6) := (hb1.cell (by simp; omega)).trans (by go_simp)
  have q1 : w1.cell? ⟨w.heap.size, 1, none⟩ = some (.bool false) := (hb1.cell (by simp; omega)).trans (by go_simp)
  have q2 : w1.cell? ⟨w.heap.size, 2, none⟩ = some (.int .i64 0) := (hb1.cell (by simp; omega)).trans (by go_simp)
  have q3 : w1.cell? ⟨w.heap.size, 3, none⟩ = some (.int .i64 0) := (hb1.cell (by simp; omega)).trans (by go_simp)
  have q4 : w1.cell? ⟨w.heap.size, 4, none⟩ = some (.slice (some ⟨g, 0, none⟩) (n1 + 1) cap) := (hb1.cell (by simp; omega)).trans (by go_simp)
  have f4 : w1.frozen? ⟨w.heap.size, 4, none⟩ = false := (hb1.frozen (by simp; omega)).trans (by go_simp)
  have r0 : w1.cell? ⟨w.heap.size + 1 + 1, 0, none⟩ = some (.int .u8 0) := (hb1.cell (by simp)).trans (by go_simp)
  have s0 : w1.frozen? ⟨w.heap.size + 1 + 1, 0, none⟩ = false := (hb1.frozen (by simp)).trans (by go_simp)
  have r1 : w1.cell? ⟨w.heap.size + 1 + 1, 1, none⟩ = some (.bool false) := (hb1.cell (by simp)).trans (by go_simp)
  have s1 : w1.frozen? ⟨w.heap.size + 1 + 1, 1, none⟩ = false := (hb1.frozen (by simp)).trans (by go_simp)
  have r2 : w1.cell? ⟨w.heap.size + 1 + 1, 2, none⟩ = some (.int .i64 0) := (hb1.cell (by simp)).trans (by go_simp)
  have s2 : w1.frozen? ⟨w.heap.size + 1 + 1, 2, none⟩ = false := (hb1.frozen (by simp)).trans (by go_simp)
  have r3 : w1.cell? ⟨w.heap.size + 1 + 1, 3, none⟩ = some (.int .i64 0) := (hb1.cell (by simp)).trans (by go_simp)
  have s3 : w1.frozen? ⟨w.heap.size + 1 + 1, 3, none⟩ = false := (hb1.frozen (by simp)).trans (by go_simp)
  have r4 : w1.cell? ⟨w.heap.size + 1 + 1, 4, none⟩ = some (.slice none 0 0) := (hb1.cell (by simp)).trans (by go_simp)
  have s4 : w1.frozen? ⟨w.heap.size + 1 + 1, 4, none⟩ = false := (hb1.frozen (by simp)).trans (by go_simp)
  have hsz1 : w.heap.size + 1 + 1 < w1.heap.size := by have := hb1.size; simp at this; omega
  have hsz0 : w.heap.size < w1.heap.size := by omega
  have hall : RowKit.Below w.heap.size w w1 := hb0.trans (hb1.mono (by simp; omega))
  obtain ⟨W1, W2, hc1, hc2, hB1, hB2, hS2, hVC⟩ := two_copies w1 g n1 cap i' x (HV.out.below hall hg) (by omega) hi
  have p4 : W1.cell? ⟨w.heap.size, 4, none⟩ = some (.slice (some ⟨g, 0, none⟩) (n1 + 1) cap) := (hB1.cell (by exact hsz0)).trans q4
  have a0 : W2.cell? ⟨w.heap.size, 0, none⟩ = some (.int .u8 6) := (hB2.cell (by exact hsz0)).trans q0
  have a1 : W2.cell? ⟨w.heap.size, 1, none⟩ = some (.bool false) := (hB2.cell (by exact hsz0)).trans q1
  have a2 : W2.cell? ⟨w.heap.size, 2, none⟩ = some (.int .i64 0) := (hB2.cell (by exact hsz0)).trans q2
  have a3 : W2.cell? ⟨w.heap.size, 3, none⟩ = some (.int .i64 0) := (hB2.cell (by exact hsz0)).trans q3
  have a4 : W2.cell? ⟨w.heap.size, 4, none⟩ = some (.slice (some ⟨g, 0, none⟩) (n1 + 1) cap) := (hB2.cell (by exact hsz0)).trans q4
  have af : W2.frozen? ⟨w.heap.size, 4, none⟩ = false := (hB2.frozen (by exact hsz0)).trans f4
  have b0 : W2.cell? ⟨w.heap.size + 1 + 1, 0, none⟩ = some (.int .u8 0) := (hB2.cell (by exact hsz1)).trans r0
  have c0 : W2.frozen? ⟨w.heap.size + 1 + 1, 0, none⟩ = false := (hB2.frozen (by exact hsz1)).trans s0
  have b1 : W2.cell? ⟨w.heap.size + 1 + 1, 1, none⟩ = some (.bool false) := (hB2.cell (by exact hsz1)).trans r1
  have c1 : W2.frozen? ⟨w.heap.size + 1 + 1, 1, none⟩ = false := (hB2.frozen (by exact hsz1)).trans s1
  have b2 : W2.cell? ⟨w.heap.size + 1 + 1, 2, none⟩ = some (.int .i64 0) := (hB2.cell (by exact hsz1)).trans r2
  have c2 : W2.frozen? ⟨w.heap.size + 1 + 1, 2, none⟩ = false := (hB2.frozen (by exact hsz1)).trans s2
  have b3 : W2.cell? ⟨w.heap.size + 1 + 1, 3, none⟩ = some (.int .i64 0) := (hB2.cell (by exact hsz1)).trans r3
  have c3 : W2.frozen? ⟨w.heap.size + 1 + 1, 3, none⟩ = false := (hB2.frozen (by exact hsz1)).trans s3
  have b4 : W2.cell? ⟨w.heap.size + 1 + 1, 4, none⟩ = some (.slice none 0 0) := (hB2.cell (by exact hsz1)).trans r4
  have c4 : W2.frozen? ⟨w.heap.size + 1 + 1, 4, none⟩ = false := (hB2.frozen (by exact hsz1)).trans s4
  have HH := hid (And.intro hb1 (And.intro hB1 (And.intro hB2 (And.intro hS2 (And.intro hVC hall)))))
  clear hb1 h1 h2 hdec hb0 hB1 hB2 hS2 hVC hall r0 r1 r2 r3 r4 s0 s1 s2 s3 s4 q0 q1 q2 q3 f4
  go_wp2
  go_region
  clear hc1 hc2 p4 q4
  go_wp2
  refine bodyPost_ret (v := .agg #[.int .u8 6, .bool false, .int .i64 0, .int .i64 0, .slice (some ⟨w1.heap.size, 0, none⟩) n1 n1]) (by simp [results, Ybad.results6, go_sem, b0, b1, b2, b3, b4]) rfl ⟨w1.heap.size, rfl, by omega, ?_, ?_, ?_⟩
  · have := HH.out.2.2.2.1
    simp
    omega
  · exact ((((((HH.out.2.2.2.2.1.setCell (by show w1.heap.size ≠ w.heap.size; omega) _).setCell (by show w1.heap.size ≠ w.heap.size + 1 + 1; omega) _).setCell (by show w1.heap.size ≠ w.heap.size + 1 + 1; omega) _).setCell (by show w1.heap.size ≠ w.heap.size + 1 + 1; omega) _).setCell (by show w1.heap.size ≠ w.heap.size + 1 + 1; omega) _).setCell (by show w1.heap.size ≠ w.heap.size + 1 + 1; omega) _).drew
  · exact (((((((HH.out.2.2.2.2.2.trans (HH.out.2.2.1.mono (by omega))).setCell (by simp) _).setCell (by simp; omega) _).setCell (by simp; omega) _).setCell (by simp; omega) _).setCell (by simp; omega) _).setCell (by simp; omega) _).drew
theorem copy_zero (w : World) (ty : TypeId) (a b : Option Addr) (c d : Nat) : (Builtin.copy_ #[23, 23] ty #[.slice a 0 c, .slice b 0 d]).run Ybad.prog w = .ok (.int .i64 0) w := by
  obtain ⟨i, hi, hzz⟩ := Option.map_eq_some_iff.1 info28
  have hl : ∀ a : Addr, (loadCells a 0).run Ybad.prog w = .ok #[] w := fun a => run_loadCells_list (P := Ybad.prog) w a [] (by simp)
  cases a <;> cases b <;> simp [Builtin.copy_, run_underlying Ybad.underlying23, Builtin.lenOf, Builtin.firstCells, sizeOf, typeInfo, hi, hl, storeCells, goInt]

/-- The first copy alone. -/
theorem one_copy (w1 : World) (g n1 cap : Nat) (x : Nat → V) (hV : VC w1 g (n1 + 1) x) (hg : g < w1.heap.size) :
    ∃ W1 : World, (∀ ty, (Builtin.copy_ #[23, 23] ty #[.slice (some ⟨w1.heap.size, 0, none⟩) n1 n1, .slice (some ⟨g, 0, none⟩) n1 cap]).run Ybad.prog (w1.alloc (.cells (zeros5 n1) 28)).drew = .ok (.int .i64 (n1 : Int)) W1.drew) ∧
      RowKit.Below w1.heap.size w1 W1 ∧ W1.heap.size = w1.heap.size + 1 ∧ VC W1 w1.heap.size n1 x := by
  have hW : RowKit.Below w1.heap.size w1 (w1.alloc (.cells (zeros5 n1) 28)) := (RowKit.Below.refl _ _).alloc (Nat.le_refl _) _
  have hsz : (w1.alloc (.cells (zeros5 n1) 28)).heap.size = w1.heap.size + 1 := by simp
  have hnew := fun j (hj : j < n1 * 5) => new_cells w1 (zeros5 n1) 28 j (by rw [size_zeros5]; exact hj)
  generalize w1.alloc (.cells (zeros5 n1) 28) = W at hW hnew hsz
  have hVW : VC W g (n1 + 1) x := hV.below hW hg
  have hd1 : ∀ t, t < n1 * 5 → (W.cell? ⟨w1.heap.size, 0 + t, none⟩).isSome = true := fun t ht => by rw [Nat.zero_add]; exact (hnew t (by omega)).1
  refine ⟨W.setCells w1.heap.size 0 (flat n1 x), fun ty => ?_, setCells_below _ (Nat.le_refl _) _ _ _ hW, by rw [setCells_size]; exact hsz, fun k hk c hc => ⟨?_, ?_⟩⟩
  · have h := copy_vals W.drew ty w1.heap.size 0 g 0 n1 n1 n1 n1 cap x (Nat.min_self _) (fun k hk c hc => by rw [Nat.zero_add]; exact (hVW k (by omega) c hc).1) hd1 (fun t ht => by rw [Nat.zero_add]; exact (hnew t (by omega)).2)
    rw [setCells_drew] at h
    exact h
  · have := setCells_in W w1.heap.size 0 n1 x hd1 k hk c hc
    rwa [Nat.zero_add] at this
  · rw [World.frozen?_setCells]
    exact (hnew _ (by omega)).2

set_option maxRecDepth 100000 in
set_option maxHeartbeats 2000000 in
theorem without_last_lt (g n1 cap : Nat) (x : Nat → V) (y : V) (w : World) (hV : VC w g (n1 + 1) x) (hg : g < w.heap.size) (hn : n1 + 1 ≤ 1024) (hcap : n1 + 1 < cap) (hA : Asc (n1 + 1) x) (hxi : x n1 = y) :
    Calls Ybad.prog 6 #[.agg #[.int .u8 6, .bool false, .int .i64 0, .int .i64 0, .slice (some ⟨g, 0, none⟩) (n1 + 1) cap], .agg (encV y).toArray] w fun e w' =>
      ∃ g', e = .returned (.agg #[.int .u8 6, .bool false, .int .i64 0, .int .i64 0, .slice (some ⟨g', 0, none⟩) n1 n1]) ∧ w.heap.size ≤ g' ∧ g' < w'.heap.size ∧ VC w' g' n1 x ∧ RowKit.Below w.heap.size w w' := by
  have hne : ¬ cap = n1 + 1 := by omega
  have hmk := fun W => make23 n1 (by omega) W
  have HV := hid hV
  have HA := hid hA
  clear hV hA
  unfold encV
  go_enter Ybad.func6, Ybad.ntmps6
  go_wp2_with fail
  have hb0 : RowKit.Below w.heap.size w (((w.alloc (.cells #[.int .u8 6, .bool false, .int .i64 0, .int .i64 0, .slice (some ⟨g, 0, none⟩) (n1 + 1) cap] 28)).alloc (.cells #[.int .u8 (y.1.val : Int), .bool y.2.1, .int .i64 y.2.2.1, .int .i64 y.2.2.2, .slice none 0 0] 28)).alloc (.cells #[.int .u8 0, .bool false, .int .i64 0, .int .i64 0, .slice none 0 0] 28)) :=
    ((RowKit.Below.refl _ _).alloc (Nat.le_refl _) _).alloc (by simp) _ |>.alloc (by simp; omega) _
  refine (search17 g (n1 + 1) cap x y _ (HV.out.below hb0 hg) (by simp; omega) hn HA.out).mono ?_
  rintro e w1 ⟨i', hi', h1, h2, rfl, hb1⟩
  have hii : i' = n1 := by
    rcases Nat.lt_trichotomy i' n1 with h | h | h
    · exact absurd (by rw [← hxi]; exact HA.out i' n1 h (by omega)) (h2 i' (Nat.le_refl _) (by omega))
    · exact h
    · exact absurd (by have := h1 n1 h; rwa [hxi] at this) (ltV_irrefl y)
  subst hii
  have hdec : decide (i' < i' + 1 ∧ x i' = y) = true := by simp [hxi]
  rw [hdec]
  have q0 : w1.cell? ⟨w.heap.size, 0, none⟩ = some (.int .u8 6) := (hb1.cell (by simp; omega)).trans (by go_simp)
  have q1 : w1.cell? ⟨w.heap.size, 1, none⟩ = some (.bool false) := (hb1.cell (by simp; omega)).trans (by go_simp)
  have q2 : w1.cell? ⟨w.heap.size, 2, none⟩ = some (.int .i64 0) := (hb1.cell (by simp; omega)).trans (by go_simp)
  have q3 : w1.cell? ⟨w.heap.size, 3, none⟩ = some (.int .i64 0) := (hb1.cell (by simp; omega)).trans (by go_simp)
  have q4 : w1.cell? ⟨w.heap.size, 4, none⟩ = some (.slice (some ⟨g, 0, none⟩) (i' + 1) cap) := (hb1.cell (by simp; omega)).trans (by go_simp)
  have f4 : w1.frozen? ⟨w.heap.size, 4, none⟩ = false := (hb1.frozen (by simp; omega)).trans (by go_simp)
  have r0 : w1.cell? ⟨w.heap.size + 1 + 1, 0, none⟩ = some (.int .u8 0) := (hb1.cell (by simp)).trans (by go_simp)
  have s0 : w1.frozen? ⟨w.heap.size + 1 + 1, 0, none⟩ = false := (hb1.frozen (by simp)).trans (by go_simp)
  have r1 : w1.cell? ⟨w.heap.size + 1 + 1, 1, none⟩ = some (.bool false) := (hb1.cell (by simp)).trans (by go_simp)
  have s1 : w1.frozen? ⟨w.heap.size + 1 + 1, 1, none⟩ = false := (hb1.frozen (by simp)).trans (by go_simp)
  have r2 : w1.cell? ⟨w.heap.size + 1 + 1, 2, none⟩ = some (.int .i64 0) := (hb1.cell (by simp)).trans (by go_simp)
  have s2 : w1.frozen? ⟨w.heap.size + 1 + 1, 2, none⟩ = false := (hb1.frozen (by simp)).trans (by go_simp)
  have r3 : w1.cell? ⟨w.heap.size + 1 + 1, 3, none⟩ = some (.int .i64 0) := (hb1.cell (by simp)).trans (by go_simp)
  have s3 : w1.frozen? ⟨w.heap.size + 1 + 1, 3, none⟩ = false := (hb1.frozen (by simp)).trans (by go_simp)
  have r4 : w1.cell? ⟨w.heap.size + 1 + 1, 4, none⟩ = some (.slice none 0 0) := (hb1.cell (by simp)).trans (by go_simp)
  have s4 : w1.frozen? ⟨w.heap.size + 1 + 1, 4, none⟩ = false := (hb1.frozen (by simp)).trans (by go_simp)
  have hsz1 : w.heap.size + 1 + 1 < w1.heap.size := by have := hb1.size; simp at this; omega
  have hsz0 : w.heap.size < w1.heap.size := by omega
  have hall : RowKit.Below w.heap.size w w1 := hb0.trans (hb1.mono (by simp; omega))
  obtain ⟨W2, hc1, hB2, hS2, hVC⟩ := one_copy w1 g i' cap x (HV.out.below hall hg) (by omega)
  have hc2 := fun (ty : TypeId) (a b : Option Addr) (c d : Nat) => copy_zero W2.drew ty a b c d
  have a0 : W2.cell? ⟨w.heap.size, 0, none⟩ = some (.int .u8 6) := (hB2.cell (by exact hsz0)).trans q0
  have a1 : W2.cell? ⟨w.heap.size, 1, none⟩ = some (.bool false) := (hB2.cell (by exact hsz0)).trans q1
  have a2 : W2.cell? ⟨w.heap.size, 2, none⟩ = some (.int .i64 0) := (hB2.cell (by exact hsz0)).trans q2
  have a3 : W2.cell? ⟨w.heap.size, 3, none⟩ = some (.int .i64 0) := (hB2.cell (by exact hsz0)).trans q3
  have a4 : W2.cell? ⟨w.heap.size, 4, none⟩ = some (.slice (some ⟨g, 0, none⟩) (i' + 1) cap) := (hB2.cell (by exact hsz0)).trans q4
  have af : W2.frozen? ⟨w.heap.size, 4, none⟩ = false := (hB2.frozen (by exact hsz0)).trans f4
  have b0 : W2.cell? ⟨w.heap.size + 1 + 1, 0, none⟩ = some (.int .u8 0) := (hB2.cell (by exact hsz1)).trans r0
  have c0 : W2.frozen? ⟨w.heap.size + 1 + 1, 0, none⟩ = false := (hB2.frozen (by exact hsz1)).trans s0
  have b1 : W2.cell? ⟨w.heap.size + 1 + 1, 1, none⟩ = some (.bool false) := (hB2.cell (by exact hsz1)).trans r1
  have c1 : W2.frozen? ⟨w.heap.size + 1 + 1, 1, none⟩ = false := (hB2.frozen (by exact hsz1)).trans s1
  have b2 : W2.cell? ⟨w.heap.size + 1 + 1, 2, none⟩ = some (.int .i64 0) := (hB2.cell (by exact hsz1)).trans r2
  have c2 : W2.frozen? ⟨w.heap.size + 1 + 1, 2, none⟩ = false := (hB2.frozen (by exact hsz1)).trans s2
  have b3 : W2.cell? ⟨w.heap.size + 1 + 1, 3, none⟩ = some (.int .i64 0) := (hB2.cell (by exact hsz1)).trans r3
  have c3 : W2.frozen? ⟨w.heap.size + 1 + 1, 3, none⟩ = false := (hB2.frozen (by exact hsz1)).trans s3
  have b4 : W2.cell? ⟨w.heap.size + 1 + 1, 4, none⟩ = some (.slice none 0 0) := (hB2.cell (by exact hsz1)).trans r4
  have c4 : W2.frozen? ⟨w.heap.size + 1 + 1, 4, none⟩ = false := (hB2.frozen (by exact hsz1)).trans s4
  have HH := hid (And.intro hb1 (And.intro hb1 (And.intro hB2 (And.intro hS2 (And.intro hVC hall)))))
  clear hb1 h1 h2 hdec hb0 hB2 hS2 hVC hall r0 r1 r2 r3 r4 s0 s1 s2 s3 s4 q0 q1 q2 q3 f4
  go_wp2
  go_region
  clear hc1 hc2 q4
  go_wp2
  refine bodyPost_ret (v := .agg #[.int .u8 6, .bool false, .int .i64 0, .int .i64 0, .slice (some ⟨w1.heap.size, 0, none⟩) i' i']) (by simp [results, Ybad.results6, go_sem, b0, b1, b2, b3, b4]) rfl ⟨w1.heap.size, rfl, by omega, ?_, ?_, ?_⟩
  · have := HH.out.2.2.2.1
    simp
    omega
  · exact ((((((HH.out.2.2.2.2.1.setCell (by show w1.heap.size ≠ w.heap.size; omega) _).setCell (by show w1.heap.size ≠ w.heap.size + 1 + 1; omega) _).setCell (by show w1.heap.size ≠ w.heap.size + 1 + 1; omega) _).setCell (by show w1.heap.size ≠ w.heap.size + 1 + 1; omega) _).setCell (by show w1.heap.size ≠ w.heap.size + 1 + 1; omega) _).setCell (by show w1.heap.size ≠ w.heap.size + 1 + 1; omega) _).drew
  · exact (((((((HH.out.2.2.2.2.2.trans (HH.out.2.2.1.mono (by omega))).setCell (by simp) _).setCell (by simp; omega) _).setCell (by simp; omega) _).setCell (by simp; omega) _).setCell (by simp; omega) _).setCell (by simp; omega) _).drew

set_option maxRecDepth 100000 in
set_option maxHeartbeats 2000000 in
theorem without_last_eq (g n1 : Nat) (x : Nat → V) (y : V) (w : World) (hV : VC w g (n1 + 1) x) (hg : g < w.heap.size) (hn : n1 + 1 ≤ 1024) (hA : Asc (n1 + 1) x) (hxi : x n1 = y) :
    Calls Ybad.prog 6 #[.agg #[.int .u8 6, .bool false, .int .i64 0, .int .i64 0, .slice (some ⟨g, 0, none⟩) (n1 + 1) (n1 + 1)], .agg (encV y).toArray] w fun e w' =>
      ∃ g', e = .returned (.agg #[.int .u8 6, .bool false, .int .i64 0, .int .i64 0, .slice (some ⟨g', 0, none⟩) n1 n1]) ∧ w.heap.size ≤ g' ∧ g' < w'.heap.size ∧ VC w' g' n1 x ∧ RowKit.Below w.heap.size w w' := by
  have hmk := fun W => make23 n1 (by omega) W
  have HV := hid hV
  have HA := hid hA
  clear hV hA
  unfold encV
  go_enter Ybad.func6, Ybad.ntmps6
  go_wp2_with fail
  have hb0 : RowKit.Below w.heap.size w (((w.alloc (.cells #[.int .u8 6, .bool false, .int .i64 0, .int .i64 0, .slice (some ⟨g, 0, none⟩) (n1 + 1) (n1 + 1)] 28)).alloc (.cells #[.int .u8 (y.1.val : Int), .bool y.2.1, .int .i64 y.2.2.1, .int .i64 y.2.2.2, .slice none 0 0] 28)).alloc (.cells #[.int .u8 0, .bool false, .int .i64 0, .int .i64 0, .slice none 0 0] 28)) :=
    ((RowKit.Below.refl _ _).alloc (Nat.le_refl _) _).alloc (by simp) _ |>.alloc (by simp; omega) _
  refine (search17 g (n1 + 1) (n1 + 1) x y _ (HV.out.below hb0 hg) (by simp; omega) hn HA.out).mono ?_
  rintro e w1 ⟨i', hi', h1, h2, rfl, hb1⟩
  have hii : i' = n1 := by
    rcases Nat.lt_trichotomy i' n1 with h | h | h
    · exact absurd (by rw [← hxi]; exact HA.out i' n1 h (by omega)) (h2 i' (Nat.le_refl _) (by omega))
    · exact h
    · exact absurd (by have := h1 n1 h; rwa [hxi] at this) (ltV_irrefl y)
  subst hii
  have hdec : decide (i' < i' + 1 ∧ x i' = y) = true := by simp [hxi]
  rw [hdec]
  have q0 : w1.cell? ⟨w.heap.size, 0, none⟩ = some (.int .u8 6) := (hb1.cell (by simp; omega)).trans (by go_simp)
  have q1 : w1.cell? ⟨w.heap.size, 1, none⟩ = some (.bool false) := (hb1.cell (by simp; omega)).trans (by go_simp)
  have q2 : w1.cell? ⟨w.heap.size, 2, none⟩ = some (.int .i64 0) := (hb1.cell (by simp; omega)).trans (by go_simp)
  have q3 : w1.cell? ⟨w.heap.size, 3, none⟩ = some (.int .i64 0) := (hb1.cell (by simp; omega)).trans (by go_simp)
  have q4 : w1.cell? ⟨w.heap.size, 4, none⟩ = some (.slice (some ⟨g, 0, none⟩) (i' + 1) (i' + 1)) := (hb1.cell (by simp; omega)).trans (by go_simp)
  have f4 : w1.frozen? ⟨w.heap.size, 4, none⟩ = false := (hb1.frozen (by simp; omega)).trans (by go_simp)
  have r0 : w1.cell? ⟨w.heap.size + 1 + 1, 0, none⟩ = some (.int .u8 0) := (hb1.cell (by simp)).trans (by go_simp)
  have s0 : w1.frozen? ⟨w.heap.size + 1 + 1, 0, none⟩ = false := (hb1.frozen (by simp)).trans (by go_simp)
  have r1 : w1.cell? ⟨w.heap.size + 1 + 1, 1, none⟩ = some (.bool false) := (hb1.cell (by simp)).trans (by go_simp)
  have s1 : w1.frozen? ⟨w.heap.size + 1 + 1, 1, none⟩ = false := (hb1.frozen (by simp)).trans (by go_simp)
  have r2 : w1.cell? ⟨w.heap.size + 1 + 1, 2, none⟩ = some (.int .i64 0) := (hb1.cell (by simp)).trans (by go_simp)
  have s2 : w1.frozen? ⟨w.heap.size + 1 + 1, 2, none⟩ = false := (hb1.frozen (by simp)).trans (by go_simp)
  have r3 : w1.cell? ⟨w.heap.size + 1 + 1, 3, none⟩ = some (.int .i64 0) := (hb1.cell (by simp)).trans (by go_simp)
  have s3 : w1.frozen? ⟨w.heap.size + 1 + 1, 3, none⟩ = false := (hb1.frozen (by simp)).trans (by go_simp)
  have r4 : w1.cell? ⟨w.heap.size + 1 + 1, 4, none⟩ = some (.slice none 0 0) := (hb1.cell (by simp)).trans (by go_simp)
  have s4 : w1.frozen? ⟨w.heap.size + 1 + 1, 4, none⟩ = false := (hb1.frozen (by simp)).trans (by go_simp)
  have hsz1 : w.heap.size + 1 + 1 < w1.heap.size := by have := hb1.size; simp at this; omega
  have hsz0 : w.heap.size < w1.heap.size := by omega
  have hall : RowKit.Below w.heap.size w w1 := hb0.trans (hb1.mono (by simp; omega))
  obtain ⟨W2, hc1, hB2, hS2, hVC⟩ := one_copy w1 g i' (i' + 1) x (HV.out.below hall hg) (by omega)
  have hc2 := fun (ty : TypeId) (a b : Option Addr) (c d : Nat) => copy_zero W2.drew ty a b c d
  have a0 : W2.cell? ⟨w.heap.size, 0, none⟩ = some (.int .u8 6) := (hB2.cell (by exact hsz0)).trans q0
  have a1 : W2.cell? ⟨w.heap.size, 1, none⟩ = some (.bool false) := (hB2.cell (by exact hsz0)).trans q1
  have a2 : W2.cell? ⟨w.heap.size, 2, none⟩ = some (.int .i64 0) := (hB2.cell (by exact hsz0)).trans q2
  have a3 : W2.cell? ⟨w.heap.size, 3, none⟩ = some (.int .i64 0) := (hB2.cell (by exact hsz0)).trans q3
  have a4 : W2.cell? ⟨w.heap.size, 4, none⟩ = some (.slice (some ⟨g, 0, none⟩) (i' + 1) (i' + 1)) := (hB2.cell (by exact hsz0)).trans q4
  have af : W2.frozen? ⟨w.heap.size, 4, none⟩ = false := (hB2.frozen (by exact hsz0)).trans f4
  have b0 : W2.cell? ⟨w.heap.size + 1 + 1, 0, none⟩ = some (.int .u8 0) := (hB2.cell (by exact hsz1)).trans r0
  have c0 : W2.frozen? ⟨w.heap.size + 1 + 1, 0, none⟩ = false := (hB2.frozen (by exact hsz1)).trans s0
  have b1 : W2.cell? ⟨w.heap.size + 1 + 1, 1, none⟩ = some (.bool false) := (hB2.cell (by exact hsz1)).trans r1
  have c1 : W2.frozen? ⟨w.heap.size + 1 + 1, 1, none⟩ = false := (hB2.frozen (by exact hsz1)).trans s1
  have b2 : W2.cell? ⟨w.heap.size + 1 + 1, 2, none⟩ = some (.int .i64 0) := (hB2.cell (by exact hsz1)).trans r2
  have c2 : W2.frozen? ⟨w.heap.size + 1 + 1, 2, none⟩ = false := (hB2.frozen (by exact hsz1)).trans s2
  have b3 : W2.cell? ⟨w.heap.size + 1 + 1, 3, none⟩ = some (.int .i64 0) := (hB2.cell (by exact hsz1)).trans r3
  have c3 : W2.frozen? ⟨w.heap.size + 1 + 1, 3, none⟩ = false := (hB2.frozen (by exact hsz1)).trans s3
  have b4 : W2.cell? ⟨w.heap.size + 1 + 1, 4, none⟩ = some (.slice none 0 0) := (hB2.cell (by exact hsz1)).trans r4
  have c4 : W2.frozen? ⟨w.heap.size + 1 + 1, 4, none⟩ = false := (hB2.frozen (by exact hsz1)).trans s4
  have HH := hid (And.intro hb1 (And.intro hb1 (And.intro hB2 (And.intro hS2 (And.intro hVC hall)))))
  clear hb1 h1 h2 hdec hb0 hB2 hS2 hVC hall r0 r1 r2 r3 r4 s0 s1 s2 s3 s4 q0 q1 q2 q3 f4
  go_wp2
  go_region
  clear hc1 hc2 q4
  go_wp2
  refine bodyPost_ret (v := .agg #[.int .u8 6, .bool false, .int .i64 0, .int .i64 0, .slice (some ⟨w1.heap.size, 0, none⟩) i' i']) (by simp [results, Ybad.results6, go_sem, b0, b1, b2, b3, b4]) rfl ⟨w1.heap.size, rfl, by omega, ?_, ?_, ?_⟩
  · have := HH.out.2.2.2.1
    simp
    omega
  · exact ((((((HH.out.2.2.2.2.1.setCell (by show w1.heap.size ≠ w.heap.size; omega) _).setCell (by show w1.heap.size ≠ w.heap.size + 1 + 1; omega) _).setCell (by show w1.heap.size ≠ w.heap.size + 1 + 1; omega) _).setCell (by show w1.heap.size ≠ w.heap.size + 1 + 1; omega) _).setCell (by show w1.heap.size ≠ w.heap.size + 1 + 1; omega) _).setCell (by show w1.heap.size ≠ w.heap.size + 1 + 1; omega) _).drew
  · exact (((((((HH.out.2.2.2.2.2.trans (HH.out.2.2.1.mono (by omega))).setCell (by simp) _).setCell (by simp; omega) _).setCell (by simp; omega) _).setCell (by simp; omega) _).setCell (by simp; omega) _).setCell (by simp; omega) _).drew

end Go.Proofs.YbulkbjvgDoor
