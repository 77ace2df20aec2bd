import Derived.Test.YbulkbjvgDoorWithout
namespace Go.Proofs.YbulkbjvgDoor
open Go.RowKit Go.Sort

/-- The first n values, as a list. -/
def lst (n : Nat) (x : Nat → V) : List V := (List.range n).map x

theorem lst_len (n : Nat) (x : Nat → V) : (lst n x).length = n := by simp [lst]
theorem lst_get (n : Nat) (x : Nat → V) (i : Nat) (h : i < n) : (lst n x)[i]? = some (x i) := by simp [lst, h]
theorem lst_congr {n : Nat} {x y : Nat → V} (h : ∀ i, i < n → x i = y i) : lst n x = lst n y := by
  unfold lst
  exact List.map_congr_left fun i hi => h i (List.mem_range.1 hi)
theorem lst_succ (n : Nat) (x : Nat → V) : lst (n + 1) x = lst n x ++ [x n] := by simp [lst, List.range_succ]
theorem lst_add (i m : Nat) (x : Nat → V) : lst (i + m) x = lst i x ++ lst m (fun k => x (i + k)) := by
  induction m with
  | zero => simp [lst]
  | succ m ih => rw [← Nat.add_assoc, lst_succ, ih, lst_succ, List.append_assoc]
theorem mem_lst {n : Nat} {x : Nat → V} {z : V} (h : z ∈ lst n x) : ∃ i, i < n ∧ x i = z := by
  simp only [lst, List.mem_map, List.mem_range] at h
  exact h

/-- Without y. -/
def rem (l : List V) (y : V) : List V := l.filter fun z => !decide (z = y)

theorem rem_self {n : Nat} {x : Nat → V} {y : V} (h : ∀ i, i < n → x i ≠ y) : rem (lst n x) y = lst n x := by
  unfold rem
  rw [List.filter_eq_self]
  intro z hz
  obtain ⟨i, hi, rfl⟩ := mem_lst hz
  simp [h i hi]

theorem asc_ne {n : Nat} {x : Nat → V} (hA : Asc n x) {i j : Nat} (hi : i < n) (hj : j < n) (h : i ≠ j) : x i ≠ x j := by
  intro e
  rcases Nat.lt_or_gt_of_ne h with h | h
  · exact ltV_irrefl _ (by have := hA i j h hj; rwa [e] at this)
  · exact ltV_irrefl _ (by have := hA j i h hi; rwa [e] at this)

theorem rem_at {n1 : Nat} {x : Nat → V} {y : V} {i : Nat} (hA : Asc (n1 + 1) x) (hi : i < n1 + 1) (hxi : x i = y) : rem (lst (n1 + 1) x) y = lst n1 (fun k => if k < i then x k else x (k + 1)) := by
  obtain ⟨m, rfl⟩ : ∃ m, n1 = i + m := ⟨n1 - i, by omega⟩
  have e1 : lst (i + m + 1) x = lst i x ++ ([x i] ++ lst m (fun k => x (i + 1 + k))) := by
    rw [show i + m + 1 = i + 1 + m by omega, lst_add (i + 1) m x, lst_succ, List.append_assoc]
  have e2 : lst (i + m) (fun k => if k < i then x k else x (k + 1)) = lst i x ++ lst m (fun k => x (i + 1 + k)) := by
    rw [lst_add]
    congr 1
    · exact lst_congr fun k hk => by simp [hk]
    · exact lst_congr fun k hk => by simp [show ¬ i + k < i by omega]; congr 1; omega
  rw [e1, e2]
  unfold rem
  rw [List.filter_append, List.filter_append]
  have f1 : (lst i x).filter (fun z => !decide (z = y)) = lst i x := rem_self fun k hk => by rw [← hxi]; exact asc_ne hA (by omega) (by omega) (by omega)
  have f2 : (lst m (fun k => x (i + 1 + k))).filter (fun z => !decide (z = y)) = lst m (fun k => x (i + 1 + k)) := rem_self (x := fun k => x (i + 1 + k)) fun k hk => by rw [← hxi]; exact asc_ne hA (by omega) (by omega) (by omega)
  rw [f1, f2]
  simp [hxi]

set_option maxRecDepth 100000 in
set_option maxHeartbeats 2000000 in
theorem without_none (g n cap : Nat) (x : Nat → V) (y : V) (w : World) (hV : VC w g n x) (hg : g < w.heap.size) (hn : n ≤ 1024) (hA : Asc n x) (hno : ∀ i, i < n → x i ≠ y) :
    Calls Ybad.prog 6 #[.agg #[.int .u8 6, .bool false, .int .i64 0, .int .i64 0, .slice (some ⟨g, 0, none⟩) n cap], .agg (encV y).toArray] w fun e w' =>
      e = .returned (.agg #[.int .u8 6, .bool false, .int .i64 0, .int .i64 0, .slice (some ⟨g, 0, none⟩) n cap]) ∧ RowKit.Below w.heap.size w w' := by
  have HV := hid hV
  have HA := hid hA
  clear hV hA
  unfold encV
  go_enter Ybad.func6, Ybad.ntmps6
  go_wp2_with fail
  have hb0 : RowKit.Below w.heap.size w (((w.alloc (.cells #[.int .u8 6, .bool false, .int .i64 0, .int .i64 0, .slice (some ⟨g, 0, none⟩) n cap] 28)).alloc (.cells #[.int .u8 (y.1.val : Int), .bool y.2.1, .int .i64 y.2.2.1, .int .i64 y.2.2.2, .slice none 0 0] 28)).alloc (.cells #[.int .u8 0, .bool false, .int .i64 0, .int .i64 0, .slice none 0 0] 28)) :=
    ((RowKit.Below.refl _ _).alloc (Nat.le_refl _) _).alloc (by simp) _ |>.alloc (by simp; omega) _
  refine (search17 g n cap x y _ (HV.out.below hb0 hg) (by simp; omega) hn HA.out).mono ?_
  rintro e w1 ⟨i', hi', h1, h2, rfl, hb1⟩
  have hdec : decide (i' < n ∧ x i' = y) = false := by
    simp only [decide_eq_false_iff_not, not_and]
    exact fun h => hno i' h
  rw [hdec]
  have q0 : w1.cell? ⟨w.heap.size, 0, none⟩ = some (.int .u8 6) := (hb1.cell (by simp; omega)).trans (by go_simp)
  have q1 : w1.cell? ⟨w.heap.size, 1, none⟩ = some (.bool false) := (hb1.cell (by simp; omega)).trans (by go_simp)
  have q2 : w1.cell? ⟨w.heap.size, 2, none⟩ = some (.int .i64 0) := (hb1.cell (by simp; omega)).trans (by go_simp)
  have q3 : w1.cell? ⟨w.heap.size, 3, none⟩ = some (.int .i64 0) := (hb1.cell (by simp; omega)).trans (by go_simp)
  have q4 : w1.cell? ⟨w.heap.size, 4, none⟩ = some (.slice (some ⟨g, 0, none⟩) n cap) := (hb1.cell (by simp; omega)).trans (by go_simp)
  have r0 : w1.cell? ⟨w.heap.size + 1 + 1, 0, none⟩ = some (.int .u8 0) := (hb1.cell (by simp)).trans (by go_simp)
  have s0 : w1.frozen? ⟨w.heap.size + 1 + 1, 0, none⟩ = false := (hb1.frozen (by simp)).trans (by go_simp)
  have r1 : w1.cell? ⟨w.heap.size + 1 + 1, 1, none⟩ = some (.bool false) := (hb1.cell (by simp)).trans (by go_simp)
  have s1 : w1.frozen? ⟨w.heap.size + 1 + 1, 1, none⟩ = false := (hb1.frozen (by simp)).trans (by go_simp)
  have r2 : w1.cell? ⟨w.heap.size + 1 + 1, 2, none⟩ = some (.int .i64 0) := (hb1.cell (by simp)).trans (by go_simp)
  have s2 : w1.frozen? ⟨w.heap.size + 1 + 1, 2, none⟩ = false := (hb1.frozen (by simp)).trans (by go_simp)
  have r3 : w1.cell? ⟨w.heap.size + 1 + 1, 3, none⟩ = some (.int .i64 0) := (hb1.cell (by simp)).trans (by go_simp)
  have s3 : w1.frozen? ⟨w.heap.size + 1 + 1, 3, none⟩ = false := (hb1.frozen (by simp)).trans (by go_simp)
  have r4 : w1.cell? ⟨w.heap.size + 1 + 1, 4, none⟩ = some (.slice none 0 0) := (hb1.cell (by simp)).trans (by go_simp)
  have s4 : w1.frozen? ⟨w.heap.size + 1 + 1, 4, none⟩ = false := (hb1.frozen (by simp)).trans (by go_simp)
  have hall : RowKit.Below w.heap.size w w1 := hb0.trans (hb1.mono (by simp; omega))
  have HL := hid hall
  clear hall hb1 hb0 h1 h2 hdec
  go_wp2
  exact bodyPost_ret (v := .agg #[.int .u8 6, .bool false, .int .i64 0, .int .i64 0, .slice (some ⟨g, 0, none⟩) n cap]) (by simp [results, Ybad.results6, go_sem, r0, r1, r2, r3, r4]) rfl
    ⟨rfl, ((((HL.out.setCell (by simp; omega) _).setCell (by simp; omega) _).setCell (by simp; omega) _).setCell (by simp; omega) _).setCell (by simp; omega) _⟩

/-- v.without(e). -/
theorem without6 (g n cap : Nat) (x : Nat → V) (y : V) (w : World) (hV : VC w g n x) (hg : g < w.heap.size) (hn : n ≤ 1024) (hcap : n ≤ cap) (hA : Asc n x) :
    Calls Ybad.prog 6 #[.agg #[.int .u8 6, .bool false, .int .i64 0, .int .i64 0, .slice (some ⟨g, 0, none⟩) n cap], .agg (encV y).toArray] w fun e w' =>
      ∃ g' n' cap' x', e = .returned (.agg #[.int .u8 6, .bool false, .int .i64 0, .int .i64 0, .slice (some ⟨g', 0, none⟩) n' cap']) ∧ g' < w'.heap.size ∧ VC w' g' n' x' ∧ lst n' x' = rem (lst n x) y ∧ RowKit.Below w.heap.size w w' := by
  by_cases hex : ∃ i, i < n ∧ x i = y
  · obtain ⟨i, hi, hxi⟩ := hex
    obtain ⟨n1, rfl⟩ : ∃ n1, n = n1 + 1 := ⟨n - 1, by omega⟩
    have hr := rem_at hA hi hxi
    by_cases hlast : i = n1
    · subst hlast
      have hr' : lst i (fun k => if k < i then x k else x (k + 1)) = lst i x := lst_congr fun k hk => by simp [hk]
      rw [hr'] at hr
      rcases Nat.eq_or_lt_of_le hcap with h | h
      · subst h
        exact (without_last_eq g i x y w hV hg hn hA hxi).mono fun e w' ⟨g', he, _, hg', hv, hb⟩ => ⟨g', i, i, x, he, hg', hv, hr.symm, hb⟩
      · exact (without_last_lt g i cap x y w hV hg hn h hA hxi).mono fun e w' ⟨g', he, _, hg', hv, hb⟩ => ⟨g', i, i, x, he, hg', hv, hr.symm, hb⟩
    · exact (without_found g n1 cap x y i w hV hg hn hcap hA (by omega) hxi).mono fun e w' ⟨g', he, _, hg', hv, hb⟩ => ⟨g', n1, n1, _, he, hg', hv, hr.symm, hb⟩
  · have hno : ∀ i, i < n → x i ≠ y := fun i hi e => hex ⟨i, hi, e⟩
    exact (without_none g n cap x y w hV hg hn hA hno).mono fun e w' ⟨he, hb⟩ => ⟨g, n, cap, x, he, Nat.lt_of_lt_of_le hg hb.size, hV.below hb hg, (rem_self hno).symm, hb⟩

end Go.Proofs.YbulkbjvgDoor
