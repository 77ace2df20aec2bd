import Derived.Test.YbulkbjvgDoorCmp
namespace Go.Proofs.YbulkbjvgDoor
open Go.RowKit Go.Sort

def eqV (ka kb : Int) (ta tb : Bool) (pa pb na nb : Int) : Bool := (ka == kb) && (pa == pb) && (na == nb) && (ta == tb)

set_option maxHeartbeats 1000000 in
theorem ceq8 (ka kb : Int) (ta tb : Bool) (pa pb na nb : Int) (w : World) :
    Calls Ybad.prog 8 #[.agg #[.int .u8 ka, .bool ta, .int .i64 pa, .int .i64 na, .slice none 0 0], .agg #[.int .u8 kb, .bool tb, .int .i64 pb, .int .i64 nb, .slice none 0 0]] w fun e w' =>
      e = .returned (.bool (eqV ka kb ta tb pa pb na nb)) ∧ ∃ q os', w' = grow (w.drewN q) os' := by
  cases h1 : (ka == kb)
  · have hv : eqV ka kb ta tb pa pb na nb = false := by simp [eqV, h1]
    rw [hv]
    clear hv
    go_enter Ybad.func8, Ybad.ntmps8
    go_wp2
    go_ret
    exact ⟨rfl, 0, _, by rw [alloc_eq_grow, alloc_eq_grow, grow_grow]; rfl⟩
  · cases h2 : (pa == pb)
    · have hv : eqV ka kb ta tb pa pb na nb = false := by simp [eqV, h2]
      rw [hv]
      clear hv
      go_enter Ybad.func8, Ybad.ntmps8
      go_wp2
      go_ret
      exact ⟨rfl, 0, _, by rw [alloc_eq_grow, alloc_eq_grow, grow_grow]; rfl⟩
    · cases h3 : (na == nb)
      · have hv : eqV ka kb ta tb pa pb na nb = false := by simp [eqV, h3]
        rw [hv]
        clear hv
        go_enter Ybad.func8, Ybad.ntmps8
        go_wp2
        go_ret
        exact ⟨rfl, 0, _, by rw [alloc_eq_grow, alloc_eq_grow, grow_grow]; rfl⟩
      · have hv : eqV ka kb ta tb pa pb na nb = (ta == tb) := by simp [eqV, h1, h2, h3]
        rw [hv]
        clear hv
        cases ta <;> cases tb
        all_goals
          go_enter Ybad.func8, Ybad.ntmps8
          go_wp2
          go_ret
          exact ⟨rfl, 0, _, by rw [alloc_eq_grow, alloc_eq_grow, grow_grow]; rfl⟩

theorem intOf7 (n : Int) (w : World) : Calls Ybad.prog 7 #[.int .i64 n] w fun e w' => e = .returned (.agg #[.int .u8 4, .bool false, .int .i64 0, .int .i64 n, .slice none 0 0]) ∧ ∃ o, w' = w.alloc o := by
  go_enter Ybad.func7, Ybad.ntmps7
  go_wp2
  exact bodyPost_ret (v := .agg #[.int .u8 4, .bool false, .int .i64 0, .int .i64 n, .slice none 0 0]) (by simp [results, Ybad.results7, go_sem]) rfl ⟨rfl, _, rfl⟩

/-- A plain value: its kind (none, a process, a message, a truth, an integer), its truth, its process, its number. -/
abbrev V := Fin 5 × Bool × Int × Int
def encV (x : V) : List Value := [.int .u8 (x.1.val : Int), .bool x.2.1, .int .i64 x.2.2.1, .int .i64 x.2.2.2, .slice none 0 0]

set_option maxHeartbeats 1000000 in
theorem mk9 (k n : Int) (k0 : 0 ≤ k) (k1 : k ≤ 255) (n0 : -128 ≤ n) (n1 : n ≤ 127) : ∃ x : V, ∀ w, Calls Ybad.prog 9 #[.int .u8 k, .int .i8 n] w fun e w' => e = .returned (.agg (encV x).toArray) ∧ ∃ o, w' = w.alloc o := by
  have hr : k % 5 = 0 ∨ k % 5 = 1 ∨ k % 5 = 2 ∨ k % 5 = 3 ∨ k % 5 = 4 := by omega
  rcases hr with h | h | h | h | h
  · refine ⟨(0, false, 0, 0), fun w => ?_⟩
    have hb : (k % 5 == 0) = true := by simp [h]
    clear h
    go_enter Ybad.func9, Ybad.ntmps9
    go_wp2
    exact bodyPost_ret (v := .agg #[.int .u8 0, .bool false, .int .i64 0, .int .i64 0, .slice none 0 0]) (by simp [results, Ybad.results9, go_sem]) rfl ⟨rfl, _, rfl⟩
  · refine ⟨(1, false, n, 0), fun w => ?_⟩
    have hb : (k % 5 == 0) = false := by simp [h]
    have hb1 : (k % 5 == 1) = true := by simp [h]
    clear h
    go_enter Ybad.func9, Ybad.ntmps9
    go_wp2
    exact bodyPost_ret (v := .agg #[.int .u8 1, .bool false, .int .i64 n, .int .i64 0, .slice none 0 0]) (by simp [results, Ybad.results9, go_sem]) rfl ⟨rfl, _, rfl⟩
  · refine ⟨(2, false, wrap64 (IntKind.i8.wrap (n.tdiv 4)), wrap64 (n.tmod 4)), fun w => ?_⟩
    have hb : (k % 5 == 0) = false := by simp [h]
    have hb1 : (k % 5 == 1) = false := by simp [h]
    have hb2 : (k % 5 == 2) = true := by simp [h]
    clear h
    go_enter Ybad.func9, Ybad.ntmps9
    go_wp2
    exact bodyPost_ret (v := .agg #[.int .u8 2, .bool false, .int .i64 (wrap64 (IntKind.i8.wrap (n.tdiv 4))), .int .i64 (wrap64 (n.tmod 4)), .slice none 0 0]) (by simp [results, Ybad.results9, go_sem]) rfl ⟨rfl, _, rfl⟩
  · refine ⟨(3, n.tmod 2 != 0, 0, 0), fun w => ?_⟩
    have hb : (k % 5 == 0) = false := by simp [h]
    have hb1 : (k % 5 == 1) = false := by simp [h]
    have hb2 : (k % 5 == 2) = false := by simp [h]
    have hb3 : (k % 5 == 3) = true := by simp [h]
    clear h
    go_enter Ybad.func9, Ybad.ntmps9
    go_wp2
    exact bodyPost_ret (v := .agg #[.int .u8 3, .bool (n.tmod 2 != 0), .int .i64 0, .int .i64 0, .slice none 0 0]) (by simp [results, Ybad.results9, go_sem]) rfl ⟨rfl, _, rfl⟩
  · refine ⟨(4, false, 0, n), fun w => ?_⟩
    have hb : (k % 5 == 0) = false := by simp [h]
    have hb1 : (k % 5 == 1) = false := by simp [h]
    have hb2 : (k % 5 == 2) = false := by simp [h]
    have hb3 : (k % 5 == 3) = false := by simp [h]
    clear h
    go_enter Ybad.func9, Ybad.ntmps9
    go_wp2
    exact bodyPost_ret (v := .agg #[.int .u8 4, .bool false, .int .i64 0, .int .i64 n, .slice none 0 0]) (by simp [results, Ybad.results9, go_sem]) rfl ⟨rfl, _, rfl⟩
end Go.Proofs.YbulkbjvgDoor
