import Derived.Test.YbulkbjvgDoorVal
import Derived.Shelf.SlSortCmp.QuietGrown
namespace Go.Proofs.YbulkbjvgDoor
open Go.RowKit Go.Sort

theorem region_tail {P : Program} {id : Nat} {Q : Exit → Act → World → Prop} {a : Act} {w : World} {l : List Oper} (n : Nat) (hm : P.follows .mixedOrders = true) (hB : Region.lexTailB .any l.toArray n = true)
    (h : wpStill P l.toArray w.drew (fun a' => wpList P l.toArray Q (l.drop n) a' w.drew) (l.take n) a) : (Code.region id l.toArray true).wp P Q a w :=
  wp_region_still_tail n hm hB h

/-- A plain value's five cells. -/
def cells5 (k : Int) (t : Bool) (p n : Int) : Array Value := #[.int .u8 k, .bool t, .int .i64 p, .int .i64 n, .slice none 0 0]

theorem five_cells (g : Nat) (w : World) (a b c d e : Int) (t : TypeId) (hg : g = w.heap.size) (j : Nat) (hj : j < 5) :
    (w.alloc (.cells #[.int .i64 a, .int .i64 b, .int .i64 c, .int .i64 d, .int .i64 e] t)).cell? ⟨g, j, none⟩ = some (.int .i64 ([a, b, c, d, e].getD j 0)) := by
  rw [World.cell?_alloc_at _ _ _ _ hg]
  have h : j = 0 ∨ j = 1 ∨ j = 2 ∨ j = 3 ∨ j = 4 := by omega
  rcases h with rfl | rfl | rfl | rfl | rfl <;> rfl

set_option maxRecDepth 100000 in
set_option maxHeartbeats 1000000 in
theorem compare11 (ka kb : Int) (ta tb : Bool) (pa pb na nb : Int) (w : World) (ha : (ka == 7) = false) (hb : (kb == 7) = false) :
    Calls Ybad.prog 11 #[.agg #[.int .u8 ka, .bool ta, .int .i64 pa, .int .i64 na, .slice none 0 0], .agg #[.int .u8 kb, .bool tb, .int .i64 pb, .int .i64 nb, .slice none 0 0]] w fun e w' =>
      e = .returned (.int .i64 (orI (cI ka kb) (cI pa pb) (cI na nb) (cB ta tb) 0)) ∧ ∃ q os', w' = grow (w.drewN q) os' := by
  go_enter Ybad.func11, Ybad.ntmps11
  go_wp2
  refine region_tail 25 (by kernel_rfl) (by kernel_rfl) ?_
  simp only [List.take_succ_cons, List.take_zero, List.drop_succ_cons, List.drop_zero]
  repeat still_step
  still_call (cmp22 ka kb _)
  repeat still_step
  still_call (cmp23 pa pb _)
  repeat still_step
  still_call (cmp24 na nb _)
  repeat still_step
  still_call (truths25 ta tb _)
  repeat still_step
  still_call (compareNil26 _)
  refine wpStill_nil ?_
  go_wp2_with fail
  refine (or21 (w.heap.size + 1 + 1) (fun j => [cI ka kb, cI pa pb, cI na nb, cB ta tb, 0].getD j 0) (orI (cI ka kb) (cI pa pb) (cI na nb) (cB ta tb) 0) _ rfl (fun j hj => ?_)).mono ?_
  · exact five_cells (w.heap.size + 1 + 1) _ _ _ _ _ _ _ (by simp) j hj
  · rintro e w' ⟨rfl, rfl⟩
    go_wp2
    go_ret
    exact ⟨rfl, 1, _, by rw [alloc_eq_grow, alloc_eq_grow, alloc_eq_grow, grow_grow, grow_grow]; rfl⟩
end Go.Proofs.YbulkbjvgDoor
