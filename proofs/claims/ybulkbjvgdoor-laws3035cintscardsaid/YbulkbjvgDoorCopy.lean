import Derived.Test.YbulkbjvgDoorSearch
import Derived.Laws.MakeOwn
import Derived.Laws.IdiomCopy
import Derived.Laws.CopyRow
import Derived.Deep.OwnRows
namespace Go.Proofs.YbulkbjvgDoor
open Go.RowKit Go.Sort

theorem info28 : (Ybad.prog.info? 28).map (fun i => (i.zero, i.size, i.bytes)) = some (some (.agg #[.int .u8 0, .bool false, .int .i64 0, .int .i64 0, .slice none 0 0]), 5, 48) := by kernel_rfl

/-- The cells of n plain values, one behind the other. -/
def flat : Nat → (Nat → V) → List Value
  | 0, _ => []
  | n + 1, x => flat n x ++ encV (x n)

theorem encV_len (x : V) : (encV x).length = 5 := rfl
theorem flat_len (x : Nat → V) : ∀ n, (flat n x).length = n * 5
  | 0 => rfl
  | n + 1 => by rw [flat, List.length_append, flat_len x n, encV_len]; omega

theorem flat_get (x : Nat → V) : ∀ n i c, i < n → c < 5 → (flat n x)[i * 5 + c]? = some ((encV (x i)).getD c undef)
  | 0, i, c, h, _ => by omega
  | n + 1, i, c, h, hc => by
    by_cases e : i = n
    · subst e
      rw [flat, List.getElem?_append_right (by rw [flat_len]; omega), flat_len, show i * 5 + c - i * 5 = c by omega, List.getD, List.getElem?_eq_getElem (by rw [encV_len]; exact hc)]
      rfl
    · rw [flat, List.getElem?_append_left (by rw [flat_len]; omega)]
      exact flat_get x n i c (by omega) hc

theorem flat_one (x : Nat → V) : ∀ n, ∀ v ∈ flat n x, v.oneCell' = true
  | 0, v, h => by simp [flat] at h
  | n + 1, v, h => by
    rw [flat, List.mem_append] at h
    rcases h with h | h
    · exact flat_one x n v h
    · simp [encV] at h
      rcases h with rfl | rfl | rfl | rfl | rfl <;> rfl

theorem split5 (t : Nat) : t = t / 5 * 5 + t % 5 ∧ t % 5 < 5 := by omega

theorem flat_src {w : World} {gs os n : Nat} {x : Nat → V} (h : ∀ i, i < n → ∀ c, c < 5 → w.cell? ⟨gs, os + (i * 5 + c), none⟩ = some ((encV (x i)).getD c undef)) :
    ∀ j v, (flat n x)[j]? = some v → w.cell? ((⟨gs, os, none⟩ : Addr).add j) = some v := by
  intro j v hj
  have hlt : j < n * 5 := by
    have := (List.getElem?_eq_some_iff.1 hj).1
    rwa [flat_len] at this
  obtain ⟨e, hm⟩ := split5 j
  rw [e, flat_get x n (j / 5) (j % 5) (by omega) hm] at hj
  rw [WideShapes.add_plain]
  have := h (j / 5) (by omega) (j % 5) hm
  rw [← e] at this
  rw [this]
  exact hj

/-- copy of n plain values. -/
theorem copy_vals (w : World) (ty : TypeId) (gd od gs os n dLen dCap sLen sCap : Nat) (x : Nat → V) (hn : Nat.min sLen dLen = n) (hsrc : ∀ i, i < n → ∀ c, c < 5 → w.cell? ⟨gs, os + (i * 5 + c), none⟩ = some ((encV (x i)).getD c undef))
    (hd : ∀ t, t < n * 5 → (w.cell? ⟨gd, od + t, none⟩).isSome = true) (hf : ∀ t, t < n * 5 → w.frozen? ⟨gd, od + t, none⟩ = false) :
    (Builtin.copy_ #[23, 23] ty #[.slice (some ⟨gd, od, none⟩) dLen dCap, .slice (some ⟨gs, os, none⟩) sLen sCap]).run Ybad.prog w = .ok (.int .i64 (n : Int)) (w.setCells gd od (flat n x)) := by
  have hl := run_loadCells_list (P := Ybad.prog) w ⟨gs, os, none⟩ (flat n x) (flat_src hsrc)
  have hst := run_storeCells_cells (P := Ybad.prog) gd od (flat n x) 0 w (fun j hj => by rw [flat_len] at hj; simpa using hd j hj) (fun j hj => by rw [flat_len] at hj; simpa using hf j hj) (flat_one x n)
  rw [flat_len] at hl
  rw [Nat.add_zero] at hst
  obtain ⟨i, hi, hzz⟩ := Option.map_eq_some_iff.1 info28
  simp only [Prod.mk.injEq] at hzz
  have hs := hzz.2.1
  have hn' : sLen.min dLen = n := hn
  simp [Builtin.copy_, run_underlying Ybad.underlying23, Builtin.lenOf, Builtin.firstCells, sizeOf, typeInfo, hi, hs, hn', hl, hst, goInt]

theorem setCells_below {B : Nat} {w0 : World} (g : Nat) (hB : B ≤ g) : ∀ (vs : List Value) (o : Nat) (w : World), RowKit.Below B w0 w → RowKit.Below B w0 (w.setCells g o vs)
  | [], _, _, h => h
  | v :: r, o, w, h => setCells_below g hB r (o + 1) _ (h.setCell (by exact hB) v)

theorem setCells_size (g : Nat) : ∀ (vs : List Value) (o : Nat) (w : World), (w.setCells g o vs).heap.size = w.heap.size
  | [], _, _ => rfl
  | v :: r, o, w => by rw [World.setCells, setCells_size g r]; simp

theorem setCells_drew (g : Nat) : ∀ (vs : List Value) (o : Nat) (w : World), w.drew.setCells g o vs = (w.setCells g o vs).drew
  | [], _, _ => rfl
  | v :: r, o, w => by rw [World.setCells, World.setCells, World.setCell_drew, setCells_drew g r]

/-- The values that were laid. -/
theorem setCells_in (w : World) (gd od n : Nat) (x : Nat → V) (hd : ∀ t, t < n * 5 → (w.cell? ⟨gd, od + t, none⟩).isSome = true) (i : Nat) (hi : i < n) (c : Nat) (hc : c < 5) :
    (w.setCells gd od (flat n x)).cell? ⟨gd, od + (i * 5 + c), none⟩ = some ((encV (x i)).getD c undef) := by
  have hj : i * 5 + c < (flat n x).length := by rw [flat_len]; omega
  have h := World.cell?_setCells_in gd (flat n x) od w (fun j hj => hd j (by rw [flat_len] at hj; exact hj)) (i * 5 + c) hj
  rw [h]
  have := flat_get x n i c hi hc
  rw [List.getElem?_eq_getElem hj] at this
  exact this

/-- Five zero cells, n times. -/
def zeros5 (n : Nat) : Array Value := madeCells #[.int .u8 0, .bool false, .int .i64 0, .int .i64 0, .slice none 0 0] (n * 5)
theorem size_zeros5 (n : Nat) : (zeros5 n).size = n * 5 := size_madeCells _ _

theorem make23 (n : Nat) (hn : n ≤ 1024) (w : World) : (Instr.makeSlice 23 (.int .i64 (n : Int)) (.int .i64 (n : Int))).run Ybad.prog w =
    .ok (.slice (some ⟨w.heap.size, 0, none⟩) n n) (w.alloc (.cells (zeros5 n) 28)) := by
  obtain ⟨i, hi, hzz⟩ := Option.map_eq_some_iff.1 info28
  simp only [Prod.mk.injEq] at hzz
  obtain ⟨hz, hs, hb⟩ := hzz
  have hr := run_make (P := Ybad.prog) w 23 28 i _ Ybad.underlying23 hi hz .i64 .i64 n n (by omega) (Int.le_refl _) (by rw [hb]; omega) (by omega)
  simp only [Int.toNat_natCast, hs] at hr
  exact hr

/-- A new row: its cells are there, and none is frozen. -/
theorem new_cells (w : World) (c : Array Value) (t : TypeId) (j : Nat) (hj : j < c.size) : ((w.alloc (.cells c t)).cell? ⟨w.heap.size, j, none⟩).isSome = true ∧ (w.alloc (.cells c t)).frozen? ⟨w.heap.size, j, none⟩ = false := by
  rw [World.cell?_alloc_at _ _ _ _ rfl, World.frozen?_alloc_at _ _ _ _ rfl]
  simp [hj]

end Go.Proofs.YbulkbjvgDoor
