import Derived.Test.YbulkbjxkNames
import Derived.Deep.Strs
import Derived.SizedLaws
namespace Go.Proofs.Ybulkbjxk
open Go.RowKit Go.Deep

theorem cells23 : Yba.prog.cellsOf 23 = 1 := by kernel_rfl
theorem cells9 : Yba.prog.cellsOf 9 = 1 := by kernel_rfl
theorem bytes9 : Yba.prog.bytesOf 9 = 16 := by kernel_rfl

theorem cell_lt {W : World} {a : Addr} {v : Value} (h : W.cell? a = some v) : a.block < W.heap.size := by
  rcases Nat.lt_or_ge a.block W.heap.size with h' | h'
  · exact h'
  · simp [World.cell?, Array.getElem?_eq_none h'] at h

theorem weights_all {H : Type} (P : Program) (e : TypeId) (d : DataW H) (n : Nat) (hn : n ∈ d.weights P e) : ∀ l : List (DataW H), d ∈ l → n ∈ DataW.weightsAll P e l
  | [], h => by simp at h
  | d0 :: l, h => by
    rw [DataW.weightsAll, List.mem_append]
    rcases List.mem_cons.1 h with rfl | h
    · exact Or.inl hn
    · exact Or.inr (weights_all P e d n hn l h)

theorem open_ros {H : Type} {enc : TypeId × Value → H} {W : World} {fuel : Nat} {cs : List Value} {x : DataW H × List MemPlace} (h : DataW.trod enc Yba.prog W 0 (fun _ => true) true fuel 22 cs = some x) :
    cs = [.slice none 0 0] ∨ ∃ (a : Addr) (len cap : Nat) (A : Nat → Option Addr) (L C IB OI : Nat → Nat) (S : Nat → Nat → ByteArray), cs = [.slice (some a) len cap] ∧
      (0 < len → ∃ b off, a = ⟨b, off, none⟩ ∧ Ros W W.heap.size b off len A L C IB OI S) ∧ (∀ i, i < len → A i = none → L i = 0 ∧ C i = 0) ∧
      ∀ B, (∀ n ∈ x.1.weights Yba.prog 22, n ≤ B) → ∀ i, i < len → L i * 16 ≤ B := by
  rcases open_slice1 Yba.underlying22 cells23 h with ⟨h0, _⟩ | ⟨a, len, cap, m, n, V, D, Pl, rfl, _, hl, _, hm, rfl, hx⟩
  · exact Or.inl h0
  right
  simp only [if_true] at hm
  have hmm := hm.symm
  subst hmm
  have each : ∀ i, i < len → ∃ y : Option Addr × Nat × Nat × (Nat → ByteArray), V i = .slice y.1 y.2.1 y.2.2.1 ∧ (y.1 = none → y.2.1 = 0 ∧ y.2.2.1 = 0) ∧
      (∀ a', y.1 = some a' → ∀ j, j < y.2.1 → W.cell? (a'.add j) = some (.string (y.2.2.2 j))) ∧ ∀ B, (∀ n ∈ (D i).weights Yba.prog 23, n ≤ B) → y.2.1 * 16 ≤ B := by
    intro i hi
    rcases open_strs Yba.underlying23 Yba.underlying9 cells9 (hx i (by omega)).2 with ⟨hcs, _⟩ | ⟨a', len', cap', m', Sx, hcs, _, hl', _, hm', hy, hcell⟩
    · exact ⟨(none, 0, 0, fun _ => ByteArray.empty), by simpa using hcs, fun _ => ⟨rfl, rfl⟩, (fun _ hh => by cases hh), fun B _ => by simp⟩
    · simp only [if_true] at hm'
      refine ⟨(some a', len', cap', Sx), by simpa using hcs, (fun hh => by cases hh), fun a'' hh j hj => ?_, fun B hB => ?_⟩
      · cases hh
        exact (hcell j (by show j < m'; simp only at hj; omega)).1
      · simp only [Prod.mk.injEq] at hy
        rw [hy.1] at hB
        have := hB ((len' + (m' - len')) * 16) (by simp [DataW.weights, Yba.underlying23, bytes9])
        simp only
        omega
  obtain ⟨y, hy⟩ := choose_lt each
  refine ⟨a, len, cap, fun i => (y i).1, fun i => (y i).2.1, fun i => (y i).2.2.1, fun i => ((y i).1.getD ⟨0, 0, none⟩).block, fun i => ((y i).1.getD ⟨0, 0, none⟩).off, fun i => (y i).2.2.2, rfl, fun hpos => ?_, fun i hi => (hy i hi).2.1, fun B hB i hi => ?_⟩
  · have hc0 := (hx 0 (by omega)).1
    obtain ⟨b, off, spot⟩ := a
    have hspot : spot = none := by simpa [Addr.add] using World.cell?_spot hc0
    subst hspot
    have hb := cell_lt hc0
    rw [WideShapes.add_plain] at hb
    have hadr : ∀ i, i < len → 0 < (y i).2.1 → (y i).1 = some ⟨((y i).1.getD ⟨0, 0, none⟩).block, ((y i).1.getD ⟨0, 0, none⟩).off, none⟩ ∧ ((y i).1.getD ⟨0, 0, none⟩).block < W.heap.size := by
      intro i hi hpos
      cases hyi : (y i).1 with
      | none => have := ((hy i hi).2.1 hyi).1; omega
      | some a' =>
        have hc := (hy i hi).2.2.1 a' hyi 0 hpos
        obtain ⟨b', off', spot'⟩ := a'
        have hspot : spot' = none := by simpa [Addr.add] using World.cell?_spot hc
        subst hspot
        have := cell_lt hc
        rw [WideShapes.add_plain] at this
        exact ⟨rfl, this⟩
    refine ⟨b, off, rfl, hb, fun i hi => ?_, hadr, fun i hi j hj => ?_⟩
    · rw [← WideShapes.add_plain, (hx i (by omega)).1, (hy i hi).1]
    · have hj' : j < (y i).2.1 := hj
      obtain ⟨h1, _⟩ := hadr i hi (by omega)
      have hc := (hy i hi).2.2.1 _ h1 j hj'
      rwa [WideShapes.add_plain] at hc
  · refine (hy i hi).2.2.2 B fun n hn => hB n ?_
    have hmem : D i ∈ (List.range len).map D := List.mem_map.2 ⟨i, List.mem_range.2 hi, rfl⟩
    have := weights_all Yba.prog 23 (D i) n hn _ hmem
    simp [DataW.weights, Yba.underlying22, this]

end Go.Proofs.Ybulkbjxk
