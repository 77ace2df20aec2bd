import Derived.Test.YbulkbjvgDoorCompact
import Derived.Test.YbulkbjvgDoorShelfV
import Derived.Test.YbulkbjvgDoorRemove
import Derived.Lib.SliceRun
namespace Go.Proofs.YbulkbjvgDoor
open Go.RowKit Go.Sort

theorem flat_getD (x : Nat → V) : ∀ n i c, i < n → c < 5 → (flat n x)[i * 5 + c]? = some ((encV (x i)).getD c undef)
  | n + 1, i, c, hi, hc => by
    show (flat n x ++ encV (x n))[i * 5 + c]? = _
    by_cases e : i = n
    · subst e
      rw [List.getElem?_append_right (by rw [flat_len]; omega), flat_len, Nat.add_sub_cancel_left]
      have : c < (encV (x i)).length := by rw [encV_len]; exact hc
      rw [List.getElem?_eq_getElem this, List.getD_eq_getElem?_getD, List.getElem?_eq_getElem this]; rfl
    · rw [List.getElem?_append_left (by rw [flat_len]; omega)]
      exact flat_getD x n i c (by omega) hc

theorem VC_of_owns {w : World} {g n : Nat} {x : Nat → V} {cur : Array Value} {e : TypeId} (hg : w.heap[g]? = some (.cells cur e (0, 0))) (ht : cur.toList.take (n * 5) = flat n x) : VC w g n x := by
  intro i hi c hc
  have hlt : i * 5 + c < n * 5 := by omega
  have hv : cur[i * 5 + c]? = some ((encV (x i)).getD c undef) := by
    rw [← flat_getD x n i c hi hc, ← ht, List.getElem?_take_of_lt hlt]; simp
  constructor
  · simp [World.cell?, hg, hv]
  · simp [World.frozen?, hg]

theorem news_of_VC {w : World} {g n : Nat} {x : Nat → V} (h : VC w g n x) : ∀ j u, (flat n x)[j]? = some u → w.cell? ⟨g, 0 + j, none⟩ = some u := by
  intro j u hj
  have hlt : j < n * 5 := by
    have := (List.getElem?_eq_some_iff.1 hj).1
    rwa [flat_len] at this
  have h1 := flat_getD x n (j / 5) (j % 5) (by omega) (by omega)
  have h2 := (h (j / 5) (by omega) (j % 5) (by omega)).1
  have e : j / 5 * 5 + j % 5 = j := by omega
  rw [e] at h1 h2
  rw [Nat.zero_add, h2, ← h1, hj]

theorem clone13 (g n cap : Nat) (x : Nat → V) (w : World) (hV : VC w g n x) (hn : n ≤ 1024) :
    Calls Ybad.prog 13 #[.slice (some ⟨g, 0, none⟩) n cap] w fun e w' =>
      ∃ g' cap', e = .returned (.slice (some ⟨g', 0, none⟩) n cap') ∧ w.heap.size ≤ g' ∧ g' < w'.heap.size ∧ VC w' g' n x ∧ RowKit.Below w.heap.size w w' := by
  obtain ⟨i, hi, hzz⟩ := Option.map_eq_some_iff.1 info28
  simp only [Prod.mk.injEq] at hzz
  obtain ⟨hz, hs, hb⟩ := hzz
  have H := AnyE.slices_Clone Ybad.cloneV i _ 5 48 hi hz hs hb rfl (by omega) Ybad.sizeOf28 g 0 n cap (flat n x) w (flat_len x n) (by unfold maxLen; omega) (by omega) (news_of_VC hV) (flat_one x n)
  refine H.mono ?_
  rintro e w' ⟨v', rfl, hown, hne, hbl⟩
  rcases hown.2 with ⟨rfl, _⟩ | ⟨g', cap', cur, rfl, hB, hg', _, _, _, ht⟩
  · exact absurd rfl hne
  · exact ⟨g', cap', rfl, hB, (Array.getElem?_eq_some_iff.1 hg').1, VC_of_owns hg' ht, hbl⟩

end Go.Proofs.YbulkbjvgDoor
