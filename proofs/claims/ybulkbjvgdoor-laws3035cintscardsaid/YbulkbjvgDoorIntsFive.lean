import Derived.Test.YbulkbjvgDoorMixed
import Derived.Test.YbulkbjvgDoorShelfI
import Derived.Lib.OwnBridge
import Derived.Sort.Grow
namespace Go.Proofs.YbulkbjvgDoor
open Go.RowKit Go.Sort

/-- An integer as a plain value. -/
def iV (n : Int) : V := (4, false, 0, n)

/-- The integers of a row, sorted, each once. -/
def once (zs : List Int) : List Int := Lib.compact (zs.mergeSort fun x y => decide (x ≤ y))

theorem once_len (zs : List Int) : (once zs).length ≤ zs.length := by
  have h1 := Lib.compact_length_le (zs.mergeSort fun x y => decide (x ≤ y))
  rw [List.length_mergeSort] at h1
  exact h1

theorem once_nil : once [] = [] := by
  have h := once_len []
  exact List.eq_nil_of_length_eq_zero (by simpa using h)

theorem upTo_lt (d : Array Int) (hd : ∀ i j, i ≤ j → j < d.size → d[i]! ≤ d[j]!) : ∀ m, m ≤ d.size → (Lib.compactUpTo d m).Pairwise (· < ·) ∧ ∀ e ∈ Lib.compactUpTo d m, ∃ j, j < m ∧ e = d[j]!
  | 0, _ => ⟨by simp [Lib.compactUpTo], by simp [Lib.compactUpTo]⟩
  | m + 1, hm => by
    obtain ⟨h1, h2⟩ := upTo_lt d hd m (by omega)
    rw [Lib.compactUpTo_succ]
    by_cases hk : Lib.keeps d m = true
    · rw [if_pos hk]
      refine ⟨List.pairwise_append.2 ⟨h1, List.pairwise_singleton _ _, fun a ha b hb => ?_⟩, fun e he => ?_⟩
      · obtain rfl := List.mem_singleton.1 hb
        obtain ⟨j, hj, rfl⟩ := h2 a ha
        have hne : m = 0 ∨ d[m]! ≠ d[m - 1]! := by simpa [Lib.keeps] using hk
        have h3 := hd j (m - 1) (by omega) (by omega)
        have h4 := hd (m - 1) m (by omega) (by omega)
        rcases hne with h0 | h0
        · omega
        · omega
      · rcases List.mem_append.1 he with he | he
        · obtain ⟨j, hj, e1⟩ := h2 e he
          exact ⟨j, by omega, e1⟩
        · exact ⟨m, by omega, List.mem_singleton.1 he⟩
    · rw [if_neg hk, List.append_nil]
      exact ⟨h1, fun e he => by obtain ⟨j, hj, e1⟩ := h2 e he; exact ⟨j, by omega, e1⟩⟩

theorem once_lt (zs : List Int) : (once zs).Pairwise (· < ·) := by
  have hs := List.pairwise_mergeSort (le := fun x y : Int => decide (x ≤ y)) (fun a b c h1 h2 => by simp at *; omega) (fun a b => by simp; omega) zs
  refine (upTo_lt (zs.mergeSort fun x y => decide (x ≤ y)).toArray (fun i j hij hj => ?_) _ (by simp)).1
  have hj' : j < (zs.mergeSort fun x y => decide (x ≤ y)).length := by simpa using hj
  rw [getElem!_pos _ i (by simpa using (by omega : i < (zs.mergeSort fun x y => decide (x ≤ y)).length)), getElem!_pos _ j hj]
  rcases Nat.lt_or_eq_of_le hij with h | h
  · simpa using List.pairwise_iff_getElem.1 hs i j (by omega) hj' h
  · subst h; exact Int.le_refl _

theorem lt_iV {a b : Int} (h : a < b) : ltV (iV a) (iV b) := by
  exact Or.inr ⟨rfl, Or.inr ⟨rfl, Or.inl h⟩⟩

theorem once_asc (zs : List Int) : Asc (once zs).length (fun i => iV ((once zs).getD i 0)) := by
  intro i j hij hj
  refine lt_iV ?_
  have := List.pairwise_iff_getElem.1 (once_lt zs) i j (by omega) hj hij
  simpa [List.getD_eq_getElem?_getD, List.getElem?_eq_getElem hj, List.getElem?_eq_getElem (show i < (once zs).length by omega)] using this

theorem below_sortedI {w : World} (g : Nat) (hg : g < w.heap.size) (q : Nat) (d : Array Int) (os : Array Obj) : RowKit.Below g w (grow (putRow (Value.int .i64) (Sort.ahead w q) g 0 d) os) := by
  refine ⟨rfl, rfl, rfl, ?_, fun k hk => ?_⟩
  · have e : (grow (putRow (Value.int .i64) (Sort.ahead w q) g 0 d) os).heap = (putRow (Value.int .i64) (Sort.ahead w q) g 0 d).heap ++ os := rfl
    rw [e, Array.size_append, size_putRow]
    show w.heap.size ≤ w.heap.size + os.size
    omega
  · show ((putRow (Value.int .i64) (Sort.ahead w q) g 0 d).heap ++ os)[k]? = w.heap[k]?
    rw [Array.getElem?_append_left (by rw [size_putRow]; show k < w.heap.size; omega)]
    show (w.heap.modify g _)[k]? = w.heap[k]?
    rw [Array.getElem?_modify, if_neg (by omega)]

theorem sort15 (g n cap : Nat) (zs : List Int) (w : World) (hl : zs.length = n) (hn : n ≤ 1024) (hg : g < w.heap.size) (hH : Holds (Value.int .i64) w g 0 zs.toArray) :
    Calls Ybad.prog 15 #[.slice (some ⟨g, 0, none⟩) n cap] w fun e w' => e = .returned (.tuple #[]) ∧ Holds (Value.int .i64) w' g 0 (zs.mergeSort fun x y => decide (x ≤ y)).toArray ∧ RowKit.Below g w w' ∧ g < w'.heap.size := by
  subst hl
  refine (Any.slices_Sort_int Ybad.sortI g 0 cap zs w hH hg (by omega)).mono ?_
  rintro e w' ⟨rfl, q, os, rfl⟩
  have hb := below_sortedI g hg q (zs.mergeSort fun x y => decide (x ≤ y)).toArray os
  refine ⟨rfl, holds_grow _ _ os g 0 _ (by rw [size_putRow]; exact hg) (holds_putRow _ _ g 0 _ _ (holds_ahead _ w q g 0 _ hH) (by simp)), hb, Nat.lt_of_lt_of_le hg hb.size⟩

theorem compact16 (g n cap : Nat) (zs : List Int) (w : World) (hl : zs.length = n) (hn : n ≤ 1024) (hcap : n ≤ cap) (hg : g < w.heap.size) (hH : Holds (Value.int .i64) w g 0 (zs.mergeSort fun x y => decide (x ≤ y)).toArray) :
    Calls Ybad.prog 16 #[.slice (some ⟨g, 0, none⟩) n cap] w fun e w' => ∃ m, ∃ u : Nat → Int, m = (once zs).length ∧ (∀ j, j < m → u j = (once zs).getD j 0) ∧ e = .returned (.slice (some ⟨g, 0, none⟩) m cap) ∧
      (∀ j, j < m → w'.cell? ⟨g, j, none⟩ = some (.int .i64 (u j))) ∧ RowKit.Below g w w' ∧ g < w'.heap.size := by
  have hl2 : (zs.mergeSort fun x y => decide (x ≤ y)).length = n := by rw [List.length_mergeSort]; exact hl
  have H := Any.slices_Compact_int Ybad.compactI g 0 cap (zs.mergeSort fun x y => decide (x ≤ y)) w hH (by omega) (by omega)
  rw [hl2] at H
  refine H.mono ?_
  rintro e w' ⟨rfl, q, rfl⟩
  have hle : (once zs).length ≤ n := by have := once_len zs; omega
  have hHc := holds_putRow (Value.int .i64) _ g 0 _ (once zs ++ List.replicate (n - (once zs).length) 0).toArray (holds_ahead _ w q g 0 _ hH) (by simp; omega)
  refine ⟨_, fun j => (once zs).getD j 0, rfl, fun _ _ => rfl, rfl, fun j hj => ?_, ?_, ?_⟩
  · have hs : j < (once zs ++ List.replicate (n - (once zs).length) 0).toArray.size := by simp; omega
    have h1 := (hHc j hs).1
    rw [Nat.zero_add, getElem!_pos _ j hs] at h1
    refine h1.trans ?_
    simp [List.getElem_append_left hj, List.getElem?_eq_getElem hj]
  · exact Lib.below_putRow (RowKit.Below.refl _ _) (Nat.le_refl _)
  · simpa [putRow, mapBlock, Sort.ahead] using hg

theorem clone14 (b off n c : Nat) (zs : List Int) (w : World) (hl : zs.length = n) (hn : n ≤ 1024) (hc : ∀ j, j < n → w.cell? ⟨b, off + j, none⟩ = some (.int .i64 (zs.getD j 0))) :
    Calls Ybad.prog 14 #[.slice (some ⟨b, off, none⟩) n c] w fun e w' => ∃ g cap, e = .returned (.slice (some ⟨g, 0, none⟩) n cap) ∧ n ≤ cap ∧ w.heap.size ≤ g ∧ g < w'.heap.size ∧ Holds (Value.int .i64) w' g 0 zs.toArray ∧ RowKit.Below w.heap.size w w' := by
  refine (Any.slices_Clone_int Ybad.cloneI b off n c zs w (by omega) (by omega) (fun j hj => hc j (by omega))).mono ?_
  rintro e w' ⟨v', rfl, hown, hnn, hbel⟩
  rw [List.take_of_length_le (by omega)] at hown
  obtain ⟨g, cap, rfl, hbg, hgl, hncap, _, _, hH⟩ := Lib.holds_of_ownsRow hown hnn
  exact ⟨g, cap, rfl, hncap, hbg, hgl, hH, hbel⟩

set_option maxRecDepth 100000 in
set_option maxHeartbeats 4000000 in
theorem ints_pos (b off n c : Nat) (zs : List Int) (w : World) (hl : zs.length = n) (hn : n ≤ 1024) (hc : ∀ j, j < n → w.cell? ⟨b, off + j, none⟩ = some (.int .i64 (zs.getD j 0))) :
    Calls Ybad.prog 5 #[.slice (some ⟨b, off, none⟩) n c] w fun e w' => ∃ g, e = .returned (.slice (some ⟨g, 0, none⟩) (once zs).length (once zs).length) ∧ w.heap.size ≤ g ∧ g < w'.heap.size ∧ VC w' g (once zs).length (fun i => iV ((once zs).getD i 0)) ∧ RowKit.Below w.heap.size w w' := by
  have HC := hid hc
  clear hc
  have HLn := hid hl
  clear hl
  go_enter Ybad.func5, Ybad.ntmps5
  go_wp2_with fail
  refine (clone14 b off n c zs w HLn.out hn HC.out).mono ?_
  rintro e w1 ⟨g, cap, rfl, hncap, hbg, hg1, hH1, hb1⟩
  have H1 := hid (And.intro hH1 (And.intro hb1 (And.intro hg1 hbg)))
  clear hH1 hb1 hg1 hbg HC
  go_wp2_with fail
  refine (sort15 g n cap zs w1 HLn.out hn H1.out.2.2.1 H1.out.1).mono ?_
  rintro e w2 ⟨rfl, hH2, hb2, hg2⟩
  have H2 := hid (And.intro hH2 (And.intro (H1.out.2.1.trans (hb2.mono H1.out.2.2.2)) hg2))
  clear hH2 hb2 hg2
  go_wp2_with fail
  refine (compact16 g n cap zs w2 HLn.out hn hncap H2.out.2.2 H2.out.1).mono ?_
  rintro e w3 ⟨m, u, hmm, hu, rfl, hc3, hb3, hg3⟩
  have H3 := hid (And.intro hc3 (And.intro (H2.out.2.1.trans (hb3.mono H1.out.2.2.2)) (And.intro hg3 (And.intro hmm hu))))
  have hm1 : m ≤ 1024 := by have := once_len zs; have := HLn.out; omega
  clear hc3 hb3 hg3 hmm hu H2
  have hmk := make23 m hm1
  have HZ := hid (zeros_VC w3 m)
  go_wp2_with fail
  clear hmk
  go_loopw [5, 6, 18] (fun _ _ s wr => ∃ k : Nat, ∃ y : Nat → V, k ≤ m ∧ s = .int .i64 k ∧ Hid (VC wr w3.heap.size m y) ∧ Hid (∀ i, i < k → y i = iV (u i)) ∧ Hid (RowKit.Below w3.heap.size w3 wr) ∧ Hid (w3.heap.size < wr.heap.size)) (fun _ _ s _ => m - (intOf s).toNat)
  case atStart => exact ⟨0, _, by omega, rfl, HZ, hid fun i hi => by omega, hid ((RowKit.Below.refl _ _).alloc (Nat.le_refl _) _), hid (by simp)⟩
  case round =>
    obtain ⟨k, y, hkm, rfl, HV, HY, HB, HS⟩ := hrel
    clear HZ
    by_cases hlt : k < m
    · have hi0 : (k : Int) < m := by omega
      have hi1 : (0 : Int) ≤ k := by omega
      have hd : decide ((k : Int) < m) = true := by simp; omega
      have hcu := (HB.out.cell (p := ⟨g, k, none⟩) (by exact H3.out.2.2.1)).trans (H3.out.1 k hlt)
      have HVo := hid fun o => HV.out.al HS.out o
      have d0 := fun o => ((HVo.out o).five hlt).1
      have d1 := fun o => ((HVo.out o).five hlt).2.1
      have d2 := fun o => ((HVo.out o).five hlt).2.2.1
      have d3 := fun o => ((HVo.out o).five hlt).2.2.2.1
      have d4 := fun o => ((HVo.out o).five hlt).2.2.2.2
      have f0 := fun o => ((HVo.out o).fr hlt).1
      have f1 := fun o => ((HVo.out o).fr hlt).2.1
      have f2 := fun o => ((HVo.out o).fr hlt).2.2.1
      have f3 := fun o => ((HVo.out o).fr hlt).2.2.2.1
      have f4 := fun o => ((HVo.out o).fr hlt).2.2.2.2
      go_wp2_with fail
      refine (intOf7 (u k) _).mono ?_
      rintro e w5 ⟨rfl, o, rfl⟩
      go_wp2_with fail
      clear d0 d1 d2 d3 d4 f0 f1 f2 f3 f4 hcu
      go_roundw
      case rel =>
        refine ⟨k + 1, fun i => if i = k then iV (u k) else y i, by omega, by go_num, hid ((HVo.out o).put k (iV (u k))), hid ?_, hid (below_put (HB.out.alloc (Nat.le_of_lt HS.out) o) (Nat.le_refl _) k (iV (u k))), hid (size_put (lt_alloc HS.out o) k (iV (u k)))⟩
        intro i hi
        by_cases e : i = k
        · simp [e]
        · simp only [e, if_false]
          exact HY.out i (by omega)
      case measure => simp [intOf]; omega
    · have hkm' : k = m := by omega
      subst hkm'
      have hd : decide ((k : Int) < k) = false := by simp
      go_wp2_with fail
      go_ret
      have hW : w.heap.size ≤ w3.heap.size := H3.out.2.1.size
      refine ⟨w3.heap.size, by rw [← H3.out.2.2.2.1]; rfl, hW, HS.out, ?_, H3.out.2.1.trans (HB.out.mono hW)⟩
      rw [← H3.out.2.2.2.1]
      exact HV.out.congr fun i hi => by rw [HY.out i hi, H3.out.2.2.2.2 i hi]

set_option maxRecDepth 100000 in
set_option maxHeartbeats 4000000 in
theorem ints_zero (a : Option Addr) (c : Nat) (w : World) (hcl : Calls Ybad.prog 14 #[.slice a 0 c] w fun e w' => ∃ a' c', e = .returned (.slice a' 0 c') ∧ RowKit.Below w.heap.size w w') :
    Calls Ybad.prog 5 #[.slice a 0 c] w fun e w' => ∃ g, e = .returned (.slice (some ⟨g, 0, none⟩) 0 0) ∧ w.heap.size ≤ g ∧ g < w'.heap.size ∧ RowKit.Below w.heap.size w w' := by
  have HC := hid hcl
  clear hcl
  have hmk : ∀ w, (Instr.makeSlice 23 (.int .i64 0) (.int .i64 0)).run Ybad.prog w = .ok (.slice (some ⟨w.heap.size, 0, none⟩) 0 0) (w.alloc (.cells (zeros5 0) 28)) := make23 0 (by omega)
  go_enter Ybad.func5, Ybad.ntmps5
  go_wp2_with fail
  refine HC.out.mono ?_
  rintro e w1 ⟨a', c', rfl, hb1⟩
  have H1 := hid hb1
  clear hb1 HC
  go_wp2_with fail
  refine (Any.slices_Sort_int_none Ybad.sortI a' c' w1).mono ?_
  rintro e w2 ⟨rfl, rfl⟩
  go_wp2_with fail
  refine (Any.slices_Compact_int_empty Ybad.compactI a' c' w2).mono ?_
  rintro e w3 ⟨rfl, rfl⟩
  go_wp2_with fail
  clear hmk
  go_loopw [5, 6, 18] (fun _ _ s wr => s = .int .i64 0 ∧ wr = w3.alloc (.cells (zeros5 0) 28)) (fun _ _ _ _ => 0)
  case atStart => exact ⟨rfl, rfl⟩
  case round =>
    obtain ⟨rfl, rfl⟩ := hrel
    go_wp2_with fail
    go_ret
    exact ⟨_, rfl, H1.out.size, by simp, H1.out.alloc H1.out.size _⟩

theorem ints5 (a : Option Addr) (n c : Nat) (zs : List Int) (w : World) (hl : zs.length = n) (hn : n ≤ 1024) (hc : ∀ j, j < n → ∃ b off, a = some ⟨b, off, none⟩ ∧ w.cell? ⟨b, off + j, none⟩ = some (.int .i64 (zs.getD j 0))) :
    Calls Ybad.prog 5 #[.slice a n c] w fun e w' => ∃ g, e = .returned (.slice (some ⟨g, 0, none⟩) (once zs).length (once zs).length) ∧ w.heap.size ≤ g ∧ g < w'.heap.size ∧ VC w' g (once zs).length (fun i => iV ((once zs).getD i 0)) ∧ RowKit.Below w.heap.size w w' := by
  by_cases h0 : 0 < n
  · obtain ⟨b, off, rfl, _⟩ := hc 0 h0
    refine ints_pos b off n c zs w hl hn fun j hj => ?_
    obtain ⟨b', off', e, h⟩ := hc j hj
    cases e
    exact h
  · obtain rfl : n = 0 := by omega
    obtain rfl : zs = [] := List.eq_nil_of_length_eq_zero hl
    have hcl : Calls Ybad.prog 14 #[.slice a 0 c] w fun e w' => ∃ a' c', e = .returned (.slice a' 0 c') ∧ RowKit.Below w.heap.size w w' := by
      cases a with
      | none => exact (Any.slices_Clone_int_nil Ybad.cloneI 0 c w).mono fun e w' h => ⟨none, 0, h.1, by rw [h.2]; exact RowKit.Below.refl _ _⟩
      | some a =>
        refine (Any.slices_Clone_int_zero Ybad.cloneI a c w).mono ?_
        rintro e w' ⟨v', rfl, hown, hnn, hbel⟩
        rcases hown.2 with ⟨h, _⟩ | ⟨g, cap, cur, rfl, _⟩
        · exact absurd h hnn
        · exact ⟨_, _, rfl, hbel⟩
    refine (ints_zero a c w hcl).mono ?_
    rintro e w' ⟨g, rfl, h1, h2, h3⟩
    rw [once_nil]
    exact ⟨g, rfl, h1, h2, fun i hi => absurd hi (by simp), h3⟩

end Go.Proofs.YbulkbjvgDoor
