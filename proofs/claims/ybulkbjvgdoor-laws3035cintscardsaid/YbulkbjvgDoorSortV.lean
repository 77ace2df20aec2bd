import Derived.Test.YbulkbjvgDoorRemove
import Derived.Test.YbulkbjvgDoorShelfV
namespace Go.Proofs.YbulkbjvgDoor
open Go.RowKit Go.Sort

theorem lt_iff (x y : V) : ltOf cmpV x y = true ↔ ltV x y := by
  unfold ltOf
  rw [decide_eq_true_eq]
  exact cmpV_neg x y
theorem lt_false (x y : V) : ltOf cmpV x y = false ↔ ¬ ltV x y := by
  rw [← lt_iff]; simp

theorem swoV : SWO (ltOf cmpV) where
  irrefl x := (lt_false x x).2 (ltV_irrefl x)
  trans x y z h1 h2 := (lt_iff x z).2 (ltV_trans ((lt_iff x y).1 h1) ((lt_iff y z).1 h2))
  ntrans x y z h1 h2 := by
    rw [lt_false] at *
    intro h
    rcases ltV_total x y with e | e | e
    · exact h1 e
    · rw [e] at h; exact h2 h
    · exact h2 (ltV_trans e h)

theorem cmpLays (blk off size : Nat) (w : World) : CmpLays Ybad.prog 11 #[] encV 5 cmpV blk off size w :=
  fun _ _ _ _ x y => cmp_calls x y _

theorem lst_arr (n : Nat) (x : Nat → V) (i : Nat) (hi : i < n) : (lst n x).toArray[i]! = x i := by
  have h := lst_get n x i hi
  simp [Array.getElem!_eq_getD, Array.getD_eq_getD_getElem?, h]

theorem holds_of_VC {w : World} {g n : Nat} {x : Nat → V} (h : VC w g n x) : HoldsK encV 5 w g 0 (lst n x).toArray := by
  intro t ht
  have ht' : t < n * 5 := by simpa [lst] using ht
  obtain ⟨e, hm⟩ := split5 t
  have hc := h (t / 5) (by omega) (t % 5) hm
  rw [← e] at hc
  rw [get_flatK _ _ _ _ (by simpa [lst] using ht'), lst_arr n x _ (by omega), Nat.zero_add]
  refine ⟨?_, hc.2⟩
  rw [hc.1]
  have hl : t % 5 < (encV (x (t / 5))).length := hm
  simp [List.getElem!_eq_getElem?_getD, List.getElem?_eq_getElem hl]

theorem VC_of_holds {w : World} {g : Nat} {d : Array V} (h : HoldsK encV 5 w g 0 d) : VC w g d.size (fun i => d[i]!) := by
  intro i hi c hc
  have := h.cell hi hc
  rw [Nat.zero_add] at this
  refine ⟨?_, this.2⟩
  rw [this.1]
  have hl : c < (encV d[i]!).length := hc
  simp [List.getElem!_eq_getElem?_getD, List.getElem?_eq_getElem hl]

theorem size_putRowV (w : World) (g : Nat) (d : Array V) : (putRowK encV 5 w g 0 d).heap.size = w.heap.size := by
  unfold putRowK
  simp

theorem below_sorted {w : World} (g : Nat) (hg : g < w.heap.size) (q : Nat) (d : Array V) (os : Array Obj) : RowKit.Below g w (grow (putRowK encV 5 (Sort.ahead w q) g 0 d) os) := by
  refine ⟨rfl, rfl, rfl, ?_, fun k hk => ?_⟩
  · have := size_putRowV (Sort.ahead w q) g d
    have e : (grow (putRowK encV 5 (Sort.ahead w q) g 0 d) os).heap = (putRowK encV 5 (Sort.ahead w q) g 0 d).heap ++ os := rfl
    rw [e, Array.size_append, this]
    show w.heap.size ≤ w.heap.size + os.size
    omega
  · show ((putRowK encV 5 (Sort.ahead w q) g 0 d).heap ++ os)[k]? = w.heap[k]?
    rw [Array.getElem?_append_left (by rw [size_putRowV]; show k < w.heap.size; omega)]
    show (w.heap.modify g _)[k]? = w.heap[k]?
    rw [Array.getElem?_modify, if_neg (by omega)]

theorem sort10 (g n cap : Nat) (x : Nat → V) (w : World) (hV : VC w g n x) (hg : g < w.heap.size) (hn : n ≤ 1024) :
    Calls Ybad.prog 10 #[.slice (some ⟨g, 0, none⟩) n cap, .func (.func 11) #[] #[]] w fun e w' => e = .returned (.tuple #[]) ∧ ∃ x', (∀ i j, i < j → j < n → ¬ ltV (x' j) (x' i)) ∧ VC w' g n x' ∧ RowKit.Below g w w' := by
  have eg : ∀ args w, (callFunc 11 args).run Ybad.prog w = .ok (.enter 11 args) w := enters_of Ybad.func11 (by kernel_rfl) rfl
  have hcon := AnyQ.slices_SortFunc Ybad.sortV 5 Ybad.isAgg28 Ybad.sizeOf28 encV (fun _ => rfl) (fun x v hv => by simp [encV] at hv; rcases hv with rfl | rfl | rfl | rfl | rfl <;> rfl) cmpV swoV 11 #[] g 0 cap (lst n x).toArray w eg (cmpLays g 0 _ w) (holds_of_VC hV) hg (by simp [lst]; omega)
  change Calls Ybad.prog 10 _ _ _ at hcon
  have hsz : (lst n x).toArray.size = n := by simp [lst]
  rw [hsz] at hcon
  refine hcon.mono fun e w' ⟨he, d', q, os, hp, hs, hw⟩ => ⟨he, fun i => d'[i]!, fun i j hij hj => ?_, ?_, ?_⟩
  · exact (lt_false _ _).1 (hs i j (Nat.zero_le _) hij hj)
  · have hd : d'.size = n := by rw [hp.1, hsz]
    have hH : HoldsK encV 5 w' g 0 d' := by
      rw [hw]
      exact holdsK_grow encV 5 _ os g 0 d' (by rw [size_putRowV]; exact hg) (holdsK_putRowK encV 5 _ g 0 _ d' (holdsK_ahead encV 5 w q g 0 _ (holds_of_VC hV)) (by rw [hp.1]))
    have := VC_of_holds hH
    rwa [hd] at this
  · rw [hw]
    exact below_sorted g hg q d' os
end Go.Proofs.YbulkbjvgDoor
