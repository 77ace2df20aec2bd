/- The law LawS3035CMixed: its row proved, for every two slices, whatever else is handed in; then its tied card. -/
import Derived.Test.YbulkbjvgDoorMixed
import Derived.Test.YbulkbjvgDoorTie
import Derived.Test.YbulkbjvgDoorCards
import Derived.ProofKit
import Derived.OpenVars
import Derived.LaidMore
import Derived.OpenShut
import Derived.SevenTiedAt
import Derived.Stop.Joined
namespace Go.Proofs.YbulkbjvgDoor.lawS3035CMixed
open Go.ChangeShapes Go.WideShapes Go.ChangeAt Go.RowKit

theorem own : ownKnob Ybad.prog.godebug = none := by kernel_rfl
theorem laidOut : laidOutB Ybad.prog = true := by kernel_rfl

/-- A world that meets the condition: the one that the door leaves. -/
theorem door_met (os : Os) (args : Array Value) : laidMetH Ybad.prog Rows.lawS3035CMixedRow.laid ((World.doorLaid Ybad.prog 400 os).forCall (fun _ _ => 0) ⟨#[], args, []⟩).memory :=
  laidMetH_of_parts3 (fuel := 8) (laidMet_of_run' 8 (by kernel_rfl) (by kernel_rfl)) (by kernel_rfl) (by kernel_rfl)

/-- Arguments read again in a world that has only grown. -/
theorem args_again {H : Type} {enc : TypeId × Value → H} {W W' : World} (hb : Below W.heap.size W W') : ∀ {ts : List TypeId} {vs : List Value} {ds : List (DataW H)} {ps : List MemPlace},
    (∀ t ∈ ts, Ybad.prog.readableRec t = true ∧ t < Ybad.prog.types.size) → DataW.TrodAll enc Ybad.prog W 0 (fun _ => true) true ts vs ds ps → (∀ x ∈ ps, x.block < W.heap.size) →
      DataW.TrodAll enc Ybad.prog W' 0 (fun b => decide (b < W.heap.size)) true ts vs ds ps
  | [], _, _, _, _, h, _ => by
    obtain ⟨rfl, rfl, rfl⟩ := trodAll_nil h
    exact trodAll_mk0
  | t :: ts, _, _, _, ht, h, hlt => by
    obtain ⟨v, vs1, d, ds1, a, b, rfl, rfl, rfl, h1, h2⟩ := trodAll_cons h
    exact ⟨a, b, Below.trod laidOut (ht t List.mem_cons_self).1 (ht t List.mem_cons_self).2 h1 hb (fun x hx => hlt x (List.mem_append_left _ hx)), args_again hb (fun u hu => ht u (List.mem_cons_of_mem _ hu)) h2 (fun x hx => hlt x (List.mem_append_right _ hx)), rfl⟩

theorem types_ok : ∀ t ∈ [33, 34, 5, 4, 5, 35], Ybad.prog.readableRec t = true ∧ t < Ybad.prog.types.size := by
  intro t ht
  have h1 : ([33, 34, 5, 4, 5, 35].all fun t => Ybad.prog.readableRec t) = true := by kernel_rfl
  have h2 : ([33, 34, 5, 4, 5, 35].all fun t => decide (t < Ybad.prog.types.size)) = true := by kernel_rfl
  exact ⟨List.all_eq_true.1 h1 t ht, of_decide_eq_true (List.all_eq_true.1 h2 t ht)⟩

theorem cells5 : Ybad.prog.cellsOf 5 = 1 := by kernel_rfl
theorem cells35 : Ybad.prog.cellsOf 35 = 1 := by kernel_rfl

theorem block_lt {w : World} {a : Addr} {v : Value} (h : w.cell? a = some v) : a.block < w.heap.size := by
  apply Decidable.byContradiction
  intro hn
  have : w.heap[a.block]? = none := Array.getElem?_eq_none (by omega)
  simp [World.cell?, this] at h

theorem ints_of {H : Type} {enc : TypeId × Value → H} {W : World} {t e : TypeId} {k : IntKind} (ht : Ybad.prog.underlying t = some (.slice e)) (he : Ybad.prog.underlying e = some (.int k)) (hc : Ybad.prog.cellsOf e = 1)
    {a : Option Addr} {n c : Nat} {d : DataW H} {p : List MemPlace} (h : DataW.Trod enc Ybad.prog W 0 (fun _ => true) true t (.slice a n c) d p) :
    ∃ z : Nat → Int, ∀ j, j < n → ∃ b, a = some b ∧ b.block < W.heap.size ∧ W.cell? (b.add j) = some (.int k (z j)) ∧ (Lit.int k (z j)).wf = true := by
  obtain ⟨fuel, hf⟩ := h
  rcases open_ints ht he hc hf with ⟨hcs, _⟩ | ⟨b, len, cap, zs, hcs, _, hlc, _, hzl, _, hcell, hwf⟩
  · simp [Value.cells] at hcs
    obtain ⟨rfl, rfl, rfl⟩ := hcs
    exact ⟨fun _ => 0, fun j hj => by omega⟩
  · simp [Value.cells] at hcs
    obtain ⟨rfl, rfl, rfl⟩ := hcs
    simp only [if_true] at hzl
    refine ⟨fun j => zs.getD j 0, fun j hj => ⟨b, rfl, ?_, hcell j (by omega), ?_⟩⟩
    · have := block_lt (hcell j (by omega))
      rwa [block_add] at this
    · refine hwf _ ?_
      have hl : j < zs.length := by omega
      simp [List.getD_eq_getElem?_getD, List.getElem?_eq_getElem hl]

set_option maxRecDepth 100000 in
theorem lifted (os : Os) (started : os.Started) (H : Type) (enc : TypeId × Value → H) :
    ReturnsInHanded {} Ybad.checked os 4 .any (fun w args => (Rows.lawS3035CMixedSpec.pre enc Ybad.prog Ybad.f4 [] false w args ∧ laidMetH Ybad.prog Rows.lawS3035CMixedRow.laid w) ∧ sizedMet enc Ybad.prog Ybad.f4 (OpenSpec.ofChange Rows.lawS3035CMixedSpec) false w args)
      (Rows.lawS3035CMixedSpec.post enc Ybad.prog Ybad.f4 false true false false) := by
  refine returnsInHanded_of_change_and (C := Ybad.checked) (X := fun w _ => laidMetH Ybad.prog Rows.lawS3035CMixedRow.laid w) (fun _ _ _ hh h => h.of_heap hh) own started (by kernel_rfl) Ybad.func4
    (ChangeSpec.witness_shaped (enc := enc) (C := Ybad.checked) (os := os) (X := fun w _ => laidMetH Ybad.prog Rows.lawS3035CMixedRow.laid w) false (World.doorLaid Ybad.prog 400 os) #[.slice none 0 0, .slice none 0 0, .int .u8 0, .bool false, .int .u8 0, .int .i8 0] 8 rfl (World.shaped_of_RefB (by kernel_rfl) (by kernel_rfl)) (by kernel_rfl) (by kernel_rfl) (by kernel_rfl) (door_met os _)) ?_
  intro W base args ds gs before hval0 hW _ _ hL _
  have hval : ∀ (j : Nat) t v, Ybad.f4.params[j]? = some t → args[j]? = some v → Value.okWide Ybad.prog W .any base t v := hval0
  have hW' := hW
  obtain ⟨p, q, hA0, hV, rfl, hfz, hnd⟩ := hW
  have hA : DataW.TrodAll enc Ybad.prog W 0 (fun _ => true) true Ybad.f4.params.toList args.toList ds p := hA0
  have hAk := hA
  rw [Ybad.params4] at hA hval
  have hlt : ∀ x ∈ p ++ q, x.block < W.heap.size := fun x hx => by simpa using hW'.lt x hx
  have hVk : DataW.TrodVars enc Ybad.prog W (fun _ => true) Rows.lawS3035CMixedSpec.vars gs q := hV
  obtain ⟨gv, tv, cs, fu, dv, pv, rfl, _, _, _, _, rfl⟩ := trodVars_one hVk
  obtain ⟨v0, vs0, d0, ds0, p0, p1, hv0, rfl, rfl, h0, hA1⟩ := trodAll_cons hA
  obtain ⟨v1, vs1, d1, ds1, p2, p3, rfl, rfl, rfl, h1, hA2⟩ := trodAll_cons hA1
  obtain ⟨v2, vs2, d2, ds2, p4, p5, rfl, rfl, rfl, h2, hA3⟩ := trodAll_cons hA2
  obtain ⟨v3, vs3, d3, ds3, p6, p7, rfl, rfl, rfl, h3, hA4⟩ := trodAll_cons hA3
  obtain ⟨v4, vs4, d4, ds4, p8, p9, rfl, rfl, rfl, h4, hA5⟩ := trodAll_cons hA4
  obtain ⟨v5, vs5, d5, ds5, p10, p11, rfl, rfl, rfl, h5, hA6⟩ := trodAll_cons hA5
  obtain ⟨rfl, rfl, rfl⟩ := trodAll_nil hA6
  obtain ⟨L⟩ := args
  obtain rfl : L = [v0, v1, v2, v3, v4, v5] := hv0
  obtain ⟨pk, rfl, rfl, rfl, wpk⟩ := open_int Ybad.underlying5 (hval 2 5 v2 rfl rfl) h2
  obtain ⟨mb, rfl, rfl, rfl⟩ := open_bool Ybad.underlying4 (hval 3 4 v3 rfl rfl) h3
  obtain ⟨ek, rfl, rfl, rfl, wek⟩ := open_int Ybad.underlying5 (hval 4 5 v4 rfl rfl) h4
  obtain ⟨en, rfl, rfl, rfl, wen⟩ := open_int Ybad.underlying35 (hval 5 35 v5 rfl rfl) h5
  obtain ⟨ak, lk, ck, rfl⟩ := okWide_slice Ybad.underlying33 (hval 0 33 v0 rfl rfl)
  obtain ⟨an, ln, cn, rfl⟩ := okWide_slice Ybad.underlying34 (hval 1 34 v1 rfl rfl)
  have fin : ∀ e W', (e = Ending.returned (.bool true) ∧ Below W.heap.size W W') →
      ∃ v, e = Ending.returned v ∧ Rows.lawS3035CMixedSpec.post enc Ybad.checked.prog Ybad.f4 false true false false W #[.slice ak lk ck, .slice an ln cn, .int .u8 pk, .bool mb, .int .u8 ek, .int .i8 en] v W' := by
    intro e W' ⟨he, hnx⟩
    subst he
    refine ⟨_, rfl, _, _, _, [], _, _, hW', ?_, args_again hnx (by rw [Ybad.params4]; exact types_ok) hAk (fun x hx => hlt x (List.mem_append_left _ hx)), Below.trodVars laidOut hnx (by kernel_rfl) hVk, hnx.frame _, fun h => by cases h⟩
    exact trodAll_mk1 (shut_bool Ybad.underlying4 _)
  obtain ⟨K, hK⟩ := ints_of Ybad.underlying33 Ybad.underlying5 cells5 h0
  obtain ⟨N, hN⟩ := ints_of Ybad.underlying34 Ybad.underlying35 cells35 h1
  have b1 := bounds_u8 wpk
  have b2 := bounds_u8 wek
  have b3 := bounds_i8 wen
  by_cases hbig : 1024 < lk ∨ 1024 < ln
  · exact (mixed_big ak an lk ln ck cn pk mb ek en W hbig).mono fin
  · refine (mixed_small ak an lk ln ck cn K N pk mb ek en W (by omega) (by omega) ⟨by omega, by omega⟩ ⟨by omega, by omega⟩ ⟨by omega, by omega⟩ (fun j hj => ?_) (fun j hj => ?_)).mono fin
    · obtain ⟨b, e1, e2, e3, e4⟩ := hK j hj
      have := bounds_u8 e4
      exact ⟨b, e1, e2, e3, by omega, by omega⟩
    · obtain ⟨b, e1, e2, e3, e4⟩ := hN j hj
      have := bounds_i8 e4
      exact ⟨b, e1, e2, e3, by omega, by omega⟩

theorem row : Rows.LawS3035CMixedSaid :=
  OpenClaim.holds_of_wide 4 Ybad.f4 rfl rfl rfl rfl rfl rfl rfl ⟨rfl, rfl, rfl, rfl, rfl⟩ rfl rfl rfl rfl rfl (by kernel_rfl) Ybad.func4 (by kernel_rfl)
    (of_decide_eq_true (by kernel_rfl)) (by unfold Func.isWrapper; first | (rw [if_pos (by decide +kernel)]; kernel_rfl) | (rw [if_neg (by decide +kernel)]; exact ⟨rfl, rfl⟩))
    (fun os started H enc _ => lifted os started H enc)

theorem proved : Rows.LawS3035CMixedCardSaid :=
  Claim7.holds_tied_plain_at .later [] [.sentinel] true (true, "3d436e61d371817b34fd81285c4a572dada4f925fe9de07e6e8410361cdd9f2a") false
    row (fun _ h => by cases h) (by kernel_rfl) (fun _ h => by cases h) lawS3035CMixed_row_tie rfl ⟨rfl, rfl⟩ (by kernel_rfl) rfl
    (fun f fn hf hfn => by
      obtain rfl : f = 4 := Option.some.inj ((show Ybad.prog.funcNamed Rows.lawS3035CMixedRow.func = some 4 by kernel_rfl).symm.trans hf) |>.symm
      obtain rfl : fn = Ybad.f4 := (Option.some.inj (Ybad.func4.symm.trans hfn)).symm
      exact ⟨by kernel_rfl, fun j t ht => by
        rw [Ybad.params4] at ht
        have hm : t ∈ [33, 34, 5, 4, 5, 35] := by simpa using Array.mem_of_getElem? ht
        have hall : ([33, 34, 5, 4, 5, 35].all fun u => !Ybad.prog.wantsStandIn u) = true := by kernel_rfl
        exact (show Ybad.prog.wantsStandIn t = false by simpa using List.all_eq_true.1 hall t hm)⟩)
    (by kernel_rfl)
end Go.Proofs.YbulkbjvgDoor.lawS3035CMixed
