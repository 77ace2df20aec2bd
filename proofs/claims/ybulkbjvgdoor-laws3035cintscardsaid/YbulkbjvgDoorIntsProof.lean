/- The law LawS3035CInts: its row proved, for every slice of integers, whatever else is handed in; then its tied card. -/
import Derived.Test.YbulkbjvgDoorInts
import Derived.Test.YbulkbjvgDoorTie
import Derived.Test.YbulkbjvgDoorCards
import Derived.ProofKit
import Derived.OpenVars
import Derived.LaidMore
import Derived.OpenShut
import Derived.SevenTiedAt
import Derived.Stop.Joined
namespace Go.Proofs.YbulkbjvgDoor.lawS3035CInts
open Go.ChangeShapes Go.WideShapes Go.ChangeAt Go.RowKit

theorem own : ownKnob Ybad.prog.godebug = none := by kernel_rfl
theorem laidOut : laidOutB Ybad.prog = true := by kernel_rfl

/-- A world that meets the condition: the one that the door leaves. -/
theorem door_met (os : Os) (args : Array Value) : laidMetH Ybad.prog Rows.lawS3035CIntsRow.laid ((World.doorLaid Ybad.prog 400 os).forCall (fun _ _ => 0) ⟨#[], args, []⟩).memory :=
  laidMetH_of_parts3 (fuel := 8) (laidMet_of_run' 8 (by kernel_rfl) (by kernel_rfl)) (by kernel_rfl) (by kernel_rfl)

/-- Arguments read again in a world that has only grown. -/
theorem args_again {H : Type} {enc : TypeId × Value → H} {W W' : World} (hb : Below W.heap.size W W') : ∀ {ts : List TypeId} {vs : List Value} {ds : List (DataW H)} {ps : List MemPlace},
    (∀ t ∈ ts, Ybad.prog.readableRec t = true ∧ t < Ybad.prog.types.size) → DataW.TrodAll enc Ybad.prog W 0 (fun _ => true) true ts vs ds ps → (∀ x ∈ ps, x.block < W.heap.size) →
      DataW.TrodAll enc Ybad.prog W' 0 (fun b => decide (b < W.heap.size)) true ts vs ds ps
  | [], _, _, _, _, h, _ => by
    obtain ⟨rfl, rfl, rfl⟩ := trodAll_nil h
    exact trodAll_mk0
  | t :: ts, _, _, _, ht, h, hlt => by
    obtain ⟨v, vs1, d, ds1, a, b, rfl, rfl, rfl, h1, h2⟩ := trodAll_cons h
    exact ⟨a, b, Below.trod laidOut (ht t List.mem_cons_self).1 (ht t List.mem_cons_self).2 h1 hb (fun x hx => hlt x (List.mem_append_left _ hx)), args_again hb (fun u hu => ht u (List.mem_cons_of_mem _ hu)) h2 (fun x hx => hlt x (List.mem_append_right _ hx)), rfl⟩

theorem types_ok : ∀ t ∈ [22, 3, 5, 4], Ybad.prog.readableRec t = true ∧ t < Ybad.prog.types.size := by
  intro t ht
  have h1 : ([22, 3, 5, 4].all fun t => Ybad.prog.readableRec t) = true := by kernel_rfl
  have h2 : ([22, 3, 5, 4].all fun t => decide (t < Ybad.prog.types.size)) = true := by kernel_rfl
  exact ⟨List.all_eq_true.1 h1 t ht, of_decide_eq_true (List.all_eq_true.1 h2 t ht)⟩

theorem cells3 : Ybad.prog.cellsOf 3 = 1 := by kernel_rfl

theorem block_lt {w : World} {a : Addr} {v : Value} (h : w.cell? a = some v) : a.block < w.heap.size := by
  apply Decidable.byContradiction
  intro hn
  have : w.heap[a.block]? = none := Array.getElem?_eq_none (by omega)
  simp [World.cell?, this] at h

theorem ints_of {H : Type} {enc : TypeId × Value → H} {W : World} {a : Option Addr} {n c : Nat} {d : DataW H} {p : List MemPlace} (h : DataW.Trod enc Ybad.prog W 0 (fun _ => true) true 22 (.slice a n c) d p) :
    ∃ zs : List Int, zs.length = n ∧ ∀ W', Below W.heap.size W W' → ∀ j, j < n → ∃ b off, a = some ⟨b, off, none⟩ ∧ W'.cell? ⟨b, off + j, none⟩ = some (.int .i64 (zs.getD j 0)) := by
  obtain ⟨fuel, hf⟩ := h
  rcases open_ints Ybad.underlying22 Ybad.underlying3 cells3 hf with ⟨hcs, _⟩ | ⟨b, len, cap, zs, hcs, _, hlc, _, hzl, _, hcell, _⟩
  · simp [Value.cells] at hcs
    obtain ⟨rfl, rfl, rfl⟩ := hcs
    exact ⟨[], rfl, fun _ _ j hj => by omega⟩
  · simp [Value.cells] at hcs
    obtain ⟨rfl, rfl, rfl⟩ := hcs
    simp only [if_true] at hzl
    refine ⟨zs.take n, by simp; omega, fun W' hb j hj => ?_⟩
    obtain ⟨b', off, rfl, hc⟩ := ints_at hcell (by omega)
    refine ⟨b', off, rfl, ?_⟩
    have h1 := hc j (by omega)
    rw [hb.cell (p := ⟨b', off + j, none⟩) (block_lt h1), h1]
    simp [List.getD_eq_getElem?_getD, List.getElem?_take_of_lt hj]

set_option maxRecDepth 100000 in
theorem lifted (os : Os) (started : os.Started) (H : Type) (enc : TypeId × Value → H) :
    ReturnsInHanded {} Ybad.checked os 3 .any (fun w args => (Rows.lawS3035CIntsSpec.pre enc Ybad.prog Ybad.f3 [] false w args ∧ laidMetH Ybad.prog Rows.lawS3035CIntsRow.laid w) ∧ sizedMet enc Ybad.prog Ybad.f3 (OpenSpec.ofChange Rows.lawS3035CIntsSpec) false w args)
      (Rows.lawS3035CIntsSpec.post enc Ybad.prog Ybad.f3 false true false false) := by
  refine returnsInHanded_of_change_and (C := Ybad.checked) (X := fun w _ => laidMetH Ybad.prog Rows.lawS3035CIntsRow.laid w) (fun _ _ _ hh h => h.of_heap hh) own started (by kernel_rfl) Ybad.func3
    (ChangeSpec.witness_shaped (enc := enc) (C := Ybad.checked) (os := os) (X := fun w _ => laidMetH Ybad.prog Rows.lawS3035CIntsRow.laid w) false (World.doorLaid Ybad.prog 400 os) #[.slice none 0 0, .int .i64 0, .int .u8 0, .bool false] 8 rfl (World.shaped_of_RefB (by kernel_rfl) (by kernel_rfl)) (by kernel_rfl) (by kernel_rfl) (by kernel_rfl) (door_met os _)) ?_
  intro W base args ds gs before hval0 hW _ _ hL _
  have hval : ∀ (j : Nat) t v, Ybad.f3.params[j]? = some t → args[j]? = some v → Value.okWide Ybad.prog W .any base t v := hval0
  have hW' := hW
  obtain ⟨p, q, hA0, hV, rfl, hfz, hnd⟩ := hW
  have hA : DataW.TrodAll enc Ybad.prog W 0 (fun _ => true) true Ybad.f3.params.toList args.toList ds p := hA0
  have hAk := hA
  rw [Ybad.params3] at hA hval
  have hlt : ∀ x ∈ p ++ q, x.block < W.heap.size := fun x hx => by simpa using hW'.lt x hx
  have hVk : DataW.TrodVars enc Ybad.prog W (fun _ => true) Rows.lawS3035CIntsSpec.vars gs q := hV
  obtain ⟨gv, tv, cs, fu, dv, pv, rfl, _, _, _, _, rfl⟩ := trodVars_one hVk
  obtain ⟨v0, vs0, d0, ds0, p0, p1, hv0, rfl, rfl, h0, hA1⟩ := trodAll_cons hA
  obtain ⟨v1, vs1, d1, ds1, p2, p3, rfl, rfl, rfl, h1, hA2⟩ := trodAll_cons hA1
  obtain ⟨v2, vs2, d2, ds2, p4, p5, rfl, rfl, rfl, h2, hA3⟩ := trodAll_cons hA2
  obtain ⟨v3, vs3, d3, ds3, p6, p7, rfl, rfl, rfl, h3, hA4⟩ := trodAll_cons hA3
  obtain ⟨rfl, rfl, rfl⟩ := trodAll_nil hA4
  obtain ⟨L⟩ := args
  obtain rfl : L = [v0, v1, v2, v3] := hv0
  obtain ⟨ev, rfl, rfl, rfl, wev⟩ := open_int Ybad.underlying3 (hval 1 3 v1 rfl rfl) h1
  obtain ⟨pk, rfl, rfl, rfl, wpk⟩ := open_int Ybad.underlying5 (hval 2 5 v2 rfl rfl) h2
  obtain ⟨mb, rfl, rfl, rfl⟩ := open_bool Ybad.underlying4 (hval 3 4 v3 rfl rfl) h3
  obtain ⟨a, n, c, rfl⟩ := okWide_slice Ybad.underlying22 (hval 0 22 v0 rfl rfl)
  have fin : ∀ e W', (e = Ending.returned (.bool true) ∧ Below W.heap.size W W') →
      ∃ v, e = Ending.returned v ∧ Rows.lawS3035CIntsSpec.post enc Ybad.checked.prog Ybad.f3 false true false false W #[.slice a n c, .int .i64 ev, .int .u8 pk, .bool mb] v W' := by
    intro e W' ⟨he, hnx⟩
    subst he
    refine ⟨_, rfl, _, _, _, [], _, _, hW', ?_, args_again hnx (by rw [Ybad.params3]; exact types_ok) hAk (fun x hx => hlt x (List.mem_append_left _ hx)), Below.trodVars laidOut hnx (by kernel_rfl) hVk, hnx.frame _, fun h => by cases h⟩
    exact trodAll_mk1 (shut_bool Ybad.underlying4 _)
  obtain ⟨zs, hzl, hzs⟩ := ints_of h0
  have b1 := bounds_u8 wpk
  by_cases hbig : 1024 < n
  · exact (ints_big a n c ev pk mb W hbig).mono fin
  · refine (ints_core a n c ev pk mb (once zs).length (fun i => (once zs).getD i 0) W (by omega) (by have := once_len zs; omega) ⟨by omega, by omega⟩ (once_asc zs) (fun W' hb => ?_)).mono fin
    exact ints5 a n c zs W' hzl (by omega) (hzs W' hb)

theorem row : Rows.LawS3035CIntsSaid :=
  OpenClaim.holds_of_wide 3 Ybad.f3 rfl rfl rfl rfl rfl rfl rfl ⟨rfl, rfl, rfl, rfl, rfl⟩ rfl rfl rfl rfl rfl (by kernel_rfl) Ybad.func3 (by kernel_rfl)
    (of_decide_eq_true (by kernel_rfl)) (by unfold Func.isWrapper; first | (rw [if_pos (by decide +kernel)]; kernel_rfl) | (rw [if_neg (by decide +kernel)]; exact ⟨rfl, rfl⟩))
    (fun os started H enc _ => lifted os started H enc)

theorem proved : Rows.LawS3035CIntsCardSaid :=
  Claim7.holds_tied_plain_at .later [] [.sentinel] true (true, "3d436e61d371817b34fd81285c4a572dada4f925fe9de07e6e8410361cdd9f2a") false
    row (fun _ h => by cases h) (by kernel_rfl) (fun _ h => by cases h) lawS3035CInts_row_tie rfl ⟨rfl, rfl⟩ (by kernel_rfl) rfl
    (fun f fn hf hfn => by
      obtain rfl : f = 3 := Option.some.inj ((show Ybad.prog.funcNamed Rows.lawS3035CIntsRow.func = some 3 by kernel_rfl).symm.trans hf) |>.symm
      obtain rfl : fn = Ybad.f3 := (Option.some.inj (Ybad.func3.symm.trans hfn)).symm
      exact ⟨by kernel_rfl, fun j t ht => by
        rw [Ybad.params3] at ht
        have hm : t ∈ [22, 3, 5, 4] := by simpa using Array.mem_of_getElem? ht
        have hall : ([22, 3, 5, 4].all fun u => !Ybad.prog.wantsStandIn u) = true := by kernel_rfl
        exact (show Ybad.prog.wantsStandIn t = false by simpa using List.all_eq_true.1 hall t hm)⟩)
    (by kernel_rfl)
end Go.Proofs.YbulkbjvgDoor.lawS3035CInts
