/- The law LawS3039ALines: proved, for every slice of rosters. -/
import Derived.Test.YbulkbjxkOpen
import Derived.ProofKit
import Derived.OpenShut
namespace Go.Proofs.Ybulkbjxk.lawS3039ALines
open Go.ChangeShapes Go.WideShapes Go.ChangeAt Go.RowKit

theorem own : ownKnob Yba.prog.godebug = none := by kernel_rfl
theorem laidOut : laidOutB Yba.prog = true := by kernel_rfl

set_option maxRecDepth 100000 in
theorem lifted (os : Os) (started : os.Started) (H : Type) (enc : TypeId × Value → H) :
    ReturnsInHanded {} Yba.checked os 3 .any (Rows.lawS3039ALinesSpec.pre6 enc Yba.prog Yba.f3 Rows.lawS3039ALinesRow.domain false) (Rows.lawS3039ALinesSpec.post enc Yba.prog Yba.f3 false true false false) := by
  refine returnsInHanded_of_change_sized (C := Yba.checked) own started (by kernel_rfl) Yba.func3
    (ChangeSpec.witness6 (enc := enc) (C := Yba.checked) false ⟨#[], #[.slice none 0 0], []⟩ 8 (by kernel_rfl) (by kernel_rfl) (by kernel_rfl) (by kernel_rfl)) ?_
  intro W base args ds gs before hval0 hW _ hsz0 _
  have hsz : (DataW.weightsEach Yba.prog (Yba.f3.params.toList ++ Rows.lawS3039ALinesSpec.plain.varTypes Yba.prog) (ds ++ gs)).all (· ≤ reachBytes) = true := hsz0
  clear hsz0
  have hval : ∀ (j : Nat) t v, Yba.f3.params[j]? = some t → args[j]? = some v → Value.okWide Yba.prog W .any base t v := hval0
  have hW' := hW
  obtain ⟨p, q, hA0, hV, rfl, _, _⟩ := hW
  have hA : DataW.TrodAll enc Yba.prog W 0 (fun _ => true) true Yba.f3.params.toList args.toList ds p := hA0
  rw [Yba.params3] at hA hval hsz
  obtain ⟨v0, d0, rfl, rfl, h0⟩ := trodAll_one hA
  obtain ⟨rfl, rfl⟩ := trodVars_none hV
  obtain ⟨a0, len, cap, rfl⟩ := okWide_slice Yba.underlying22 (hval 0 22 v0 rfl rfl)
  have h0k := h0
  obtain ⟨fuel, hf⟩ := h0
  clear hA0 hval0
  simp only [List.append_nil] at hW'
  have hlt : ∀ x ∈ p, x.block < W.heap.size := fun x hx => by simpa using hW'.lt x hx
  have hargs : ∀ (W' : World), Below W.heap.size W W' → DataW.Trod enc Yba.prog W' 0 (fun b => decide (b < W.heap.size)) true 22 (.slice a0 len cap) d0 p :=
    fun W' hn => Below.trod laidOut (by kernel_rfl) (of_decide_eq_true (by kernel_rfl)) h0k hn hlt
  have fin : ∀ e W', (e = Ending.returned (.bool true) ∧ Below W.heap.size W W') →
      ∃ v, e = Ending.returned v ∧ Rows.lawS3039ALinesSpec.post enc Yba.checked.prog Yba.f3 false true false false W #[.slice a0 len cap] v W' := by
    intro e W' ⟨he, hnx⟩
    subst he
    refine ⟨_, rfl, _, _, _, [], p, [], hW', ?_, ?_, rfl, hnx.frame _, fun h => by cases h⟩
    · exact trodAll_mk1 (shut_bool Yba.underlying4 _)
    · exact trodAll_mk1 (hargs _ hnx)
  have hbound : ∀ n ∈ d0.weights Yba.prog 22, n ≤ 140737488355327 := fun n hn => by
    have h1 := List.all_eq_true.1 hsz n (DataW.weights_mem_each (j := 0) (t := 22) rfl rfl n hn)
    have h2 := reachBytes_lt
    have h3 : n ≤ reachBytes := by simpa using h1
    omega
  rcases open_ros hf with hcs | ⟨a, len', cap', A, L, C, IB, OI, S, hcs, hros, hnil, hw⟩
  · simp [Value.cells] at hcs
    obtain ⟨rfl, rfl, rfl⟩ := hcs
    exact (lines_zero none 0 (fun _ => rfl) W).mono fin
  · simp [Value.cells] at hcs
    obtain ⟨rfl, rfl, rfl⟩ := hcs
    by_cases hbig : 1024 < len
    · exact (lines_big (some a) len cap W hbig).mono fin
    · by_cases hl0 : len = 0
      · subst hl0
        exact (lines_zero (some a) cap (fun h => by cases h) W).mono fin
      · obtain ⟨b, off, rfl, hR⟩ := hros (by omega)
        have hL := hw _ hbound
        exact (lines_any b off len cap A L C IB OI S W hR (by omega) (fun i hi => by have := hL i hi; omega)).mono fin

theorem over : Rows.lawS3039ALinesRow.holds Yba.pinned (OpenSpec.ofChange Rows.lawS3039ALinesSpec) :=
  OpenClaim.holds_of_wide 3 Yba.f3 rfl rfl rfl rfl rfl rfl rfl ⟨rfl, rfl, rfl, rfl, rfl⟩ rfl rfl rfl rfl rfl (by kernel_rfl) Yba.func3 (by kernel_rfl)
    (of_decide_eq_true (by kernel_rfl)) (by unfold Func.isWrapper; first | (rw [if_pos (by decide +kernel)]; kernel_rfl) | (rw [if_neg (by decide +kernel)]; exact ⟨rfl, rfl⟩))
    (fun os started H enc _ => lifted os started H enc)

theorem proved : Rows.LawS3039ALinesSaid :=
  over
end Go.Proofs.Ybulkbjxk.lawS3039ALines
