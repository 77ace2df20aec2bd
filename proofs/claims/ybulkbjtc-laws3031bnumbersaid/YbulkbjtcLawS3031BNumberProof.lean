/- The law LawS3031BNumber: proved, for every slice of names, every query, every pick. -/
import Derived.Test.YbulkbjtcNumWalk
import Derived.ProofKit
import Derived.OpenShut
import Derived.ShutString
import Derived.SizedLaws
namespace Go.Proofs.Ybulkbjtc.lawS3031BNumber
open Go.ChangeShapes Go.WideShapes Go.ChangeAt Go.RowKit
open Go.ChangeMaps (open_string shut_string)

theorem own : ownKnob Yba.prog.godebug = none := by kernel_rfl
theorem laidOut : laidOutB Yba.prog = true := by kernel_rfl
theorem cells9 : Yba.prog.cellsOf 9 = 1 := by kernel_rfl

theorem any_calls (a : Option Addr) (len cap : Nat) (ss : List ByteArray) (q : ByteArray) (pk : Int) (W : World) (hz : len ≤ ss.length) (hws : ∀ s ∈ ss, s.size ≤ maxLen) (hq : q.size ≤ maxLen) (p0 : 0 ≤ pk) (p1 : pk ≤ 255)
    (hcell : 0 < len → ∃ b off, a = some ⟨b, off, none⟩ ∧ b < W.heap.size ∧ ∀ j, j < ss.length → W.cell? ⟨b, off + j, none⟩ = some (.string (ss.getD j ByteArray.empty))) :
    Calls Yba.prog 3 #[.slice a len cap, .string q, .int .u8 pk] W fun e w' => e = .returned (.bool true) ∧ Below W.heap.size W w' := by
  by_cases h1 : 1024 < len
  · exact num_big a len cap q pk W h1
  · by_cases h0 : len = 0
    · subst h0
      exact num_zero a cap q pk W hq p0 p1
    · obtain ⟨b, off, rfl, hb, hc⟩ := hcell (by omega)
      cases hp : (pk % 2 == 0)
      · exact num_odd b off len cap ss q pk W (by omega) hz hb hc hws hq p0 p1 hp
      · exact num_even b off len cap ss q pk W (by omega) hz hb hc hws p0 p1 hp (by omega)

set_option maxRecDepth 100000 in
theorem lifted (os : Os) (started : os.Started) (H : Type) (enc : TypeId × Value → H) :
    ReturnsInHanded {} Yba.checked os 3 .any (Rows.lawS3031BNumberSpec.pre6 enc Yba.prog Yba.f3 Rows.lawS3031BNumberRow.domain false) (Rows.lawS3031BNumberSpec.post enc Yba.prog Yba.f3 false true false false) := by
  refine returnsInHanded_of_change (C := Yba.checked) own started (by kernel_rfl) Yba.func3
    (ChangeSpec.witness6 (enc := enc) (C := Yba.checked) false ⟨#[], #[.slice none 0 0, .string ByteArray.empty, .int .u8 0], []⟩ 8 (by kernel_rfl) (by kernel_rfl) (by kernel_rfl) (by kernel_rfl)) ?_
  intro W base args ds gs before hval0 hW _ _
  have hval : ∀ (j : Nat) t v, Yba.f3.params[j]? = some t → args[j]? = some v → Value.okWide Yba.prog W .any base t v := hval0
  have hW' := hW
  obtain ⟨p, q, hA0, hV, rfl, _, _⟩ := hW
  have hA : DataW.TrodAll enc Yba.prog W 0 (fun _ => true) true Yba.f3.params.toList args.toList ds p := hA0
  rw [Yba.params3] at hA hval
  obtain ⟨v0, vs0, d0, ds0, p0, q0, hargs0, rfl, rfl, h0, r0⟩ := trodAll_cons hA
  obtain ⟨v1, vs1, d1, ds1, p1, q1, rfl, rfl, rfl, h1, r1⟩ := trodAll_cons r0
  obtain ⟨v2, vs2, d2, ds2, p2, q2, rfl, rfl, rfl, h2, r2⟩ := trodAll_cons r1
  obtain ⟨rfl, rfl, rfl⟩ := trodAll_nil r2
  obtain rfl : args = #[v0, v1, v2] := by cases args; simp_all
  obtain ⟨rfl, rfl⟩ := trodVars_none hV
  obtain ⟨a0, len, cap, rfl⟩ := okWide_slice Yba.underlying22 (hval 0 22 v0 rfl rfl)
  obtain ⟨sq, rfl, rfl, rfl, hsq⟩ := open_string Yba.underlying9 (hval 1 9 v1 rfl rfl) h1
  obtain ⟨pk, rfl, rfl, rfl, wpk⟩ := open_int Yba.underlying5 (hval 2 5 v2 rfl rfl) h2
  have hpk : 0 ≤ pk ∧ pk ≤ 255 := by simpa [Lit.wf, IntKind.min, IntKind.max, IntKind.signed, IntKind.bits] using wpk
  have h0k := h0
  obtain ⟨fuel, hf⟩ := h0
  clear hA0 hval0
  simp only [List.append_nil] at hW'
  have hlt : ∀ x ∈ p0, x.block < W.heap.size := fun x hx => by simpa using hW'.lt x (by simpa using hx)
  have hargs : ∀ (W' : World), Below W.heap.size W W' → DataW.Trod enc Yba.prog W' 0 (fun b => decide (b < W.heap.size)) true 22 (.slice a0 len cap) d0 p0 :=
    fun W' hn => Below.trod laidOut (by kernel_rfl) (of_decide_eq_true (by kernel_rfl)) h0k hn hlt
  have fin : ∀ e W', (e = Ending.returned (.bool true) ∧ Below W.heap.size W W') →
      ∃ v, e = Ending.returned v ∧ Rows.lawS3031BNumberSpec.post enc Yba.checked.prog Yba.f3 false true false false W #[.slice a0 len cap, .string sq, .int .u8 pk] v W' := by
    intro e W' ⟨he, hnx⟩
    subst he
    refine ⟨_, rfl, _, _, _, [], p0, [], hW', ?_, ?_, rfl, hnx.frame _, fun h => by cases h⟩
    · exact trodAll_mk1 (shut_bool Yba.underlying4 _)
    · have h3 := trodAll_mk3 (hargs _ hnx) (shut_string Yba.underlying9 hsq) (shut_int Yba.underlying5 wpk)
      simp only [List.append_nil] at h3
      exact h3
  rcases open_strings Yba.underlying22 Yba.underlying9 cells9 hf with ⟨hcs, hx⟩ | ⟨a, len', cap', ss, hcs, _, hl, hm, hz, hx, hcell, hws⟩
  · simp [Value.cells] at hcs
    obtain ⟨rfl, rfl, rfl⟩ := hcs
    exact (any_calls none 0 0 [] sq pk W (Nat.le_refl _) (by simp) hsq hpk.1 hpk.2 (fun h => by omega)).mono fin
  · simp [Value.cells] at hcs
    obtain ⟨rfl, rfl, rfl⟩ := hcs
    simp only [Prod.mk.injEq] at hx
    obtain ⟨rfl, rfl⟩ := hx
    simp only [if_true] at hz
    refine (any_calls (some a) len cap ss sq pk W (by omega) hws hsq hpk.1 hpk.2 (fun hpos => ?_)).mono fin
    obtain ⟨b, off, spot⟩ := a
    have hspot : spot = none := by simpa [Addr.add] using World.cell?_spot (hcell 0 (by omega))
    subst hspot
    exact ⟨b, off, rfl, hlt (.cell b off) (MemPlace.mem_row.2 ⟨0, by omega, by simp⟩), fun j hj => by rw [← add_plain]; exact hcell j hj⟩

theorem over : Rows.lawS3031BNumberRow.holds Yba.pinned (OpenSpec.ofChange Rows.lawS3031BNumberSpec) :=
  OpenClaim.holds_of_wide 3 Yba.f3 rfl rfl rfl rfl rfl rfl rfl ⟨rfl, rfl, rfl, rfl, rfl⟩ rfl rfl rfl rfl rfl (by kernel_rfl) Yba.func3 (by kernel_rfl)
    (of_decide_eq_true (by kernel_rfl)) (by unfold Func.isWrapper; first | (rw [if_pos (by decide +kernel)]; kernel_rfl) | (rw [if_neg (by decide +kernel)]; exact ⟨rfl, rfl⟩))
    (fun os started H enc _ => lifted os started H enc)

theorem proved : Rows.LawS3031BNumberSaid :=
  over
end Go.Proofs.Ybulkbjtc.lawS3031BNumber
