import Derived.Test.YbulkbjvgDoorRows
import Derived.StillTailTactics
import Derived.WalkKit
namespace Go.Proofs.YbulkbjvgDoor
open Go.RowKit

theorem hid {p : Prop} (h : p) : Hid p := h

/-- What cmp.Compare gives. -/
def cI (a b : Int) : Int := if a < b then -1 else if b < a then 1 else 0
/-- What compareTruths gives. -/
def cB (a b : Bool) : Int := if a = b then 0 else if a = true then 1 else -1
/-- What cmp.Or gives of five. -/
def orI (a b c d e : Int) : Int := if a ≠ 0 then a else if b ≠ 0 then b else if c ≠ 0 then c else if d ≠ 0 then d else e

theorem cmp22 (a b : Int) (w : World) : Calls Ybad.prog 22 #[.int .u8 a, .int .u8 b] w fun e w' => e = .returned (.int .i64 (cI a b)) ∧ w' = w := by
  by_cases h1 : a < b
  · have hv : cI a b = -1 := by simp [cI, h1]
    rw [hv]
    clear hv
    go_enter Ybad.func22, Ybad.ntmps22
    go_wp2
    go_ret
    exact ⟨rfl, rfl⟩
  · by_cases h2 : b < a
    · have hv : cI a b = 1 := by simp [cI, h1, h2]
      rw [hv]
      clear hv
      go_enter Ybad.func22, Ybad.ntmps22
      go_wp2
      go_ret
      exact ⟨rfl, rfl⟩
    · have hv : cI a b = 0 := by simp [cI, h1, h2]
      rw [hv]
      clear hv
      go_enter Ybad.func22, Ybad.ntmps22
      go_wp2
      go_ret
      exact ⟨rfl, rfl⟩

theorem cmp23 (a b : Int) (w : World) : Calls Ybad.prog 23 #[.int .i64 a, .int .i64 b] w fun e w' => e = .returned (.int .i64 (cI a b)) ∧ w' = w := by
  by_cases h1 : a < b
  · have hv : cI a b = -1 := by simp [cI, h1]
    rw [hv]
    clear hv
    go_enter Ybad.func23, Ybad.ntmps23
    go_wp2
    go_ret
    exact ⟨rfl, rfl⟩
  · by_cases h2 : b < a
    · have hv : cI a b = 1 := by simp [cI, h1, h2]
      rw [hv]
      clear hv
      go_enter Ybad.func23, Ybad.ntmps23
      go_wp2
      go_ret
      exact ⟨rfl, rfl⟩
    · have hv : cI a b = 0 := by simp [cI, h1, h2]
      rw [hv]
      clear hv
      go_enter Ybad.func23, Ybad.ntmps23
      go_wp2
      go_ret
      exact ⟨rfl, rfl⟩

theorem cmp24 (a b : Int) (w : World) : Calls Ybad.prog 24 #[.int .i64 a, .int .i64 b] w fun e w' => e = .returned (.int .i64 (cI a b)) ∧ w' = w := by
  by_cases h1 : a < b
  · have hv : cI a b = -1 := by simp [cI, h1]
    rw [hv]
    clear hv
    go_enter Ybad.func24, Ybad.ntmps24
    go_wp2
    go_ret
    exact ⟨rfl, rfl⟩
  · by_cases h2 : b < a
    · have hv : cI a b = 1 := by simp [cI, h1, h2]
      rw [hv]
      clear hv
      go_enter Ybad.func24, Ybad.ntmps24
      go_wp2
      go_ret
      exact ⟨rfl, rfl⟩
    · have hv : cI a b = 0 := by simp [cI, h1, h2]
      rw [hv]
      clear hv
      go_enter Ybad.func24, Ybad.ntmps24
      go_wp2
      go_ret
      exact ⟨rfl, rfl⟩

theorem truths25 (a b : Bool) (w : World) : Calls Ybad.prog 25 #[.bool a, .bool b] w fun e w' => e = .returned (.int .i64 (cB a b)) ∧ w' = w := by
  cases a <;> cases b
  all_goals
    go_enter Ybad.func25, Ybad.ntmps25
    go_wp2
    go_ret
    exact ⟨rfl, rfl⟩

theorem compareNil26 (w : World) : Calls Ybad.prog 26 #[.slice none 0 0, .slice none 0 0, .func (.func 11) #[] #[]] w fun e w' => e = .returned (.int .i64 0) ∧ w' = w := by
  go_enter Ybad.func26, Ybad.ntmps26
  go_wp2
  refine wp_loop_rounds 1 ?_
  rw [rounds_succ]
  go_wp2
  go_ret
  exact ⟨rfl, rfl⟩

theorem orI_at (v : Nat → Int) (k : Nat) (hk : k < 5) (h : ∀ j, j < k → v j = 0) (hn : v k ≠ 0) : orI (v 0) (v 1) (v 2) (v 3) (v 4) = v k := by
  have e : k = 0 ∨ k = 1 ∨ k = 2 ∨ k = 3 ∨ k = 4 := by omega
  rcases e with rfl | rfl | rfl | rfl | rfl
  · simp [orI, hn]
  · simp [orI, hn, h 0 (by omega)]
  · simp [orI, hn, h 0 (by omega), h 1 (by omega)]
  · simp [orI, hn, h 0 (by omega), h 1 (by omega), h 2 (by omega)]
  · simp [orI, h 0 (by omega), h 1 (by omega), h 2 (by omega), h 3 (by omega)]

theorem orI_zero (v : Nat → Int) (h : ∀ j, j < 5 → v j = 0) : orI (v 0) (v 1) (v 2) (v 3) (v 4) = 0 := by
  simp [orI, h 0 (by omega), h 1 (by omega), h 2 (by omega), h 3 (by omega), h 4 (by omega)]

set_option maxHeartbeats 1000000 in
theorem or21 (g : Nat) (v : Nat → Int) (r : Int) (w : World) (Hr : Hid (r = orI (v 0) (v 1) (v 2) (v 3) (v 4))) (hc : ∀ j, j < 5 → w.cell? ⟨g, j, none⟩ = some (.int .i64 (v j))) :
    Calls Ybad.prog 21 #[.slice (some ⟨g, 0, none⟩) 5 5] w fun e w' => e = .returned (.int .i64 r) ∧ w' = w := by
  go_enter Ybad.func21, Ybad.ntmps21
  go_wp2
  go_loop [8] (fun i => ∃ k : Nat, k ≤ 5 ∧ i = .int .i64 k ∧ Hid (∀ j, j < k → v j = 0)) (fun i => 5 - (intOf i).toNat)
  case atStart => exact ⟨0, by omega, rfl, hid fun j hj => by omega⟩
  case round =>
    obtain ⟨k, hk, rfl, hz⟩ := hrel
    by_cases hlt : k < 5
    · have hck := hc k hlt
      have HC := hid hc
      clear hc
      obtain ⟨x, hx⟩ : ∃ x, x = v k := ⟨_, rfl⟩
      rw [← hx] at hck
      have HX := hid hx
      clear hx
      by_cases h0 : x = 0
      · have hb : (x != 0) = false := by simp [h0]
        have H0 := hid h0
        clear h0
        go_wp2
        go_round
        case rel => exact ⟨k + 1, by omega, by go_num, hid fun j hj => by
          by_cases e : j = k
          · subst e; rw [← HX.out]; exact H0.out
          · exact hz.out j (by omega)⟩
        case measure => simp [intOf]; omega
      · have hb : (x != 0) = true := by simp [h0]
        have H0 := hid h0
        clear h0
        go_wp2
        go_ret
        rw [Hr.out, orI_at v k hlt hz.out (by rw [← HX.out]; exact H0.out), HX.out]
        exact ⟨rfl, rfl⟩
    · have hk5 : k = 5 := by omega
      subst hk5
      go_wp2
      go_ret
      rw [Hr.out, orI_zero v hz.out]
      exact ⟨rfl, rfl⟩
end Go.Proofs.YbulkbjvgDoor
