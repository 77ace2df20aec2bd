import Derived.Test.YbulkbjxkParts
import Derived.Lib.SliceRun
namespace Go.Proofs.Ybulkbjxk
open Go.RowKit

theorem info35 : (Yba.prog.info? 35).map (fun i => (i.zero, i.size, i.bytes)) = some (some (.pointer none), 1, 8) := by kernel_rfl
theorem info60 : (Yba.prog.info? 60).map (fun i => (i.zero, i.size, i.bytes)) = some (some (.agg #[.string ⟨#[]⟩, .string ⟨#[]⟩, .int .i64 0, .int .i64 0]), 4, 48) := by kernel_rfl

theorem make42 (n : Nat) (hn : n ≤ 1024) (w : World) : (Instr.makeSlice 42 (.int .i64 (n : Int)) (.int .i64 (n : Int))).run Yba.prog w =
    .ok (.slice (some ⟨w.heap.size, 0, none⟩) n n) (w.alloc (.cells (madeCells #[.string ⟨#[]⟩, .string ⟨#[]⟩, .int .i64 0, .int .i64 0] (n * 4)) 60)) := by
  obtain ⟨i, hi, hzz⟩ := Option.map_eq_some_iff.1 info60
  simp only [Prod.mk.injEq] at hzz
  obtain ⟨hz, hs, hb⟩ := hzz
  have hr := run_make (P := Yba.prog) w 42 60 i _ Yba.underlying42 hi hz .i64 .i64 n n (by omega) (Int.le_refl _) (by rw [hb]; omega) (by omega)
  simp only [Int.toNat_natCast, hs] at hr
  exact hr

theorem make42_zero (w : World) : (Instr.makeSlice 42 (.int .i64 0) (.int .i64 0)).run Yba.prog w =
    .ok (.slice (some ⟨w.heap.size, 0, none⟩) 0 0) (w.alloc (.cells #[] 60)) := by
  have h := make42 0 (by omega) w
  have e : madeCells #[.string ⟨#[]⟩, .string ⟨#[]⟩, .int .i64 0, .int .i64 0] (0 * 4) = #[] := by simp [madeCells]
  rw [e] at h
  exact h

theorem row_lit (w : World) (c : Array Value) (t : TypeId) : (w.alloc (.cells c t)).rowIs w.heap.size t c.size (fun j => (c[j]?).getD undef) :=
  World.rowIs_alloc w c t _ (fun j hj => by rw [Array.getElem?_eq_getElem hj]; rfl)

theorem built_start (w : World) (len : Nat) (L : Nat → Nat) (S : Nat → Nat → ByteArray) :
    Built ((w.alloc (.cells #[.slice (some ⟨w.heap.size + 1, 0, none⟩) len len, .slice none 0 0, .string ⟨#[]⟩, .int .i64 0, .int .i64 0] 30)).alloc (.cells (madeCells #[.pointer none] len) 35)) w.heap.size len 0 L S := by
  refine ⟨⟨_, (row_lit w #[.slice (some ⟨w.heap.size + 1, 0, none⟩) len len, .slice none 0 0, .string ⟨#[]⟩, .int .i64 0, .int .i64 0] 30).alloc _, rfl⟩, ?_, fun i hi => by omega, fun i hi => by omega⟩
  have h := World.rowIs_made (w.alloc (.cells #[.slice (some ⟨w.heap.size + 1, 0, none⟩) len len, .slice none 0 0, .string ⟨#[]⟩, .int .i64 0, .int .i64 0] 30)) (.pointer none) len 35
  rw [World.size_alloc] at h
  exact ⟨_, h, fun i hi => by omega⟩

theorem made_row (w : World) (n : Nat) : (w.alloc (.cells (madeCells #[.string ⟨#[]⟩, .string ⟨#[]⟩, .int .i64 0, .int .i64 0] (n * 4)) 60)).rowIs w.heap.size 60 (n * 4) (fun j => ((madeCells #[.string ⟨#[]⟩, .string ⟨#[]⟩, .int .i64 0, .int .i64 0] (n * 4))[j]?).getD undef) := by
  have h := row_lit w (madeCells #[.string ⟨#[]⟩, .string ⟨#[]⟩, .int .i64 0, .int .i64 0] (n * 4)) 60
  rw [size_madeCells] at h
  exact h

set_option maxRecDepth 100000 in
set_option maxHeartbeats 1000000 in
theorem build_any (b off len cap : Nat) (A : Nat → Option Addr) (L C IB OI : Nat → Nat) (S : Nat → Nat → ByteArray) (w : World) (hR : Ros w w.heap.size b off len A L C IB OI S) (hlen : len ≤ 1024) (hL : ∀ i, i < len → L i ≤ 1024) :
    Calls Yba.prog 7 #[.slice (some ⟨b, off, none⟩) len cap] w fun e w' => e = .returned (.pointer (some ⟨w.heap.size, 0, none⟩)) ∧ Below w.heap.size w w' ∧ Built w' w.heap.size len len L S ∧ w'.heap.size = w.heap.size + 2 + 2 * len := by
  have hmk := fun W => run_make_row' (P := Yba.prog) 26 35 (.pointer none) 8 Yba.underlying26 info35 rfl .i64 .i64 len (by omega) (by omega) W
  have hnil : ∀ (W : World) (a : Addr) (n c : Nat), (binOp .eql 22 (.slice (some a) n c) (.slice none 0 0)).run Yba.prog W = .ok (.bool false) W := fun W a n c => by
    simpa using Lib.run_eql_slice_nil W _ _ (some a) n c 0 0 Yba.underlying22
  go_enter Yba.func7, Yba.ntmps7
  go_wp2
  go_loopw [22] (fun i wr => ∃ k : Nat, k ≤ len ∧ i = .int .i64 k ∧ Below w.heap.size w wr ∧ Built wr w.heap.size len k L S ∧ wr.heap.size = w.heap.size + 2 + 2 * k)
    (fun i _ => len - (intOf i).toNat)
  case atStart => exact ⟨0, Nat.zero_le _, rfl, ((Below.refl _ _).alloc (Nat.le_refl _) _).alloc (by simp) _, built_start w len L S, by simp⟩
  case round =>
    obtain ⟨k, hk, rfl, hnx, hB, hsz⟩ := hrel
    by_cases hlt : k < len
    · have HB := hid hB
      have HS := hid hsz
      have HN := hid hnx
      have hR' := hR.below hnx
      have ht := hR'.top k hlt
      have hLk := hL k hlt
      have hbw : b < wr.heap.size := Nat.lt_of_lt_of_le hR.hb hnx.size
      have hmk2 := fun W => make42 (L k) hLk W
      clear hB hsz hmk hnil hnx
      by_cases h0 : L k = 0
      · have HL := hid h0
        rw [h0] at ht
        have hmk3 := make42_zero
        clear hmk2
        have hpl : wr.cell? ⟨w.heap.size, 0, none⟩ = some (.slice (some ⟨w.heap.size + 1, 0, none⟩) len len) := HB.out.plan.cell
        obtain ⟨fp, hrp, hfp⟩ := HB.out.parts
        have cp := hrp.cell hlt
        have fr := hrp.frozen k
        have hw1 : w.heap.size + 1 < wr.heap.size := hrp.lt
        have hw0 : w.heap.size < wr.heap.size := by omega
        clear hR' hR hL hLk h0 hrp hfp
        go_wp2
        refine wp_loop_rounds 1 ?_
        rw [rounds_succ]
        go_wp2
        go_roundw
        case rel =>
          have hs := built_step (w1 := wr.alloc (.cells #[] 60)) HB.out HS.out hlt ((Below.refl _ _).alloc (Nat.le_refl _) _) (by simp) ⟨fun j => ((#[] : Array Value)[j]?).getD undef, by rw [HL.out]; exact row_lit wr #[] 60, fun j hj => by rw [HL.out] at hj; omega⟩
            #[.string ⟨#[]⟩, .int .i64 0, .int .i64 0, .int .i64 0, .string ⟨#[]⟩, .slice none 0 0, .slice (some ⟨wr.heap.size, 0, none⟩) 0 0, .slice none 0 0, .pointer none, .bool false, .slice none 0 0, .int .i64 0, .pointer none, .pointer none, .pointer none, .pointer none] rfl (by rw [HL.out]; rfl)
          rw [World.setCell_alloc_past _ _ _ _ hw1, World.size_alloc] at hs
          exact ⟨k + 1, by omega, by go_num, (((HN.out.setCell (by simp) _).alloc (by simp; omega) _).alloc (by simp; omega) _), hs, by have := HS.out; simp; omega⟩
        case measure => simp [intOf]; omega
      · obtain ⟨hA, hib⟩ := hR'.adr k hlt (by omega)
        rw [hA] at ht
        have HR := hid hR'
        clear hR' hA hR hL
        obtain ⟨n, hn⟩ : ∃ n, L k = n := ⟨_, rfl⟩
        rw [hn] at ht h0 hLk hmk2
        have HL := hid hn
        clear hn
        obtain ⟨wo, hwo⟩ : ∃ wo : World, wo = wr := ⟨_, rfl⟩
        subst hwo
        go_wp2
        go_loopw [32] (fun j wi => ∃ m : Nat, m ≤ n ∧ j = .int .i64 m ∧ Below wo.heap.size wo wi ∧ wi.heap.size = wo.heap.size + 1 ∧ ∃ f, wi.rowIs wo.heap.size 60 (n * 4) f ∧ ∀ j, j < m → f (j * 4) = .string (S k j))
          (fun j _ => n - (intOf j).toNat)
        case atStart => exact ⟨0, Nat.zero_le _, rfl, (Below.refl _ _).alloc (Nat.le_refl _) _, by simp, _, made_row wo n, fun j hj => by omega⟩
        case round =>
          obtain ⟨m, hm, rfl, hnx2, hsz2, f, hrow, hf⟩ := hrel
          by_cases hlt2 : m < n
          · have hst : wr.cell? ⟨IB k, OI k + m, none⟩ = some (.string (S k m)) := (hnx2.cell (by exact Nat.lt_of_lt_of_le hib (by have := HS.out; omega))).trans (HR.out.str k hlt m (by have := HL.out; omega))
            have HF := hid hf
            have HS2 := hid hsz2
            have HW := hid hrow
            have c0 := hrow.cell (i := m * 4) (by omega)
            have c1 := hrow.cell (i := m * 4 + 1) (by omega)
            have c2 := hrow.cell (i := m * 4 + 2) (by omega)
            have c3 := hrow.cell (i := m * 4 + 3) (by omega)
            have f0 := hrow.frozen (m * 4)
            have f1 := hrow.frozen (m * 4 + 1)
            have f2 := hrow.frozen (m * 4 + 2)
            have f3 := hrow.frozen (m * 4 + 3)
            clear hf hsz2 hrow
            go_wp2
            obtain ⟨f', hr', hf'⟩ := gr_step HW.out HF.out (.string ⟨#[]⟩) (.int .i64 1) (.int .i64 1)
            go_roundw
            case rel => exact ⟨m + 1, by omega, by go_num, (((hnx2.setCell (by simp) _).setCell (by simp) _).setCell (by simp) _).setCell (by simp) _, by simpa using HS2.out, f', hr', hf'⟩
            case measure => simp [intOf]; omega
          · have hmn : m = n := by omega
            have hpl : wr.cell? ⟨w.heap.size, 0, none⟩ = some (.slice (some ⟨w.heap.size + 1, 0, none⟩) len len) := (hnx2.cell (by exact HB.out.plan.lt)).trans HB.out.plan.cell
            obtain ⟨fp, hrp, hfp⟩ := (HB.out.below hnx2 (by have := HS.out; omega)).parts
            have cp := hrp.cell hlt
            have fr := hrp.frozen k
            have hw1 : w.heap.size + 1 < wr.heap.size := hrp.lt
            have HS2 := hid hsz2
            have HW := hid hrow
            have HF := hid hf
            clear hsz2 hrow hf hfp hrp
            subst hmn
            have hg : Gr wr wo.heap.size (L k) (S k) := by rw [HL.out]; exact ⟨f, HW.out, HF.out⟩
            have HG := hid hg
            clear hg
            go_wp2
            go_roundw
            case rel =>
              exact ⟨k + 1, by omega, by go_num, (((HN.out.trans (hnx2.mono (by have := HS.out; omega))).setCell (by simp) _).alloc (by simp; omega) _),
                built_step HB.out HS.out hlt hnx2 HS2.out HG.out _ rfl (by rw [HL.out]; rfl), by have := HS.out; have := HS2.out; simp; omega⟩
            case measure => simp [intOf]; omega
    · have hkl : k = len := by omega
      subst hkl
      go_wp2
      go_ret
      exact ⟨rfl, hnx, hB, hsz⟩

theorem make26_zero (w : World) : (Instr.makeSlice 26 (.int .i64 0) (.int .i64 0)).run Yba.prog w =
    .ok (.slice (some ⟨w.heap.size, 0, none⟩) 0 0) (w.alloc (.cells #[] 35)) := by
  have h := run_make_row' (P := Yba.prog) 26 35 (.pointer none) 8 Yba.underlying26 info35 rfl .i64 .i64 0 (by omega) (by omega) w
  have e : madeCells #[.pointer none] 0 = #[] := by simp [madeCells]
  rw [e] at h
  exact h

/-- No roster, a slice that is not nil. -/
theorem build_zero (a : Addr) (cap : Nat) (w : World) :
    Calls Yba.prog 7 #[.slice (some a) 0 cap] w fun e w' => e = .returned (.pointer (some ⟨w.heap.size, 0, none⟩)) ∧ Below w.heap.size w w' ∧ ∃ a' c', Pl w' w.heap.size (.slice a' 0 c') := by
  have hnil : ∀ (W : World) (a : Addr) (n c : Nat), (binOp .eql 22 (.slice (some a) n c) (.slice none 0 0)).run Yba.prog W = .ok (.bool false) W := fun W a n c => by
    simpa using Lib.run_eql_slice_nil W _ _ (some a) n c 0 0 Yba.underlying22
  have hmk := make26_zero
  go_enter Yba.func7, Yba.ntmps7
  go_wp2
  refine wp_loop_rounds 1 ?_
  rw [rounds_succ]
  go_wp2
  go_ret
  exact ⟨rfl, ((Below.refl _ _).alloc (Nat.le_refl _) _).alloc (by simp) _, _, _, _, (row_lit w _ 30).alloc _, rfl⟩

/-- A nil slice of rosters. -/
theorem build_nil (w : World) :
    Calls Yba.prog 7 #[.slice none 0 0] w fun e w' => e = .returned (.pointer (some ⟨w.heap.size, 0, none⟩)) ∧ Below w.heap.size w w' ∧ ∃ a' c', Pl w' w.heap.size (.slice a' 0 c') := by
  have hnil : ∀ (W : World), (binOp .eql 22 (.slice none 0 0) (.slice none 0 0)).run Yba.prog W = .ok (.bool true) W := fun W => by
    simpa using Lib.run_eql_slice_nil W _ _ none 0 0 0 0 Yba.underlying22
  go_enter Yba.func7, Yba.ntmps7
  go_wp2
  go_ret
  exact ⟨rfl, (Below.refl _ _).alloc (Nat.le_refl _) _, _, _, _, row_lit w _ 30, rfl⟩

end Go.Proofs.Ybulkbjxk
