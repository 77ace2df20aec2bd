import Derived.Test.YbulkbjxkPeople
import Derived.Laws.CopyRow
import Derived.Laws.IdiomCopy
import Derived.BigQuiet
import Derived.LaidEqlPtr
namespace Go.Proofs.Ybulkbjxk
open Go.RowKit

theorem size35 : (Yba.prog.info? 35).map (·.size) = some 1 := by kernel_rfl

/-- copy(before, p.Parts). -/
theorem copy_parts (w1 : World) (p len : Nat) (L : Nat → Nat) (S : Nat → Nat → ByteArray) (hB : Built w1 p len len L S) :
    ∃ w2, (∀ ty, (Builtin.copy_ #[26, 26] ty #[.slice (some ⟨w1.heap.size, 0, none⟩) len len, .slice (some ⟨p + 1, 0, none⟩) len len]).run Yba.prog (w1.alloc (.cells (madeCells #[.pointer none] len) 35)) = .ok (.int .i64 (len : Int)) w2) ∧
      Below w1.heap.size w1 w2 ∧ w2.heap.size = w1.heap.size + 1 ∧ ∀ i, i < len → w2.cell? ⟨w1.heap.size, i, none⟩ = some (.pointer (some ⟨p + 3 + 2 * i, 0, none⟩)) := by
  obtain ⟨f, hr, hf⟩ := hB.parts
  have hlt : p + 1 < w1.heap.size := hr.lt
  have hnew : (w1.alloc (.cells (madeCells #[.pointer none] len) 35)).heap[w1.heap.size]? = some (.cells (madeCells #[.pointer none] len) 35 (0, 0)) := Deep.blk_alloc_new _ _
  have hrun := fun ty => run_copy_row (P := Yba.prog) (w1.alloc (.cells (madeCells #[.pointer none] len) 35)) 26 26 ty 35 w1.heap.size 0 len len ⟨p + 1, 0, none⟩ len len (madeCells #[.pointer none] len) 35
    ((List.range len).map fun i => .pointer (some ⟨p + 3 + 2 * i, 0, none⟩)) Yba.underlying26 size35 hnew (by simp)
    (fun j v hj => by
      simp only [List.getElem?_map, Option.map_eq_some_iff] at hj
      obtain ⟨i, hi, rfl⟩ := hj
      have hil : j < len := by
        rcases Nat.lt_or_ge j len with h | h
        · exact h
        · rw [List.getElem?_eq_none (by simpa using h)] at hi; cases hi
      rw [List.getElem?_range hil] at hi
      cases hi
      have := hB.part (Nat.le_refl _) hil
      have e : (⟨p + 1, 0, none⟩ : Addr).add j = ⟨p + 1, 0 + j, none⟩ := WideShapes.add_plain _ _ _
      rw [e, Nat.zero_add, World.cell?_alloc_past _ _ _ hlt]
      exact this)
    (by simp [size_madeCells]) (by intro v hv; simp at hv; obtain ⟨i, _, rfl⟩ := hv; rfl)
  have ecs : ((madeCells #[.pointer none] len).toList.take 0 ++ ((List.range len).map fun i => Value.pointer (some ⟨p + 3 + 2 * i, 0, none⟩)) ++ (madeCells #[.pointer none] len).toList.drop (0 + ((List.range len).map fun i => Value.pointer (some ⟨p + 3 + 2 * i, 0, none⟩)).length)).toArray = ((List.range len).map fun i => Value.pointer (some ⟨p + 3 + 2 * i, 0, none⟩)).toArray := by
    rw [List.drop_of_length_le (by simp [size_madeCells])]
    simp
  simp only [ecs] at hrun
  have hl : (List.map (fun i => Value.pointer (some ⟨p + 3 + 2 * i, 0, none⟩)) (List.range len)).length = len := by simp
  rw [hl] at hrun
  refine ⟨_, hrun, ?_, by simp, fun i hi => ?_⟩
  · exact ((Below.refl _ _).alloc (Nat.le_refl _) _).trans ⟨rfl, rfl, rfl, by simp, fun k hk => setRow_other _ _ _ _ (by omega)⟩
  · have h := setRow_heap (w1.alloc (.cells (madeCells #[.pointer none] len) 35)) w1.heap.size _ ((List.range len).map fun i => Value.pointer (some ⟨p + 3 + 2 * i, 0, none⟩)).toArray 35 (0, 0) hnew
    exact World.rowIs.cell (n := len) (f := fun i => .pointer (some ⟨p + 3 + 2 * i, 0, none⟩)) ⟨_, h, by simp, fun i hi => by simp [hi]⟩ hi

theorem info50 : (Yba.prog.info? 50).isSome = true := by kernel_rfl

theorem neq_same (a : Addr) (w : World) : (binOp .neq 35 (.pointer (some a)) (.pointer (some a))).run Yba.prog w = .ok (.bool false) w := by
  obtain ⟨j, hj⟩ := Option.isSome_iff_exists.1 info50
  have hp : Yba.prog.underlying 35 = some (.pointer 50) := Yba.underlying35
  have h : ∀ d : Nat, (Op.equalIn (d + 1) 35 (.pointer (some a)) (.pointer (some a))).run Yba.prog w = .ok true w := fun d => by
    simp [Op.equalIn, run_underlying hp, sizeOf, typeInfo, hj, run_sameAddr_same]
  simp only [binOp]
  simp [Op.equal, Op.maxDepth, h 9999]

theorem below_drewN {B : Nat} {a w : World} (h : Below B a w) (n : Nat) : Below B a (w.drewN n) := h.trans ⟨rfl, rfl, rfl, Nat.le_refl _, fun _ _ => rfl⟩

set_option maxRecDepth 100000 in
set_option maxHeartbeats 2000000 in
theorem lines_any (b off len cap : Nat) (A : Nat → Option Addr) (L C IB OI : Nat → Nat) (S : Nat → Nat → ByteArray) (w : World) (hR : Ros w w.heap.size b off len A L C IB OI S) (hlen : len ≤ 1024) (hL : ∀ i, i < len → L i ≤ 140737488355328) :
    Calls Yba.prog 3 #[.slice (some ⟨b, off, none⟩) len cap] w fun e w' => e = .returned (.bool true) ∧ Below w.heap.size w w' := by
  go_enter Yba.func3, Yba.ntmps3
  go_wp2
  go_loop [3, 15] (fun t i => ∃ k : Nat, k ≤ len ∧ i = .int .i64 k ∧ t = .int .i64 (tot L k) ∧ tot L k ≤ 1024) (fun _ i => len - (intOf i).toNat)
  case atStart => exact ⟨0, Nat.zero_le _, rfl, rfl, by simp [tot]⟩
  case round =>
    obtain ⟨k, hk, rfl, rfl, ht⟩ := hrel
    by_cases hlt : k < len
    · have hc := hR.top k hlt
      have hLk := hL k hlt
      have HR := hid hR
      have HL := hid hL
      have htk : tot L (k + 1) = tot L k + L k := rfl
      have HT := hid htk
      clear hR hL htk
      go_wp2
      · go_ret
        exact ⟨rfl, Below.refl _ _⟩
      · go_round
        case rel => exact ⟨k + 1, by omega, by go_num, by rw [HT.out]; go_num, by rw [HT.out]; omega⟩
        case measure => simp [intOf]; omega
    · have hkl : k = len := by omega
      subst hkl
      have HR := hid hR
      have hLt : ∀ i, i < k → L i ≤ 1024 := fun i hi => Nat.le_trans (le_tot L hi) ht
      have HL := hid hLt
      clear hR hL hLt
      go_wp2_with fail
      refine (build_any b off k cap A L C IB OI S w HR.out hlen HL.out).mono ?_
      rintro e w1 ⟨rfl, hb1, hB1, hs1⟩
      obtain ⟨w2, hcopy, hb2, hs2, hcells⟩ := copy_parts w1 w.heap.size k L S hB1
      have hmk := fun W => run_make_row' (P := Yba.prog) 26 35 (.pointer none) 8 Yba.underlying26 info35 rfl .i64 .i64 k (by omega) (by omega) W
      have hpl := hB1.plan.cell
      have hplt : w.heap.size < w1.heap.size := by omega
      have H1 := hid hB1
      have HS1 := hid hs1
      have HS2 := hid hs2
      have HC := hid hcells
      have HB1 := hid hb1
      have HB2 := hid hb2
      clear hB1 hs1 hs2 hcells hb1 hb2
      go_wp2_with fail
      have hB2 : Built w2 w.heap.size k k L S := H1.out.below HB2.out (by have := HS1.out; omega)
      refine (people_any w.heap.size k L S w2 hB2 hlen ht (by have := HS1.out; have := HS2.out; omega)).mono ?_
      rintro e w3 ⟨rfl, hb3, hlt3, hp0, hp1⟩
      have hpl3 : w3.cell? ⟨w.heap.size, 0, none⟩ = some (.slice (some ⟨w.heap.size + 1, 0, none⟩) k k) := (hb3.cell (by exact hB2.plan.lt)).trans hB2.plan.cell
      have hR3 : Ros w3 w.heap.size b off k A L C IB OI S := ((HR.out.below HB1.out).below (HB2.out.mono (by omega))).below (hb3.mono (by have := HS2.out; omega))
      have hB3 : Built w3 w.heap.size k k L S := hB2.below hb3 (by have := HS1.out; have := HS2.out; omega)
      have hcb : ∀ i, i < k → w3.cell? ⟨w1.heap.size, i, none⟩ = some (.pointer (some ⟨w.heap.size + 3 + 2 * i, 0, none⟩)) := fun i hi => (hb3.cell (by show w1.heap.size < w2.heap.size; have := HS2.out; omega)).trans (HC.out i hi)
      have hlast : Below w.heap.size w w3 := (HB1.out.trans (HB2.out.mono (by omega))).trans (hb3.mono (by have := HS2.out; omega))
      have G3 := hid hR3
      have G4 := hid hB3
      have G5 := hid hcb
      have G6 := hid hlast
      have G7 := hid hb3
      clear hR3 hB3 hcb hlast hb3 hB2 hcopy hmk hpl
      go_wp2
      go_loopw [74] (fun i wr => ∃ j : Nat, j ≤ k ∧ i = .int .i64 j ∧ Below w3.heap.size w3 wr) (fun i _ => k - (intOf i).toNat)
      case atStart => exact ⟨0, Nat.zero_le _, rfl, Below.refl _ _⟩
      case round =>
        obtain ⟨j, hj, rfl, hbw⟩ := hrel
        have hs2 := HS2.out
        have hs1 := HS1.out
        have HBW := hid hbw
        by_cases hlt : j < k
        · have cb : wr.cell? ⟨w1.heap.size, j, none⟩ = _ := (hbw.cell (by show w1.heap.size < w3.heap.size; omega)).trans (G5.out j hlt)
          have cp : wr.cell? ⟨w.heap.size + 1, j, none⟩ = _ := (hbw.cell (by show w.heap.size + 1 < w3.heap.size; omega)).trans (G4.out.part (Nat.le_refl _) hlt)
          have cr : wr.cell? ⟨w.heap.size + 3 + 2 * j, 6, none⟩ = _ := (hbw.cell (by exact (G4.out.pt j hlt).lt)).trans (G4.out.pt j hlt).cell
          have ca : wr.cell? ⟨b, off + j, none⟩ = _ := (hbw.cell (by have := G3.out.hb; show b < w3.heap.size; omega)).trans (G3.out.top j hlt)
          have c0 : wr.cell? ⟨w.heap.size, 0, none⟩ = _ := (hbw.cell (by show w.heap.size < w3.heap.size; omega)).trans hpl3
          have c1 : wr.cell? ⟨w2.heap.size, 0, none⟩ = _ := (hbw.cell (by exact hlt3)).trans hp0
          have i0 : (j : Int) < k := by omega
          have i1 : 0 ≤ (j : Int) := by omega
          clear hpl3 hp0 hp1 hbw hs2 hs1
          have hneq := neq_same
          go_wp2
          go_quiet (fail)
          go_wp2
          go_quiet (fail)
          go_wp2
          go_roundw
          case rel => exact ⟨j + 1, by omega, by go_num, below_drewN HBW.out _⟩
          case measure => simp [intOf]; omega
        · have hjk : j = k := by omega
          subst hjk
          go_wp2
          go_ret
          exact ⟨rfl, G6.out.trans (hbw.mono (by omega))⟩

theorem build0 (a : Option Addr) (cap : Nat) (hn : a = none → cap = 0) (w : World) :
    Calls Yba.prog 7 #[.slice a 0 cap] w fun e w' => e = .returned (.pointer (some ⟨w.heap.size, 0, none⟩)) ∧ Below w.heap.size w w' ∧ ∃ a' c', Pl w' w.heap.size (.slice a' 0 c') := by
  cases a with
  | none => rw [hn rfl]; exact build_nil w
  | some a => exact build_zero a cap w

theorem copy_none0 (w : World) (g : Addr) (a' : Option Addr) (c' : Nat) (ty : TypeId) : (Builtin.copy_ #[26, 26] ty #[.slice (some g) 0 0, .slice a' 0 c']).run Yba.prog w = .ok (.int .i64 0) w :=
  run_copy_none (P := Yba.prog) w 26 26 ty 35 (some g) a' 0 0 0 c' Yba.underlying26 size35 (by simp)

set_option maxRecDepth 100000 in
set_option maxHeartbeats 1000000 in
theorem lines_zero (a : Option Addr) (cap : Nat) (hn : a = none → cap = 0) (w : World) :
    Calls Yba.prog 3 #[.slice a 0 cap] w fun e w' => e = .returned (.bool true) ∧ Below w.heap.size w w' := by
  have HN := hid hn
  clear hn
  have hmk := make26_zero
  have hcp := copy_none0
  go_enter Yba.func3, Yba.ntmps3
  go_wp2
  refine wp_loop_rounds 1 ?_
  rw [rounds_succ]
  go_wp2_with fail
  refine (build0 a cap HN.out w).mono ?_
  rintro e w1 ⟨rfl, hb1, a', c', hP⟩
  have hpl := hP.cell
  have hplt := hP.lt
  go_wp2_with fail
  refine (people_zero w.heap.size a' c' _ (hP.of_block (Below.heap_alloc _ _ _ hplt))).mono ?_
  rintro e w' ⟨rfl, rfl⟩
  go_wp2
  refine wp_loop_rounds 1 ?_
  rw [rounds_succ]
  go_wp2
  go_ret
  exact ⟨rfl, (hb1.alloc (by omega) _).alloc (by simp; omega) _⟩

theorem lines_big (a : Option Addr) (len cap : Nat) (w : World) (hbig : 1024 < len) :
    Calls Yba.prog 3 #[.slice a len cap] w fun e w' => e = .returned (.bool true) ∧ Below w.heap.size w w' := by
  go_enter Yba.func3, Yba.ntmps3
  go_wp2
  go_ret
  exact ⟨rfl, Below.refl _ _⟩

end Go.Proofs.Ybulkbjxk
