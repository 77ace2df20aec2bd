import Derived.Test.YbulkbjvgDoorClone
import Derived.Deep.RegionWith
import Derived.Deep.CutRange
import Derived.Deep.DeepCutAuto
namespace Go.Proofs.YbulkbjvgDoor
open Go.RowKit Go.Sort

set_option maxRecDepth 100000 in
set_option maxHeartbeats 4000000 in
theorem mixed_big (ak an : Option Addr) (lk ln ck cn : Nat) (pk : Int) (mb : Bool) (ek en : Int) (w : World) (h : 1024 < lk ∨ 1024 < ln) :
    Calls Ybad.prog 4 #[.slice ak lk ck, .slice an ln cn, .int .u8 pk, .bool mb, .int .u8 ek, .int .i8 en] w fun e w' => e = .returned (.bool true) ∧ RowKit.Below w.heap.size w w' := by
  by_cases h1 : 1024 < lk
  · have hd : decide ((1024 : Int) < lk) = true := by simp; omega
    have hi : (1024 : Int) < lk := by omega
    go_enter Ybad.func4, Ybad.ntmps4
    go_wp2
    go_ret
    exact ⟨rfl, RowKit.Below.refl _ _⟩
  · have hd : decide ((1024 : Int) < lk) = false := by simp; omega
    have hi : ¬ (1024 : Int) < lk := by omega
    have hd2 : decide ((1024 : Int) < ln) = true := by simp; omega
    have hi2 : (1024 : Int) < ln := by omega
    go_enter Ybad.func4, Ybad.ntmps4
    go_wp2
    go_ret
    exact ⟨rfl, RowKit.Below.refl _ _⟩

theorem block_add (a : Addr) (k : Nat) : (a.add k).block = a.block := by unfold Addr.add; split <;> rfl

theorem VC.al {w : World} {g n : Nat} {x : Nat → V} (h : VC w g n x) (hg : g < w.heap.size) (o : Obj) : VC (w.alloc o) g n x :=
  h.below ((RowKit.Below.refl w.heap.size w).alloc (Nat.le_refl _) o) hg

theorem below_put {B : Nat} {w0 w : World} (h : RowKit.Below B w0 w) {g : Nat} (hg : B ≤ g) (k : Nat) (v : V) :
    RowKit.Below B w0 (((((w.setCell ⟨g, k * 5, none⟩ (.int .u8 (v.1.val : Int))).setCell ⟨g, k * 5 + 1, none⟩ (.bool v.2.1)).setCell ⟨g, k * 5 + 2, none⟩ (.int .i64 v.2.2.1)).setCell ⟨g, k * 5 + 3, none⟩ (.int .i64 v.2.2.2)).setCell ⟨g, k * 5 + 4, none⟩ (.slice none 0 0)) :=
  ((((h.setCell (by exact hg) _).setCell (by exact hg) _).setCell (by exact hg) _).setCell (by exact hg) _).setCell (by exact hg) _

theorem size_put {w : World} {c g : Nat} (h : c < w.heap.size) (k : Nat) (v : V) :
    c < (((((w.setCell ⟨g, k * 5, none⟩ (.int .u8 (v.1.val : Int))).setCell ⟨g, k * 5 + 1, none⟩ (.bool v.2.1)).setCell ⟨g, k * 5 + 2, none⟩ (.int .i64 v.2.2.1)).setCell ⟨g, k * 5 + 3, none⟩ (.int .i64 v.2.2.2)).setCell ⟨g, k * 5 + 4, none⟩ (.slice none 0 0)).heap.size := by
  simpa using h

theorem below_putd {B : Nat} {w0 w : World} (h : RowKit.Below B w0 w) {g : Nat} (hg : B ≤ g) (k : Nat) (v : V) :
    RowKit.Below B w0 (((((w.setCell ⟨g, k * 5, none⟩ (.int .u8 (v.1.val : Int))).setCell ⟨g, k * 5 + 1, none⟩ (.bool v.2.1)).setCell ⟨g, k * 5 + 2, none⟩ (.int .i64 v.2.2.1)).setCell ⟨g, k * 5 + 3, none⟩ (.int .i64 v.2.2.2)).setCell ⟨g, k * 5 + 4, none⟩ (.slice none 0 0)).drew := (below_put h hg k v).drew

theorem size_putd {w : World} {c g : Nat} (h : c < w.heap.size) (k : Nat) (v : V) :
    c < (((((w.setCell ⟨g, k * 5, none⟩ (.int .u8 (v.1.val : Int))).setCell ⟨g, k * 5 + 1, none⟩ (.bool v.2.1)).setCell ⟨g, k * 5 + 2, none⟩ (.int .i64 v.2.2.1)).setCell ⟨g, k * 5 + 3, none⟩ (.int .i64 v.2.2.2)).setCell ⟨g, k * 5 + 4, none⟩ (.slice none 0 0)).drew.heap.size := by
  simpa using h

theorem VC.putd {w : World} {g n : Nat} {x : Nat → V} (h : VC w g n x) (k : Nat) (v : V) :
    VC (((((w.setCell ⟨g, k * 5, none⟩ (.int .u8 (v.1.val : Int))).setCell ⟨g, k * 5 + 1, none⟩ (.bool v.2.1)).setCell ⟨g, k * 5 + 2, none⟩ (.int .i64 v.2.2.1)).setCell ⟨g, k * 5 + 3, none⟩ (.int .i64 v.2.2.2)).setCell ⟨g, k * 5 + 4, none⟩ (.slice none 0 0)).drew g n (fun i => if i = k then v else x i) := (h.put k v).drew

theorem lt_alloc {w : World} {c : Nat} (h : c < w.heap.size) (o : Obj) : c < (w.alloc o).heap.size := by
  simp; omega

theorem box_new (w : World) (v : V) : VC (w.alloc (.cells #[.int .u8 (v.1.val : Int), .bool v.2.1, .int .i64 v.2.2.1, .int .i64 v.2.2.2, .slice none 0 0] 28)) w.heap.size 1 (fun _ => v) := by
  intro i hi c hc
  have hi0 : i = 0 := by omega
  subst hi0
  rw [Nat.zero_mul, Nat.zero_add]
  refine ⟨?_, (new_cells w _ 28 c (by exact hc)).2⟩
  rw [World.cell?_alloc_at _ _ _ _ rfl]
  have hc' : c = 0 ∨ c = 1 ∨ c = 2 ∨ c = 3 ∨ c = 4 := by omega
  rcases hc' with rfl | rfl | rfl | rfl | rfl <;> rfl

theorem VC.box {w : World} {g : Nat} {v : V} (h : VC w g 1 (fun _ => v)) :
    w.cell? ⟨g, 0, none⟩ = some (.int .u8 (v.1.val : Int)) ∧ w.cell? ⟨g, 1, none⟩ = some (.bool v.2.1) ∧ w.cell? ⟨g, 2, none⟩ = some (.int .i64 v.2.2.1) ∧
      w.cell? ⟨g, 3, none⟩ = some (.int .i64 v.2.2.2) ∧ w.cell? ⟨g, 4, none⟩ = some (.slice none 0 0) := h.five (i := 0) (by omega)

theorem VC.other {w : World} {g n : Nat} {x : Nat → V} (h : VC w g n x) {b : Nat} (hb : g ≠ b) (v : V) :
    VC (((((w.setCell ⟨b, 0, none⟩ (.int .u8 (v.1.val : Int))).setCell ⟨b, 1, none⟩ (.bool v.2.1)).setCell ⟨b, 2, none⟩ (.int .i64 v.2.2.1)).setCell ⟨b, 3, none⟩ (.int .i64 v.2.2.2)).setCell ⟨b, 4, none⟩ (.slice none 0 0)) g n x :=
  ((((h.setCell (by exact hb) _).setCell (by exact hb) _).setCell (by exact hb) _).setCell (by exact hb) _).setCell (by exact hb) _

theorem VC.boxed {w : World} {b : Nat} {u : V} (h : VC w b 1 (fun _ => u)) (v : V) :
    VC (((((w.setCell ⟨b, 0, none⟩ (.int .u8 (v.1.val : Int))).setCell ⟨b, 1, none⟩ (.bool v.2.1)).setCell ⟨b, 2, none⟩ (.int .i64 v.2.2.1)).setCell ⟨b, 3, none⟩ (.int .i64 v.2.2.2)).setCell ⟨b, 4, none⟩ (.slice none 0 0)) b 1 (fun _ => v) :=
  VC.congr (h.put 0 v) (fun i hi => by simp; omega)

theorem owns_below {w w' : World} {B e size n : Nat} {v : Value} {xs : List Value} (h : w.ownsRow B e size v n xs) (hb : RowKit.Below w.heap.size w w') : w'.ownsRow B e size v n xs := by
  refine ⟨h.1, ?_⟩
  rcases h.2 with h0 | ⟨g, cap, cur, hv, hB, hg, r⟩
  · exact .inl h0
  · exact .inr ⟨g, cap, cur, hv, hB, (hb.block g (Array.getElem?_eq_some_iff.1 hg).1).trans hg, r⟩

theorem flat_congr {x y : Nat → V} : ∀ n, (∀ i, i < n → x i = y i) → flat n x = flat n y
  | 0, _ => rfl
  | n + 1, h => by
    show flat n x ++ encV (x n) = flat n y ++ encV (y n)
    rw [flat_congr (y := y) n fun i hi => h i (by omega), h n (by omega)]

/-- One more value behind a row. -/
theorem flat_push (n : Nat) (x : Nat → V) (v : V) : flat (n + 1) (fun i => if i = n then v else x i) = flat n x ++ encV v := by
  show flat n _ ++ encV _ = _
  simp only [if_true]
  rw [flat_congr (y := x) n fun i hi => by simp only [show i ≠ n by omega, if_false]]

theorem lst_push (n : Nat) (x : Nat → V) (v : V) : lst (n + 1) (fun i => if i = n then v else x i) = lst n x ++ [v] := by
  rw [lst_succ]
  simp only [if_true]
  rw [lst_congr (y := x) fun i hi => by simp only [show i ≠ n by omega, if_false]]

theorem rem_push (n : Nat) (x : Nat → V) (z : V) : rem (lst (n + 1) x) z = if x n = z then rem (lst n x) z else rem (lst n x) z ++ [x n] := by
  rw [lst_succ]
  unfold rem
  rw [List.filter_append]
  by_cases h : x n = z <;> simp [h]

theorem make23z (n : Nat) (hn : n ≤ 1024) (w : World) : (Instr.makeSlice 23 (.int .i64 0) (.int .i64 (n : Int))).run Ybad.prog w =
    .ok (.slice (some ⟨w.heap.size, 0, none⟩) 0 n) (w.alloc (.cells (zeros5 n) 28)) := by
  obtain ⟨i, hi, hzz⟩ := Option.map_eq_some_iff.1 info28
  simp only [Prod.mk.injEq] at hzz
  obtain ⟨hz, hs, hb⟩ := hzz
  have hr := run_make (P := Ybad.prog) w 23 28 i _ Ybad.underlying23 hi hz .i64 .i64 0 n (by omega) (by omega) (by rw [hb]; omega) (by omega)
  simp only [Int.toNat_natCast, Int.toNat_zero, hs] at hr
  exact hr

theorem lst_eq {n m : Nat} {x y : Nat → V} (h : lst n x = lst m y) : n = m ∧ ∀ i, i < n → x i = y i := by
  have hl : n = m := by have := congrArg List.length h; rwa [lst_len, lst_len] at this
  refine ⟨hl, fun i hi => ?_⟩
  have this : (lst n x)[i]? = (lst m y)[i]? := by rw [h]
  rw [lst_get n x i hi, lst_get m y i (by omega)] at this
  exact Option.some.inj this

theorem build_news (w : World) (v : V) : ∀ j u, (encV v)[j]? = some u → (w.alloc (.cells #[.int .u8 (v.1.val : Int), .bool v.2.1, .int .i64 v.2.2.1, .int .i64 v.2.2.2, .slice none 0 0] 28)).cell? ((⟨w.heap.size, 0, none⟩ : Addr).add j) = some u := by
  intro j u hj
  rw [Addr.add_lit, Nat.zero_add, World.cell?_alloc_at _ _ _ _ rfl]
  simpa [encV] using hj

theorem enc_one (v : V) : ∀ u ∈ encV v, u.oneCell' = true := by
  intro u hu
  simp [encV] at hu
  rcases hu with rfl | rfl | rfl | rfl | rfl <;> rfl

theorem le_alloc (w : World) (o : Obj) : w.heap.size ≤ (w.alloc o).heap.size := by simp
theorem le_max {n : Nat} (h : n ≤ 100000) : n ≤ maxLen := by unfold maxLen; omega

theorem zeros_VC (w : World) (m : Nat) : VC (w.alloc (.cells (zeros5 m) 28)) w.heap.size m (fun _ => (0, false, 0, 0)) := by
  intro i hi c hc
  refine ⟨?_, (new_cells w (zeros5 m) 28 (i * 5 + c) (by rw [size_zeros5]; omega)).2⟩
  rw [World.cell?_alloc_at _ _ _ _ rfl]
  have hlt : i * 5 + c < m * 5 := by omega
  have hc' : c = 0 ∨ c = 1 ∨ c = 2 ∨ c = 3 ∨ c = 4 := by omega
  have hmod : (i * 5 + c) % 5 = c := by omega
  show (zeros5 m)[i * 5 + c]? = _
  have hsz : i * 5 + c < (zeros5 m).size := by rw [size_zeros5]; exact hlt
  rw [Array.getElem?_eq_getElem hsz]
  simp only [zeros5, madeCells, Array.getElem_map, Array.getElem_range]
  show some ((#[.int .u8 0, .bool false, .int .i64 0, .int .i64 0, .slice none 0 0] : Array Value)[(i * 5 + c) % 5]!) = _
  rw [hmod]
  rcases hc' with rfl | rfl | rfl | rfl | rfl <;> rfl

set_option maxRecDepth 100000 in
set_option maxHeartbeats 8000000 in
theorem mixed_small (ak an : Option Addr) (lk ln ck cn : Nat) (K N : Nat → Int) (pk : Int) (mb : Bool) (ek en : Int) (w : World) (hlk : lk ≤ 1024) (hln : ln ≤ 1024) (hpk : 0 ≤ pk ∧ pk ≤ 255)
    (hek : 0 ≤ ek ∧ ek ≤ 255) (hen : -128 ≤ en ∧ en ≤ 127)
    (hK : ∀ j, j < lk → ∃ a, ak = some a ∧ a.block < w.heap.size ∧ w.cell? (a.add j) = some (.int .u8 (K j)) ∧ 0 ≤ K j ∧ K j ≤ 255)
    (hN : ∀ j, j < ln → ∃ a, an = some a ∧ a.block < w.heap.size ∧ w.cell? (a.add j) = some (.int .i8 (N j)) ∧ -128 ≤ N j ∧ N j ≤ 127) :
    Calls Ybad.prog 4 #[.slice ak lk ck, .slice an ln cn, .int .u8 pk, .bool mb, .int .u8 ek, .int .i8 en] w fun e w' => e = .returned (.bool true) ∧ RowKit.Below w.heap.size w w' := by
  have hm := mixed
  have HK := hid hK
  have HN := hid hN
  have HP := hid hpk
  have HE := hid hek
  have HF := hid hen
  clear hK hN hpk hek hen
  have hd1 : decide ((1024 : Int) < lk) = false := by simp; omega
  have hi1 : ¬ (1024 : Int) < lk := by omega
  have hd2 : decide ((1024 : Int) < ln) = false := by simp; omega
  have hi2 : ¬ (1024 : Int) < ln := by omega
  go_enter Ybad.func4, Ybad.ntmps4
  go_upto_if 38 with fail
  go_cut [13] (fun s wx => wx = w ∧ s = .int .i64 ((min lk ln : Nat) : Int))
  case first =>
    by_cases hl : ln < lk
    · have hi : (ln : Int) < lk := by omega
      have hd : decide ((ln : Int) < lk) = true := by simp; omega
      go_wp2_with fail
      go_meet
      exact ⟨rfl, by congr 1; omega⟩
    · have hi : ¬ (ln : Int) < lk := by omega
      have hd : decide ((ln : Int) < lk) = false := by simp; omega
      go_wp2_with fail
      go_meet
      exact ⟨rfl, by congr 1; omega⟩
  case rest =>
    obtain ⟨hw0, rfl⟩ := hcut
    have hw1 := hw0.symm
    clear hw0
    subst hw1
    obtain ⟨m, hm1⟩ : ∃ m, m = min lk ln := ⟨_, rfl⟩
    rw [← hm1]
    have hmk : m ≤ lk := by omega
    have hmn : m ≤ ln := by omega
    clear hm1 hd1 hd2
    have hmake := make23 m (by omega)
    go_wp2
    have HZ := hid (zeros_VC w m)
    go_loopw [15] (fun i wr => ∃ k : Nat, ∃ y : Nat → V, k ≤ m ∧ i = .int .i64 k ∧ Hid (VC wr w.heap.size m y) ∧ Hid (RowKit.Below w.heap.size w wr) ∧ Hid (w.heap.size < wr.heap.size)) (fun i _ => m - (intOf i).toNat)
    case atStart => exact ⟨0, _, by omega, rfl, HZ, hid ((RowKit.Below.refl _ _).alloc (Nat.le_refl _) _), hid (by simp)⟩
    case round =>
      obtain ⟨k, y, hkm, rfl, HV, HB, HS⟩ := hrel
      clear HZ hmake
      by_cases hlt : k < m
      · obtain ⟨a, rfl, hab, hac, ha0, ha1⟩ := HK.out k (by omega)
        obtain ⟨b, rfl, hbb, hbc, hb0, hb1⟩ := HN.out k (by omega)
        obtain ⟨v, hv⟩ := mk9 (K k) (N k) ha0 ha1 hb0 hb1
        have HM : Hid (∀ w : World, Calls Ybad.prog 9 #[.int .u8 (K k), .int .i8 (N k)] w fun e w' => e = .returned (.agg #[.int .u8 (v.1.val : Int), .bool v.2.1, .int .i64 v.2.2.1, .int .i64 v.2.2.2, .slice none 0 0]) ∧ ∃ o, w' = w.alloc o) := hid hv
        have c1 := (HB.out.cell (by rw [block_add]; exact hab)).trans hac
        have c2 := (HB.out.cell (by rw [block_add]; exact hbb)).trans hbc
        clear hab hac ha0 ha1 hbb hbc hb0 hb1 hv
        have hi0 : (k : Int) < m := by omega
        have hi1 : (0 : Int) ≤ k := by omega
        have hi2 : (k : Int) < lk := by omega
        have hi3 : (k : Int) < ln := by omega
        have HVo := hid fun o => HV.out.al HS.out o
        have d0 := fun o => ((HVo.out o).five hlt).1
        have d1 := fun o => ((HVo.out o).five hlt).2.1
        have d2 := fun o => ((HVo.out o).five hlt).2.2.1
        have d3 := fun o => ((HVo.out o).five hlt).2.2.2.1
        have d4 := fun o => ((HVo.out o).five hlt).2.2.2.2
        have f0 := fun o => ((HVo.out o).fr hlt).1
        have f1 := fun o => ((HVo.out o).fr hlt).2.1
        have f2 := fun o => ((HVo.out o).fr hlt).2.2.1
        have f3 := fun o => ((HVo.out o).fr hlt).2.2.2.1
        have f4 := fun o => ((HVo.out o).fr hlt).2.2.2.2
        go_wp2
        go_region_with (go_at_call 9; refine (HM.out _).mono ?_; rintro e w' ⟨rfl, o, rfl⟩)
        all_goals (
          clear d0 d1 d2 d3 d4 f0 f1 f2 f3 f4 c1 c2
          go_wp2
          go_roundw
          case rel =>
            refine ⟨k + 1, fun i => if i = k then v else y i, by omega, by go_num, hid ?_, hid ?_, hid ?_⟩
            · exact (HVo.out o).putd k v
            · exact below_putd (HB.out.alloc (Nat.le_of_lt HS.out) o) (Nat.le_refl _) k v
            · exact size_putd (lt_alloc HS.out o) k v
          case measure => simp [intOf]; omega)
      · have hkm' : k = m := by omega
        subst hkm'
        clear HK HN
        have hd : decide ((k : Int) < k) = false := by simp
        go_wp2_with fail
        refine (sort10 _ k k y wr HV.out HS.out (by omega)).mono ?_
        rintro e w1 ⟨rfl, x1, hs1, hV1, hb1⟩
        have HB1 := hid (HB.out.trans hb1)
        have HS1 := hid (Nat.lt_of_lt_of_le HS.out hb1.size)
        have HV1 := hid hV1
        have HR1 := hid hs1
        clear hs1 hV1 hb1 HV HS HB
        go_wp2_with fail
        refine (compact _ k k x1 w1 HV1.out HS1.out (by omega) (Nat.le_refl _) HR1.out).mono ?_
        rintro e w2 ⟨n, x, hnk, rfl, hV2, hA2, hb2, hs2⟩
        have HB2 := hid (HB1.out.trans hb2)
        have HV2 := hid hV2
        have HA2 := hid hA2
        have HS2 := hid hs2
        clear HV1 HR1 HB1 HS1 hV2 hA2 hb2 hs2
        obtain ⟨v, hv⟩ := mk9 ek en HE.out.1 HE.out.2 HF.out.1 HF.out.2
        have HM : Hid (∀ w : World, Calls Ybad.prog 9 #[.int .u8 ek, .int .i8 en] w fun e w' => e = .returned (.agg #[.int .u8 (v.1.val : Int), .bool v.2.1, .int .i64 v.2.2.1, .int .i64 v.2.2.2, .slice none 0 0]) ∧ ∃ o, w' = w.alloc o) := hid hv
        clear hv
        go_wp2_with fail
        refine (HM.out _).mono ?_
        rintro e w3 ⟨rfl, o, rfl⟩
        have HV3 := hid (HV2.out.al HS2.out o)
        have HB3 := hid (HB2.out.alloc (Nat.le_of_lt HS2.out) o)
        have HS3 := hid (lt_alloc HS2.out o)
        clear HV2 HB2 HS2 HM
        generalize w2.alloc o = W at HV3 HB3 HS3
        go_upto_region 14 with fail
        have HV4 := hid (HV3.out.al HS3.out (.cells #[.int .u8 (v.1.val : Int), .bool v.2.1, .int .i64 v.2.2.1, .int .i64 v.2.2.2, .slice none 0 0] 28))
        have HB4 := hid (HB3.out.alloc (Nat.le_of_lt HS3.out) (.cells #[.int .u8 (v.1.val : Int), .bool v.2.1, .int .i64 v.2.2.1, .int .i64 v.2.2.2, .slice none 0 0] 28))
        have HX4 := hid (box_new W v)
        have HZ4 : Hid ((W.alloc (.cells #[.int .u8 (v.1.val : Int), .bool v.2.1, .int .i64 v.2.2.1, .int .i64 v.2.2.2, .slice none 0 0] 28)).heap.size = W.heap.size + 1) := hid (by simp)
        clear HV3 HB3
        generalize hW4 : W.alloc (.cells #[.int .u8 (v.1.val : Int), .bool v.2.1, .int .i64 v.2.2.1, .int .i64 v.2.2.2, .slice none 0 0] 28) = W4 at HV4 HB4 HX4 HZ4
        clear hW4
        generalize W.heap.size = be at HX4 HZ4 HS3
        go_cut [72] (fun c wx => c = .bool (mb && decide (0 < n)) ∧ wx = W4)
        case first =>
          cases mb
          · go_wp2_with fail
            go_meet
            exact ⟨rfl, rfl⟩
          · by_cases hn0 : 0 < n
            · have hd0 : decide ((0 : Int) < n) = true := by simp; omega
              have hi0 : (0 : Int) < n := by omega
              go_wp2_with fail
              go_meet
              exact ⟨by simp [hn0], rfl⟩
            · have hd0 : decide ((0 : Int) < n) = false := by simp; omega
              have hi0 : ¬ (0 : Int) < n := by omega
              have HN0 := hid hn0
              clear hn0
              go_wp2_with fail
              go_meet
              exact ⟨by simp [HN0.out], rfl⟩
        case rest =>
          obtain ⟨rfl, hw0⟩ := hcut
          have hw1 := hw0.symm
          clear hw0
          subst hw1
          obtain ⟨t, HT⟩ : ∃ t : Bool, Hid (t = (mb && decide (0 < n))) := ⟨_, hid rfl⟩
          rw [← HT.out]
          go_upto_if 72 with fail
          go_cut [] (fun wx => ∃ z : V, Hid (VC wx w.heap.size n x) ∧ Hid (VC wx be 1 (fun _ => z)) ∧ Hid (RowKit.Below w.heap.size w wx) ∧ Hid (wx.heap.size = be + 1))
          case first =>
            cases t
            · go_wp2_with fail
              go_meet
              exact ⟨v, HV4, HX4, HB4, HZ4⟩
            · have hn0 : 0 < n := by
                have := HT.out
                simp at this
                exact this.2
              have hi0 : (0 : Int) < n := by omega
              obtain ⟨p, hp⟩ : ∃ p : Nat, pk % (n : Int) = p := ⟨(pk % (n : Int)).toNat, by have := Int.emod_nonneg pk (show (n : Int) ≠ 0 by omega); omega⟩
              have hpn : p < n := by have := Int.emod_lt_of_pos pk hi0; omega
              have hp0 := HP.out.1
              have hp1 := HP.out.2
              have hp2 : (p : Int) < n := by omega
              have hp3 : (0 : Int) ≤ p := by omega
              obtain ⟨d0, d1, d2, d3, d4⟩ := HV4.out.five hpn
              obtain ⟨c0, c1, c2, c3, c4⟩ := HX4.out.box
              obtain ⟨f0, f1, f2, f3, f4⟩ := HX4.out.fr (i := 0) (by omega)
              simp only [Nat.zero_mul, Nat.zero_add] at f0 f1 f2 f3 f4
              go_wp2_with fail
              go_meet
              have hne : w.heap.size ≠ be := Nat.ne_of_lt HS3.out
              refine ⟨x p, hid (HV4.out.other hne (x p)), hid (HX4.out.boxed (x p)), hid ?_, hid ?_⟩
              · exact ((((HB4.out.setCell (by exact Nat.le_of_lt HS3.out) _).setCell (by exact Nat.le_of_lt HS3.out) _).setCell (by exact Nat.le_of_lt HS3.out) _).setCell (by exact Nat.le_of_lt HS3.out) _).setCell (by exact Nat.le_of_lt HS3.out) _
              · simpa using HZ4.out
          case rest =>
            obtain ⟨z, HV, HX, HB, HZ⟩ := hcut
            clear HV4 HX4 HB4 HZ4 HT HP HE HF
            go_wp2_with fail
            refine (clone13 _ n k x wc HV.out (by omega)).mono ?_
            rintro e w5 ⟨gb, cb, rfl, hgb1, hgb2, hVb, hbb⟩
            have hbe : be < wc.heap.size := by have := HZ.out; omega
            have hgw : w.heap.size < wc.heap.size := by have := HZ.out; have := HS3.out; omega
            have HV5 := hid (HV.out.below hbb hgw)
            have HX5 := hid (HX.out.below hbb hbe)
            have HB5 := hid (HB.out.trans (hbb.mono (Nat.le_of_lt hgw)))
            have HG5 := hid (Nat.lt_of_lt_of_le hgw hbb.size)
            have HE5 := hid (Nat.lt_of_lt_of_le hbe hbb.size)
            have HC5 := hid hVb
            have HD5 := hid hgb2
            clear HV HX HB HZ hbe hgw hgb1 hgb2 hVb hbb HS3
            have c0 := fun o => (HX5.out.al HE5.out o).box.1
            have c1 := fun o => (HX5.out.al HE5.out o).box.2.1
            have c2 := fun o => (HX5.out.al HE5.out o).box.2.2.1
            have c3 := fun o => (HX5.out.al HE5.out o).box.2.2.2.1
            have c4 := fun o => (HX5.out.al HE5.out o).box.2.2.2.2
            go_wp2_with fail
            refine (without6 w.heap.size n k x z _ (HV5.out.al HG5.out _) (lt_alloc HG5.out _) (by omega) hnk HA2.out).mono ?_
            rintro e w7 ⟨gr, nr, cr, xr, rfl, hgr, hVr, hlr, hbr⟩
            clear c0 c1 c2 c3 c4
            have hal := (RowKit.Below.refl w5.heap.size w5).alloc (Nat.le_refl _) (.cells #[.int .u8 6, .bool false, .int .i64 0, .int .i64 0, .slice (some ⟨w.heap.size, 0, none⟩) n k] 28)
            have h57 := hal.trans (hbr.mono hal.size)
            have HV7 := hid (HV5.out.below h57 HG5.out)
            have HX7 := hid (HX5.out.below h57 HE5.out)
            have HB7 := hid (HB5.out.trans (h57.mono (Nat.le_of_lt HG5.out)))
            have HG7 := hid (Nat.lt_of_lt_of_le HG5.out h57.size)
            have HE7 := hid (Nat.lt_of_lt_of_le HE5.out h57.size)
            have HC7 := hid (HC5.out.below h57 HD5.out)
            have HD7 := hid (Nat.lt_of_lt_of_le HD5.out h57.size)
            have HR7 := hid hVr
            have HL7 := hid hlr
            have HS7 := hid hgr
            clear HV5 HX5 HB5 HG5 HE5 HC5 HD5 hVr hlr hgr hbr hal h57
            have hal := (RowKit.Below.refl w7.heap.size w7).alloc (Nat.le_refl _) (.cells #[.int .u8 6, .bool false, .int .i64 0, .int .i64 0, .slice (some ⟨gr, 0, none⟩) nr cr] 28)
            have HV8 := hid (HV7.out.below hal HG7.out)
            have HX8 := hid (HX7.out.below hal HE7.out)
            have HC8 := hid (HC7.out.below hal HD7.out)
            have HR8 := hid (HR7.out.below hal HS7.out)
            have HB8 := hid (HB7.out.trans (hal.mono (Nat.le_of_lt HG7.out)))
            have HQ8 : Hid ((w7.alloc (.cells #[.int .u8 6, .bool false, .int .i64 0, .int .i64 0, .slice (some ⟨gr, 0, none⟩) nr cr] 28)).cell? ⟨w7.heap.size, 4, none⟩ = some (.slice (some ⟨gr, 0, none⟩) nr cr)) := hid (by rw [World.cell?_alloc_at _ _ _ _ rfl]; rfl)
            have HZ8 : Hid ((w7.alloc (.cells #[.int .u8 6, .bool false, .int .i64 0, .int .i64 0, .slice (some ⟨gr, 0, none⟩) nr cr] 28)).heap.size = w7.heap.size + 1) := hid (by simp)
            clear hal HV7 HX7 HC7 HR7 HB7
            have hmz := make23z n (by omega)
            go_wp2_with fail
            generalize hW8 : w7.alloc (.cells #[.int .u8 6, .bool false, .int .i64 0, .int .i64 0, .slice (some ⟨gr, 0, none⟩) nr cr] 28) = W8 at HV8 HX8 HC8 HR8 HB8 HQ8 HZ8
            clear hW8
            generalize w7.heap.size = br at HG7 HE7 HD7 HS7 HQ8 HZ8
            clear hmz
            have HO8 : Hid ((W8.alloc (.cells (zeros5 n) 28)).ownsRow (br + 1) 28 5 (.slice (some ⟨br + 1, 0, none⟩) 0 n) 0 []) := hid (by
              have := World.ownsRow_made (base := W8.heap.size) (e := 28) (size := 5) W8 (zeros5 n) n (Nat.le_refl _) (by unfold maxLen; omega) (size_zeros5 n)
              rwa [HZ8.out] at this)
            have HP8 : Hid (RowKit.Below (br + 1) W8 (W8.alloc (.cells (zeros5 n) 28))) := hid (by
              have := (RowKit.Below.refl W8.heap.size W8).alloc (Nat.le_refl _) (.cells (zeros5 n) 28)
              rwa [HZ8.out] at this)
            go_loopw [20, 22, 96] (fun s20 _ s96 wr => ∃ i j : Nat, ∃ xw : Nat → V, i ≤ n ∧ s96 = .int .i64 i ∧ Hid (wr.ownsRow (br + 1) 28 5 s20 j (flat j xw)) ∧ Hid (s20 ≠ .slice none 0 0) ∧ Hid (lst j xw = rem (lst i x) z) ∧ Hid (RowKit.Below (br + 1) W8 wr) ∧ Hid (j ≤ i)) (fun _ _ i _ => n - (intOf i).toNat)
            case atStart => exact ⟨0, 0, x, by omega, rfl, HO8, hid (by simp), hid rfl, HP8, hid (Nat.le_refl _)⟩
            case round =>
              rename_i hrel
              obtain ⟨i, j, xw, hin, rfl, HO, HNN, HL, HBW, HJ⟩ := hrel
              clear HO8 HP8
              have hbeW : be < br + 1 := by have := HE7.out; omega
              have hgbW : gb < br + 1 := by have := HD7.out; omega
              have hbrS : br + 1 ≤ wr.heap.size := by have := HBW.out.size; rw [HZ8.out] at this; exact this
              by_cases hlt : i < n
              · have hi0 : (i : Int) < n := by omega
                have hi1 : (0 : Int) ≤ i := by omega
                have hd : decide ((i : Int) < n) = true := by simp; omega
                have HC := hid (HC8.out.below HBW.out hgbW)
                have HX := hid (HX8.out.below HBW.out hbeW)
                obtain ⟨d0, d1, d2, d3, d4⟩ := HC.out.five hlt
                have hbw2 : be < wr.heap.size := by omega
                have c0 := fun o => (HX.out.al hbw2 o).box.1
                have c1 := fun o => (HX.out.al hbw2 o).box.2.1
                have c2 := fun o => (HX.out.al hbw2 o).box.2.2.1
                have c3 := fun o => (HX.out.al hbw2 o).box.2.2.2.1
                have c4 := fun o => (HX.out.al hbw2 o).box.2.2.2.2
                obtain ⟨b, HD, HQ⟩ := eq_callsB (x i) z
                go_wp2_with fail
                refine (HQ.out _).mono ?_
                rintro e w9 ⟨rfl, q, os, rfl⟩
                clear c0 c1 c2 c3 c4 d0 d1 d2 d3 d4 HQ HC HX
                have hal := (RowKit.Below.refl wr.heap.size wr).alloc (Nat.le_refl _) (.cells #[.int .u8 ((x i).1.val : Int), .bool (x i).2.1, .int .i64 (x i).2.2.1, .int .i64 (x i).2.2.2, .slice none 0 0] 28)
                have hgro := below_grow (wr.alloc (.cells #[.int .u8 ((x i).1.val : Int), .bool (x i).2.1, .int .i64 (x i).2.2.1, .int .i64 (x i).2.2.2, .slice none 0 0] 28)) q os
                have HBX := hid ((box_new wr (x i)).below hgro (by simp))
                have hall := hal.trans (hgro.mono hal.size)
                have HO9 := hid (owns_below HO.out hall)
                have HBW9 := hid (HBW.out.trans (hall.mono hbrS))
                have HS9 := hid (Nat.le_trans hbrS hall.size)
                have HT9 : Hid (wr.heap.size < (grow ((wr.alloc (.cells #[.int .u8 ((x i).1.val : Int), .bool (x i).2.1, .int .i64 (x i).2.2.1, .int .i64 (x i).2.2.2, .slice none 0 0] 28)).drewN q) os).heap.size) := hid (Nat.lt_of_lt_of_le (by simp) hgro.size)
                clear hal hgro hall HO HBW
                generalize grow ((wr.alloc (.cells #[.int .u8 ((x i).1.val : Int), .bool (x i).2.1, .int .i64 (x i).2.2.1, .int .i64 (x i).2.2.2, .slice none 0 0] 28)).drewN q) os = W9 at HBX HO9 HBW9 HS9 HT9
                generalize wr.heap.size = bx at HBX HT9 hbrS hbw2
                cases b
                rotate_left
                · have HE9 := hid (HD.out.1 rfl)
                  clear HD
                  go_wp2_with fail
                  go_roundw
                  case rel =>
                    refine ⟨i + 1, j, xw, by omega, by go_num, HO9, HNN, hid ?_, HBW9, hid (by have := HJ.out; omega)⟩
                    rw [HL.out, rem_push, if_pos HE9.out]
                  case measure => simp [intOf]; omega
                · have HE9 : Hid (¬ x i = z) := hid fun h => Bool.noConfusion (HD.out.2 h)
                  clear HD
                  obtain ⟨c0, c1, c2, c3, c4⟩ := HBX.out.box
                  obtain ⟨i0, hi28, hzz⟩ := Option.map_eq_some_iff.1 info28
                  simp only [Prod.mk.injEq] at hzz
                  have HI := hid (And.intro hi28 hzz)
                  clear hi28 hzz
                  go_wp2_with (at_builtin; refine wpList_append_own _ rfl _ _ 23 rfl (br + 1) 28 i0 _ 5 48 Ybad.underlying23 HI.out.1 HI.out.2.1 HI.out.2.2.1 HI.out.2.2.2 rfl (by omega) _ j (flat j xw) rfl (HO9.out.alloc _) ⟨W9.heap.size, 0, none⟩ 1 1 (encV (x i)) rfl rfl (build_news W9 (x i)) (enc_one _) ?qc4 ?qc5 ?qc6 ?_)
                  case qc4 => exact le_max (by have := HJ.out; omega)
                  case qc5 => exact by have := HJ.out; omega
                  case qc6 => exact Nat.le_trans HS9.out (le_alloc _ _)
                  intro v' w1 hown hgrow hnil
                  clear c0 c1 c2 c3 c4
                  have HN1 : Hid (v' ≠ .slice none 0 0) := hid hnil
                  have HO1 := hid hown
                  have HBx1 := hid (RowKit.Below.grown (HBW9.out.alloc HS9.out (.cells #[.int .u8 ((x i).1.val : Int), .bool (x i).2.1, .int .i64 (x i).2.2.1, .int .i64 (x i).2.2.2, .slice none 0 0] 28)) hgrow (Nat.le_trans HS9.out (le_alloc _ _)) (fun kk hk => (HO9.out.lt kk hk).1))
                  clear hnil hown hgrow
                  go_wp2_with fail
                  go_roundw
                  case rel =>
                    refine ⟨i + 1, j + 1, fun t => if t = j then x i else xw t, by omega, by go_num, hid ?_, HN1, hid ?_, HBx1, hid (by have := HJ.out; omega)⟩
                    · rw [flat_push]; exact HO1.out
                    · rw [lst_push, rem_push, if_neg HE9.out, HL.out]
                  case measure => simp [intOf]; omega
              · have hin' : i = n := by omega
                subst hin'
                have hd : decide ((i : Int) < i) = false := by simp
                rcases HO.out.2 with ⟨h0, _⟩ | ⟨gw, cw, cur, rfl, hB, hgw, _, _, _, htk⟩
                · exact absurd h0 HNN.out
                have HW := hid (VC_of_owns hgw htk)
                have hgwS : gw < wr.heap.size := (Array.getElem?_eq_some_iff.1 hgw).1
                obtain ⟨hjn, hjx⟩ := lst_eq (HL7.out.trans HL.out.symm)
                subst hjn
                have HEQ := hid hjx
                have HV := hid (HV8.out.below HBW.out (show w.heap.size < br + 1 by have := HG7.out; omega))
                have HC := hid (HC8.out.below HBW.out hgbW)
                have HR := hid (HR8.out.below HBW.out (show gr < br + 1 by have := HS7.out; omega))
                have HQ := hid ((HBW.out.cell (p := ⟨br, 4, none⟩) (show br < br + 1 by omega)).trans HQ8.out)
                have HB10 := hid (HB8.out.trans (HBW.out.mono (show w.heap.size ≤ br + 1 by have := HG7.out; omega)))
                have hbrW : br < wr.heap.size := by omega
                have hgrW : gr < wr.heap.size := by have := HS7.out; omega
                have hgW : w.heap.size < wr.heap.size := by have := HG7.out; omega
                have hgbS : gb < wr.heap.size := by omega
                have hnr : nr ≤ 1024 := by have := HJ.out; omega
                clear hgw hB htk HO HNN HL7 HL hjx HV8 HC8 HR8 HQ8 HB8 HX8 HZ8 HBW HJ HG7 HE7 HD7 HS7 hbeW hgbW hbrS
                obtain ⟨W10, hW10⟩ : ∃ W10, W10 = wr := ⟨_, rfl⟩
                subst hW10
                have hq4 := HQ.out
                go_wp2_with fail
                clear hq4
                go_loopw [23, 117] (fun _ s wr => ∃ t : Nat, t ≤ nr ∧ s = .int .i64 t ∧ Hid (RowKit.Below W10.heap.size W10 wr)) (fun _ s _ => nr - (intOf s).toNat)
                case atStart => exact ⟨0, by omega, rfl, hid (RowKit.Below.refl _ _)⟩
                case round =>
                  rename_i hrel
                  obtain ⟨t, htn, rfl, HT⟩ := hrel
                  have hsz := HT.out.size
                  by_cases hlt3 : t < nr
                  · have hi0 : (t : Int) < nr := by omega
                    have hi1 : (0 : Int) ≤ t := by omega
                    have hd3 : decide ((t : Int) < nr) = true := by simp; omega
                    have q4 := fun q os => cell_grown (by exact Nat.lt_of_lt_of_le hbrW hsz) ((HT.out.cell (by exact hbrW)).trans HQ.out) q os
                    obtain ⟨d0, d1, d2, d3, d4⟩ := (HR.out.below HT.out hgrW).five hlt3
                    obtain ⟨c0, c1, c2, c3, c4⟩ := (HW.out.below HT.out hgwS).five hlt3
                    have hr' : gr < wr.heap.size := Nat.lt_of_lt_of_le hgrW hsz
                    have hw' : gw < wr.heap.size := Nat.lt_of_lt_of_le hgwS hsz
                    have e0 := fun q os => cell_grown (by exact hr') d0 q os
                    have e1 := fun q os => cell_grown (by exact hr') d1 q os
                    have e2 := fun q os => cell_grown (by exact hr') d2 q os
                    have e3 := fun q os => cell_grown (by exact hr') d3 q os
                    have e4 := fun q os => cell_grown (by exact hr') d4 q os
                    have z0 := fun q os => cell_grown (by exact hw') c0 q os
                    have z1 := fun q os => cell_grown (by exact hw') c1 q os
                    have z2 := fun q os => cell_grown (by exact hw') c2 q os
                    have z3 := fun q os => cell_grown (by exact hw') c3 q os
                    have z4 := fun q os => cell_grown (by exact hw') c4 q os
                    obtain ⟨b, HD, HC3⟩ := eq_callsB (xr t) (xw t)
                    obtain rfl : b = true := HD.out.2 (HEQ.out t hlt3)
                    clear c0 c1 c2 c3 c4 d0 d1 d2 d3 d4
                    go_wp2_with fail
                    go_quiet_grown ((go_at_call 8; refine Calls.grown_of (HC3.out _)))
                    clear e0 e1 e2 e3 e4 z0 z1 z2 z3 z4 q4
                    go_wp2_with fail
                    go_roundw
                    case rel => exact ⟨t + 1, by omega, by go_num, hid (HT.out.trans ((below_grow wr nq osq).mono hsz))⟩
                    case measure => simp [intOf]; omega
                  · have hd3 : decide ((t : Int) < nr) = false := by simp; omega
                    have HV11 := hid (HV.out.below HT.out hgW)
                    have HC11 := hid (HC.out.below HT.out hgbS)
                    have HB11 := hid (HB10.out.trans (HT.out.mono (Nat.le_of_lt hgW)))
                    have hgW11 : w.heap.size < wr.heap.size := Nat.lt_of_lt_of_le hgW hsz
                    have hgb11 : gb < wr.heap.size := Nat.lt_of_lt_of_le hgbS hsz
                    clear HV HC HB10 HR HW HQ HEQ HT hsz hgwS hbrW hgrW hgW hgbS
                    obtain ⟨W11, hW11⟩ : ∃ W11, W11 = wr := ⟨_, rfl⟩
                    subst hW11
                    go_wp2_with fail
                    go_loopw [24, 139] (fun _ s wr => ∃ t : Nat, t ≤ i ∧ s = .int .i64 t ∧ Hid (RowKit.Below W11.heap.size W11 wr)) (fun _ s _ => i - (intOf s).toNat)
                    case atStart => exact ⟨0, by omega, rfl, hid (RowKit.Below.refl _ _)⟩
                    case round =>
                      rename_i hrel
                      obtain ⟨t2, htn2, rfl, HT⟩ := hrel
                      have hsz := HT.out.size
                      by_cases hlt4 : t2 < i
                      · have hi0 : (t2 : Int) < i := by omega
                        have hi1 : (0 : Int) ≤ t2 := by omega
                        have hd4 : decide ((t2 : Int) < i) = true := by simp; omega
                        obtain ⟨d0, d1, d2, d3, d4⟩ := (HV11.out.below HT.out hgW11).five hlt4
                        obtain ⟨c0, c1, c2, c3, c4⟩ := (HC11.out.below HT.out hgb11).five hlt4
                        have hr' : w.heap.size < wr.heap.size := Nat.lt_of_lt_of_le hgW11 hsz
                        have hw' : gb < wr.heap.size := Nat.lt_of_lt_of_le hgb11 hsz
                        have e0 := fun q os => cell_grown (by exact hr') d0 q os
                        have e1 := fun q os => cell_grown (by exact hr') d1 q os
                        have e2 := fun q os => cell_grown (by exact hr') d2 q os
                        have e3 := fun q os => cell_grown (by exact hr') d3 q os
                        have e4 := fun q os => cell_grown (by exact hr') d4 q os
                        have z0 := fun q os => cell_grown (by exact hw') c0 q os
                        have z1 := fun q os => cell_grown (by exact hw') c1 q os
                        have z2 := fun q os => cell_grown (by exact hw') c2 q os
                        have z3 := fun q os => cell_grown (by exact hw') c3 q os
                        have z4 := fun q os => cell_grown (by exact hw') c4 q os
                        obtain ⟨b, HD, HC3⟩ := eq_callsB (x t2) (x t2)
                        obtain rfl : b = true := HD.out.2 rfl
                        clear c0 c1 c2 c3 c4 d0 d1 d2 d3 d4
                        go_wp2_with fail
                        go_quiet_grown ((go_at_call 8; refine Calls.grown_of (HC3.out _)))
                        clear e0 e1 e2 e3 e4 z0 z1 z2 z3 z4
                        go_wp2_with fail
                        go_roundw
                        case rel => exact ⟨t2 + 1, by omega, by go_num, hid (HT.out.trans ((below_grow wr nq osq).mono hsz))⟩
                        case measure => simp [intOf]; omega
                      · have hd4 : decide ((t2 : Int) < i) = false := by simp; omega
                        have HF := hid (HB11.out.trans (HT.out.mono (Nat.le_of_lt hgW11)))
                        clear HB11 HT
                        go_wp2_with fail
                        go_ret
                        exact ⟨rfl, HF.out⟩

end Go.Proofs.YbulkbjvgDoor
