import Derived.Test.YbulkbjvgDoorIntsFive
namespace Go.Proofs.YbulkbjvgDoor
open Go.RowKit Go.Sort

set_option maxRecDepth 100000 in
set_option maxHeartbeats 4000000 in
theorem ints_big (a : Option Addr) (n c : Nat) (ev pk : Int) (mb : Bool) (w : World) (h : 1024 < n) :
    Calls Ybad.prog 3 #[.slice a n c, .int .i64 ev, .int .u8 pk, .bool mb] w fun e w' => e = .returned (.bool true) ∧ RowKit.Below w.heap.size w w' := by
  have hd : decide ((1024 : Int) < n) = true := by simp; omega
  have hi : (1024 : Int) < n := by omega
  go_enter Ybad.func3, Ybad.ntmps3
  go_wp2
  go_ret
  exact ⟨rfl, RowKit.Below.refl _ _⟩

/-- What the statement 'r := v.without(intOf(e))' leaves: the box of r, and its row. -/
def Rin (w1 : World) (m : Nat) (u : Nat → Int) (e' : Int) (s : Value) (wx : World) : Prop :=
  ∃ bq gr nr cr : Nat, ∃ xr : Nat → V, s = .pointer (some ⟨bq, 0, none⟩) ∧ Hid (bq < wx.heap.size) ∧ Hid (gr < wx.heap.size) ∧ Hid (wx.cell? ⟨bq, 0, none⟩ = some (.int .u8 6)) ∧ Hid (wx.cell? ⟨bq, 4, none⟩ = some (.slice (some ⟨gr, 0, none⟩) nr cr)) ∧ Hid (VC wx gr nr xr) ∧ Hid (lst nr xr = rem (lst m (fun i => iV (u i))) (iV e')) ∧ Hid (RowKit.Below w1.heap.size w1 wx)

theorem rinA {w1 w6 : World} {m : Nat} {u : Nat → Int} {e' : Int} {gr nr cr : Nat} {xr : Nat → V} (hgr : gr < w6.heap.size) (hV : VC w6 gr nr xr) (hl : lst nr xr = rem (lst m (fun i => iV (u i))) (iV e')) (hb : RowKit.Below w1.heap.size w1 w6) :
    Rin w1 m u e' (.pointer (some ⟨w6.heap.size, 0, none⟩)) (w6.alloc (.cells #[.int .u8 6, .bool false, .int .i64 0, .int .i64 0, .slice (some ⟨gr, 0, none⟩) nr cr] 28)) :=
  ⟨w6.heap.size, gr, nr, cr, xr, rfl, hid (by simp), hid (lt_alloc hgr _), hid (by rw [World.cell?_alloc_at _ _ _ _ rfl]; rfl), hid (by rw [World.cell?_alloc_at _ _ _ _ rfl]; rfl), hid (hV.al hgr _), hid hl, hid (hb.alloc hb.size _)⟩

theorem rem_kind {m nr : Nat} {u : Nat → Int} {e' : Int} {xr : Nat → V} (hl : lst nr xr = rem (lst m (fun i => iV (u i))) (iV e')) (h0 : 0 < nr) : (xr 0).1.val = 4 := by
  have h1 : xr 0 ∈ lst nr xr := List.mem_of_getElem? (lst_get nr xr 0 h0)
  rw [hl] at h1
  have h2 := (List.mem_filter.1 h1).1
  unfold lst at h2
  obtain ⟨i, _, hi⟩ := List.mem_map.1 h2
  rw [← hi]
  rfl

theorem rinB {w1 w6 : World} {m : Nat} {u : Nat → Int} {e' : Int} {b gr nr cr : Nat} {xr : Nat → V} (hgr : gr < w6.heap.size) (hV : VC w6 gr nr xr) (hl : lst nr xr = rem (lst m (fun i => iV (u i))) (iV e')) (hb : RowKit.Below w1.heap.size w1 w6)
    (hb1 : w1.heap.size ≤ b) (hb2 : b < w6.heap.size) (c0 : w6.cell? ⟨b, 0, none⟩ = some (.int .u8 0)) (c4 : w6.cell? ⟨b, 4, none⟩ = some (.slice none 0 0)) :
    Rin w1 m u e' (.pointer (some ⟨b, 0, none⟩)) (((((w6.setCell ⟨b, 0, none⟩ (.int .u8 6)).setCell ⟨b, 1, none⟩ (.bool false)).setCell ⟨b, 2, none⟩ (.int .i64 0)).setCell ⟨b, 3, none⟩ (.int .i64 0)).setCell ⟨b, 4, none⟩ (.slice (some ⟨gr, 0, none⟩) nr cr)) := by
  refine ⟨b, gr, nr, cr, xr, rfl, hid (by simpa using hb2), hid (by simpa using hgr), hid ?_, hid ?_, hid ?_, hid hl, hid (((((hb.setCell (by exact hb1) _).setCell (by exact hb1) _).setCell (by exact hb1) _).setCell (by exact hb1) _).setCell (by exact hb1) _)⟩
  · rw [World.cell?_setCell_other _ _ _ _ (by simp), World.cell?_setCell_other _ _ _ _ (by simp), World.cell?_setCell_other _ _ _ _ (by simp), World.cell?_setCell_other _ _ _ _ (by simp)]
    exact World.cell?_setCell_same _ _ _ (by rw [c0])
  · refine World.cell?_setCell_same (u := .slice none 0 0) _ _ _ ?_
    rw [World.cell?_setCell_other _ _ _ _ (by simp), World.cell?_setCell_other _ _ _ _ (by simp), World.cell?_setCell_other _ _ _ _ (by simp), World.cell?_setCell_other _ _ _ _ (by simp), c4]
  · by_cases h0 : 0 < nr
    · have hne : gr ≠ b := by
        intro h
        subst h
        have h1 := (hV.five h0).1
        rw [rem_kind hl h0] at h1
        rw [Nat.zero_mul] at h1
        rw [h1] at c0
        simp at c0
      exact ((((hV.setCell (by exact hne) _).setCell (by exact hne) _).setCell (by exact hne) _).setCell (by exact hne) _).setCell (by exact hne) _
    · intro i hi
      omega

/-- The first i integers without e'. -/
def fil (i : Nat) (u : Nat → Int) (e' : Int) : List Int := ((List.range i).map u).filter fun z => !decide (z = e')

theorem fil_len (i : Nat) (u : Nat → Int) (e' : Int) : (fil i u e').length ≤ i := by
  have := List.length_filter_le (fun z => !decide (z = e')) ((List.range i).map u)
  simpa [fil] using this

theorem fil_push (i : Nat) (u : Nat → Int) (e' : Int) : fil (i + 1) u e' = if u i = e' then fil i u e' else fil i u e' ++ [u i] := by
  unfold fil
  rw [List.range_succ, List.map_append, List.filter_append]
  by_cases h : u i = e' <;> simp [h]

theorem iV_inj {a b : Int} : iV a = iV b ↔ a = b := by simp [iV]

theorem rem_fil (i : Nat) (u : Nat → Int) (e' : Int) : rem (lst i (fun t => iV (u t))) (iV e') = (fil i u e').map iV := by
  unfold rem lst fil
  rw [List.filter_map, List.filter_map, List.map_map]
  congr 1
  apply List.filter_congr
  intro x _
  simp [iV_inj]

theorem fil_lst {nr m : Nat} {xr : Nat → V} {u : Nat → Int} {e' : Int} (h : lst nr xr = rem (lst m (fun t => iV (u t))) (iV e')) : nr = (fil m u e').length ∧ ∀ t, t < nr → xr t = iV ((fil m u e').getD t 0) := by
  rw [rem_fil] at h
  have hl : nr = (fil m u e').length := by have := congrArg List.length h; simpa [lst_len] using this
  refine ⟨hl, fun t ht => ?_⟩
  have h1 : (lst nr xr)[t]? = ((fil m u e').map iV)[t]? := by rw [h]
  rw [lst_get nr xr t ht, List.getElem?_map, List.getElem?_eq_getElem (by omega)] at h1
  rw [List.getD_eq_getElem?_getD, List.getElem?_eq_getElem (by omega)]
  exact Option.some.inj h1

theorem info3 : (Ybad.prog.info? 3).map (fun i => (i.zero, i.size, i.bytes)) = some (some (.int .i64 0), 1, 8) := by kernel_rfl

def zeros1 (n : Nat) : Array Value := madeCells #[.int .i64 0] (n * 1)
theorem size_zeros1 (n : Nat) : (zeros1 n).size = n * 1 := size_madeCells _ _

theorem make22z (n : Nat) (hn : n ≤ 1024) (w : World) : (Instr.makeSlice 22 (.int .i64 0) (.int .i64 (n : Int))).run Ybad.prog w =
    .ok (.slice (some ⟨w.heap.size, 0, none⟩) 0 n) (w.alloc (.cells (zeros1 n) 3)) := by
  obtain ⟨i, hi, hzz⟩ := Option.map_eq_some_iff.1 info3
  simp only [Prod.mk.injEq] at hzz
  obtain ⟨hz, hs, hb⟩ := hzz
  have hr := run_make (P := Ybad.prog) w 22 3 i _ Ybad.underlying22 hi hz .i64 .i64 0 n (by omega) (by omega) (by rw [hb]; omega) (by omega)
  simp only [Int.toNat_natCast, Int.toNat_zero, hs] at hr
  exact hr

theorem build_one (w : World) (z : Int) {b : Nat} (hb : b = w.heap.size) : ∀ j u, ([.int .i64 z] : List Value)[j]? = some u → (w.alloc (.cells #[.int .i64 z] 3)).cell? ((⟨b, 0, none⟩ : Addr).add j) = some u := by
  intro j u hj
  subst hb
  rw [Addr.add_lit, Nat.zero_add, World.cell?_alloc_at _ _ _ _ rfl]
  simpa using hj

theorem one_one1 (z : Int) : ∀ u ∈ ([.int .i64 z] : List Value), u.oneCell' = true := by
  intro u hu
  obtain rfl := List.mem_singleton.1 hu
  rfl

theorem VC.fiveI {w : World} {g n : Nat} {u : Nat → Int} (h : VC w g n (fun i => iV (u i))) {i : Nat} (hi : i < n) :
    w.cell? ⟨g, i * 5, none⟩ = some (.int .u8 4) ∧ w.cell? ⟨g, i * 5 + 1, none⟩ = some (.bool false) ∧ w.cell? ⟨g, i * 5 + 2, none⟩ = some (.int .i64 0) ∧
      w.cell? ⟨g, i * 5 + 3, none⟩ = some (.int .i64 (u i)) ∧ w.cell? ⟨g, i * 5 + 4, none⟩ = some (.slice none 0 0) := h.five hi

theorem neq_nil23 (w : World) : (binOp .neq 23 (.slice none 0 0) (.slice none 0 0)).run Ybad.prog w = .ok (.bool false) w := by
  simp only [binOp]
  simp [Op.equal, Op.maxDepth, Lib.run_equalIn_slice_nil w 9999 23 28 none 0 0 0 0 Ybad.underlying23]

set_option maxRecDepth 100000 in
set_option maxHeartbeats 8000000 in
theorem ints_core (a : Option Addr) (n c : Nat) (ev pk : Int) (mb : Bool) (m : Nat) (u : Nat → Int) (w : World) (hn : n ≤ 1024) (hm1 : m ≤ 1024) (hpk : 0 ≤ pk ∧ pk ≤ 255) (hA : Asc m (fun i => iV (u i)))
    (hI : ∀ W, RowKit.Below w.heap.size w W → Calls Ybad.prog 5 #[.slice a n c] W fun e w' => ∃ g, e = .returned (.slice (some ⟨g, 0, none⟩) m m) ∧ W.heap.size ≤ g ∧ g < w'.heap.size ∧ VC w' g m (fun i => iV (u i)) ∧ RowKit.Below W.heap.size W w') :
    Calls Ybad.prog 3 #[.slice a n c, .int .i64 ev, .int .u8 pk, .bool mb] w fun e w' => e = .returned (.bool true) ∧ RowKit.Below w.heap.size w w' := by
  have hm := mixed
  have HI := hid hI
  have HP := hid hpk
  have HA := hid hA
  clear hI hpk hA
  have hd1 : decide ((1024 : Int) < n) = false := by simp; omega
  have hi1 : ¬ (1024 : Int) < n := by omega
  go_enter Ybad.func3, Ybad.ntmps3
  go_wp2_with fail
  refine (HI.out w (RowKit.Below.refl _ _)).mono ?_
  rintro e w1 ⟨g, rfl, hg0, hg1, hV1, hb1⟩
  have HV1 := hid hV1
  have HB1 := hid hb1
  have HG0 := hid hg0
  have HG1 := hid hg1
  clear hg0 hg1 hV1 hb1
  go_upto_region 4 with fail
  go_cut [30] (fun c wx => c = .bool (mb && decide (0 < m)) ∧ wx = w1)
  case first =>
    cases mb
    · go_wp2_with fail
      go_meet
      exact ⟨rfl, rfl⟩
    · by_cases hn0 : 0 < m
      · have hd0 : decide ((0 : Int) < m) = true := by simp; omega
        have hi0 : (0 : Int) < m := by omega
        go_wp2_with fail
        go_meet
        exact ⟨by simp [hn0], rfl⟩
      · have hd0 : decide ((0 : Int) < m) = false := by simp; omega
        have hi0 : ¬ (0 : Int) < m := by omega
        have HN0 := hid hn0
        clear hn0
        go_wp2_with fail
        go_meet
        exact ⟨by simp [HN0.out], rfl⟩
  case rest =>
    obtain ⟨rfl, hw0⟩ := hcut
    have hw1 := hw0.symm
    clear hw0
    subst hw1
    obtain ⟨t, HT⟩ : ∃ t : Bool, Hid (t = (mb && decide (0 < m))) := ⟨_, hid rfl⟩
    rw [← HT.out]
    go_upto_if 30 with fail
    go_cut [1] (fun s wx => wx = w1 ∧ ∃ e' : Int, s = .int .i64 e')
    case first =>
      cases t
      · go_wp2_with fail
        go_meet
        exact ⟨rfl, _, rfl⟩
      · have hn0 : 0 < m := by
          have := HT.out
          simp at this
          exact this.2
        have hi0 : (0 : Int) < m := by omega
        obtain ⟨p, hp⟩ : ∃ p : Nat, pk % (m : Int) = p := ⟨(pk % (m : Int)).toNat, by have := Int.emod_nonneg pk (show (m : Int) ≠ 0 by omega); omega⟩
        have hpn : p < m := by have := Int.emod_lt_of_pos pk hi0; omega
        have hp0 := HP.out.1
        have hp1 := HP.out.2
        have hp2 : (p : Int) < m := by omega
        have hp3 : (0 : Int) ≤ p := by omega
        have d3 : w1.cell? ⟨g, p * 5 + 3, none⟩ = some (.int .i64 (u p)) := (HV1.out.five hpn).2.2.2.1
        go_wp2_with fail
        go_meet
        exact ⟨rfl, _, rfl⟩
    case rest =>
      obtain ⟨hw0, e', rfl⟩ := hcut
      have hw1 := hw0.symm
      clear hw0
      subst hw1
      clear HT HP
      have HW6 : Hid (∀ W, RowKit.Below w1.heap.size w1 W → Calls Ybad.prog 6 #[.agg #[.int .u8 6, .bool false, .int .i64 0, .int .i64 0, .slice (some ⟨g, 0, none⟩) m m], .agg #[.int .u8 4, .bool false, .int .i64 0, .int .i64 e', .slice none 0 0]] W fun e w' =>
          ∃ gr nr cr xr, e = .returned (.agg #[.int .u8 6, .bool false, .int .i64 0, .int .i64 0, .slice (some ⟨gr, 0, none⟩) nr cr]) ∧ gr < w'.heap.size ∧ VC w' gr nr xr ∧ lst nr xr = rem (lst m (fun i => iV (u i))) (iV e') ∧ RowKit.Below W.heap.size W w') :=
        hid fun W hW => without6 g m m _ (iV e') W (HV1.out.below hW HG1.out) (Nat.lt_of_lt_of_le HG1.out hW.size) hm1 (Nat.le_refl _) HA.out
      go_upto_region 7 with fail
      go_cut [11] (fun s wx => Rin w1 m u e' s wx)
      case first =>
        go_region_with (first
          | (go_at_call 7; refine (intOf7 e' _).mono ?_; rintro e w' ⟨rfl, o, rfl⟩)
          | (go_at_call 6; refine (HW6.out _ (by repeat (first | exact RowKit.Below.refl _ _ | refine RowKit.Below.drew ?_ | refine RowKit.Below.alloc ?_ (by simp <;> omega) _))).mono ?_; rintro e w6 ⟨gr, nr, cr, xr, rfl, hgr, hVr, hlr, hbr⟩; have hcl := fun (p : Addr) hp => hbr.cell (p := p) hp; have hfl := fun (p : Addr) hp => hbr.frozen (p := p) hp; have HR6 := hid (And.intro hgr (And.intro hVr (And.intro hlr hbr))); clear hgr hVr hlr hbr))
        all_goals (
          clear hcl hfl
          have hBW : RowKit.Below w1.heap.size w1 w6 := by
            refine RowKit.Below.trans ?_ (HR6.out.2.2.2.mono (by simp <;> omega))
            repeat (first | exact RowKit.Below.refl _ _ | refine RowKit.Below.drew ?_ | refine RowKit.Below.alloc ?_ (by simp <;> omega) _)
          have HBW := hid hBW
          clear hBW
          go_wp2_with fail
          go_meet
          first
          | exact rinA HR6.out.1 HR6.out.2.1 HR6.out.2.2.1 HBW.out
          | exact rinB (b := w1.heap.size + 1 + 1) HR6.out.1 HR6.out.2.1 HR6.out.2.2.1 HBW.out (by omega) (Nat.lt_of_lt_of_le (by simp <;> omega) HR6.out.2.2.2.size) ((HR6.out.2.2.2.cell (by simp <;> omega)).trans (by go_simp)) ((HR6.out.2.2.2.cell (by simp <;> omega)).trans (by go_simp))
          | exact rinB (b := w1.heap.size + 1) HR6.out.1 HR6.out.2.1 HR6.out.2.2.1 HBW.out (by omega) (Nat.lt_of_lt_of_le (by simp <;> omega) HR6.out.2.2.2.size) ((HR6.out.2.2.2.cell (by simp <;> omega)).trans (by go_simp)) ((HR6.out.2.2.2.cell (by simp <;> omega)).trans (by go_simp)))
      case rest =>
        obtain ⟨bq, gr, nr, cr, xr, rfl, HQ0, HR0, HK, HS, HR, HL, HB⟩ := hcut
        have HV := hid (HV1.out.below HB.out HG1.out)
        have hgW : g < wc.heap.size := Nat.lt_of_lt_of_le HG1.out HB.out.size
        have HBw := hid (HB1.out.trans (HB.out.mono HB1.out.size))
        have hk0 := HK.out
        have hmz := make22z m hm1
        clear HV1 HB1 HB HW6 HA HG1 HK
        go_wp2_with fail
        clear hk0 hmz
        have HO8 : Hid ((wc.alloc (.cells (zeros1 m) 3)).ownsRow wc.heap.size 3 1 (.slice (some ⟨wc.heap.size, 0, none⟩) 0 m) 0 ((fil 0 u e').map (Value.int .i64))) := hid (World.ownsRow_made (base := wc.heap.size) (e := 3) (size := 1) wc (zeros1 m) m (Nat.le_refl _) (le_max (by omega)) (size_zeros1 m))
        have HP8 := hid ((RowKit.Below.refl wc.heap.size wc).alloc (Nat.le_refl _) (.cells (zeros1 m) 3))
        go_loopw [12, 14, 54] (fun s12 _ s wr => ∃ i : Nat, i ≤ m ∧ s = .int .i64 i ∧ Hid (wr.ownsRow wc.heap.size 3 1 s12 (fil i u e').length ((fil i u e').map (Value.int .i64))) ∧ Hid (s12 ≠ .slice none 0 0) ∧ Hid (RowKit.Below wc.heap.size wc wr)) (fun _ _ s _ => m - (intOf s).toNat)
        case atStart => exact ⟨0, by omega, rfl, HO8, hid (by simp), HP8⟩
        case round =>
          rename_i hrel
          obtain ⟨i, him, rfl, HO, HNN, HBW⟩ := hrel
          clear HO8 HP8
          have hsz := HBW.out.size
          by_cases hlt : i < m
          · have hi0 : (i : Int) < m := by omega
            have hi2 : (0 : Int) ≤ i := by omega
            have hd : decide ((i : Int) < m) = true := by simp; omega
            obtain ⟨d0, d1, d2, d3, d4⟩ := (HV.out.below HBW.out hgW).fiveI hlt
            cases hb : (u i == e')
            · have hb2 : (u i != e') = true := by simp [bne, hb]
              have HE := hid hb
              clear hb
              obtain ⟨i0, hi3, hzz⟩ := Option.map_eq_some_iff.1 info3
              simp only [Prod.mk.injEq] at hzz
              have HI3 := hid (And.intro hi3 hzz)
              clear hi3 hzz
              go_wp2_with (at_builtin; refine wpList_append_own _ rfl _ _ 22 rfl wc.heap.size 3 i0 _ 1 8 Ybad.underlying22 HI3.out.1 HI3.out.2.1 HI3.out.2.2.1 HI3.out.2.2.2 rfl (by omega) _ (fil i u e').length ((fil i u e').map (Value.int .i64)) rfl ((HO.out.alloc _).alloc _) ⟨wr.heap.size + 1, 0, none⟩ 1 1 [.int .i64 (u i)] rfl rfl (build_one _ _ (by simp)) (one_one1 _) ?qc4 ?qc5 ?qc6 ?_)
              case qc4 => exact le_max (by have := fil_len i u e'; omega)
              case qc5 => exact by have := fil_len i u e'; omega
              case qc6 => exact Nat.le_trans hsz (Nat.le_trans (le_alloc _ _) (le_alloc _ _))
              intro v' w9 hown hgrow hnil
              clear d0 d1 d2 d3 d4
              have HN1 := hid hnil
              have HO1 := hid hown
              have HB9 := hid (RowKit.Below.grown ((HBW.out.alloc hsz (.cells #[.int .u8 4, .bool false, .int .i64 0, .int .i64 (u i), .slice none 0 0] 28)).alloc (Nat.le_trans hsz (le_alloc _ _)) (.cells #[.int .i64 (u i)] 3)) hgrow (Nat.le_trans hsz (Nat.le_trans (le_alloc _ _) (le_alloc _ _))) (fun kk hk => (HO.out.lt kk hk).1))
              clear hnil hown hgrow
              go_wp2_with fail
              go_roundw
              case rel =>
                refine ⟨i + 1, by omega, by go_num, hid ?_, HN1, HB9⟩
                rw [fil_push, if_neg (by have := HE.out; simpa using this)]
                simpa using HO1.out
              case measure => simp [intOf]; omega
            · have hb2 : (u i != e') = false := by simp [bne, hb]
              have HE := hid hb
              clear hb
              go_wp2_with fail
              clear d0 d1 d2 d3 d4
              go_roundw
              case rel =>
                refine ⟨i + 1, by omega, by go_num, hid ?_, HNN, hid (HBW.out.alloc hsz _)⟩
                rw [fil_push, if_pos (by have := HE.out; simpa using this)]
                exact HO.out.alloc _
              case measure => simp [intOf]; omega
          · have him' : i = m := by omega
            subst him'
            have hd : decide ((i : Int) < i) = false := by simp
            obtain ⟨hnr, hxr⟩ := fil_lst HL.out
            obtain ⟨gw, cw, rfl, hgw0, hgwS, _, _, _, hH⟩ := Lib.holds_of_ownsRow HO.out HNN.out
            obtain ⟨f, hf⟩ : ∃ f : Nat → Int, f = fun t => (fil i u e').getD t 0 := ⟨_, rfl⟩
            have HW : Hid (∀ t, t < nr → wr.cell? ⟨gw, t, none⟩ = some (.int .i64 (f t))) := hid fun t ht => by
              have h1 := (hH t (by simp; omega)).1
              rw [Nat.zero_add] at h1
              rw [h1, hf]
              simp [List.getD_eq_getElem?_getD, List.getElem?_eq_getElem (show t < (fil i u e').length by omega)]
            have HRI : Hid (VC wr gr nr (fun t => iV (f t))) := hid ((HR.out.below HBW.out HR0.out).congr fun t ht => by rw [hxr t ht, hf])
            rw [← hnr]
            have hnr1 : nr ≤ 1024 := by have := fil_len i u e'; omega
            have HQ := hid ((HBW.out.cell (p := ⟨bq, 4, none⟩) (by exact HQ0.out)).trans HS.out)
            have hbqW : bq < wr.heap.size := Nat.lt_of_lt_of_le HQ0.out hsz
            have hgrW : gr < wr.heap.size := Nat.lt_of_lt_of_le HR0.out hsz
            have hgW1 : g < wr.heap.size := Nat.lt_of_lt_of_le hgW hsz
            have HV10 := hid (HV.out.below HBW.out hgW)
            have HB10 := hid (HBw.out.trans (HBW.out.mono HBw.out.size))
            clear hnr hxr hgw0 hH hf HO HNN HL HR HS HBW HV HBw HQ0 HR0 hgW hsz
            obtain ⟨W10, hW10⟩ : ∃ W10, W10 = wr := ⟨_, rfl⟩
            subst hW10
            have hq4 := HQ.out
            go_wp2_with fail
            clear hq4
            go_loopw [15, 16, 17, 76] (fun _ _ _ s wr => ∃ t : Nat, t ≤ nr ∧ s = .int .i64 t ∧ Hid (RowKit.Below W10.heap.size W10 wr)) (fun _ _ _ s _ => nr - (intOf s).toNat)
            case atStart => exact ⟨0, by omega, rfl, hid (RowKit.Below.refl _ _)⟩
            case round =>
              rename_i hrel
              obtain ⟨t, htn, rfl, HT⟩ := hrel
              have hsz := HT.out.size
              by_cases hlt3 : t < nr
              · have hi0 : (t : Int) < nr := by omega
                have hi2 : (0 : Int) ≤ t := by omega
                have hd3 : decide ((t : Int) < nr) = true := by simp; omega
                have q4 := (HT.out.cell (p := ⟨bq, 4, none⟩) (by exact hbqW)).trans HQ.out
                have c0 := (HT.out.cell (p := ⟨gw, t, none⟩) (by exact hgwS)).trans (HW.out t hlt3)
                obtain ⟨d0, d1, d2, d3, d4⟩ := (HRI.out.below HT.out hgrW).fiveI hlt3
                have hne := neq_nil23
                go_wp2_with fail
                clear d0 d1 d2 d3 d4 c0 q4 hne
                go_roundw
                case rel => exact ⟨t + 1, by omega, by go_num, hid (HT.out.alloc hsz _)⟩
                case measure => simp [intOf]; omega
              · have hd3 : decide ((t : Int) < nr) = false := by simp; omega
                have HV11 := hid (HV10.out.below HT.out hgW1)
                have HB11 := hid (HB10.out.trans (HT.out.mono HB10.out.size))
                have hgW11 : g < wr.heap.size := Nat.lt_of_lt_of_le hgW1 hsz
                clear HV10 HB10 HRI HW HQ HT hsz hgwS hbqW hgrW hgW1
                obtain ⟨W11, hW11⟩ : ∃ W11, W11 = wr := ⟨_, rfl⟩
                subst hW11
                go_wp2_with fail
                refine (HI.out W11 HB11.out).mono ?_
                rintro e w12 ⟨g2, rfl, hg20, hg21, hV12, hb12⟩
                have HV12 := hid hV12
                have HV13 := hid (HV11.out.below hb12 hgW11)
                have HB13 := hid (HB11.out.trans (hb12.mono HB11.out.size))
                have hgW13 : g < w12.heap.size := Nat.lt_of_lt_of_le hgW11 hb12.size
                clear hg20 hV12 hb12 HV11 HB11 hgW11
                go_wp2_with fail
                go_loopw [19, 119] (fun _ s wr => ∃ t : Nat, t ≤ i ∧ s = .int .i64 t ∧ Hid (RowKit.Below w12.heap.size w12 wr)) (fun _ s _ => i - (intOf s).toNat)
                case atStart => exact ⟨0, by omega, rfl, hid (RowKit.Below.refl _ _)⟩
                case round =>
                  rename_i hrel
                  obtain ⟨t2, htn2, rfl, HT⟩ := hrel
                  have hsz := HT.out.size
                  by_cases hlt4 : t2 < i
                  · have hi0 : (t2 : Int) < i := by omega
                    have hi2 : (0 : Int) ≤ t2 := by omega
                    have hd4 : decide ((t2 : Int) < i) = true := by simp; omega
                    obtain ⟨d0, d1, d2, d3, d4⟩ := (HV13.out.below HT.out hgW13).fiveI hlt4
                    obtain ⟨c0, c1, c2, c3, c4⟩ := (HV12.out.below HT.out hg21).fiveI hlt4
                    have hr' : g < wr.heap.size := Nat.lt_of_lt_of_le hgW13 hsz
                    have hw' : g2 < wr.heap.size := Nat.lt_of_lt_of_le hg21 hsz
                    have e0 := fun q os => cell_grown (by exact hr') d0 q os
                    have e1 := fun q os => cell_grown (by exact hr') d1 q os
                    have e2 := fun q os => cell_grown (by exact hr') d2 q os
                    have e3 := fun q os => cell_grown (by exact hr') d3 q os
                    have e4 := fun q os => cell_grown (by exact hr') d4 q os
                    have z0 := fun q os => cell_grown (by exact hw') c0 q os
                    have z1 := fun q os => cell_grown (by exact hw') c1 q os
                    have z2 := fun q os => cell_grown (by exact hw') c2 q os
                    have z3 := fun q os => cell_grown (by exact hw') c3 q os
                    have z4 := fun q os => cell_grown (by exact hw') c4 q os
                    have HC3 : Hid (∀ W : World, Calls Ybad.prog 8 #[.agg #[.int .u8 4, .bool false, .int .i64 0, .int .i64 (u t2), .slice none 0 0], .agg #[.int .u8 4, .bool false, .int .i64 0, .int .i64 (u t2), .slice none 0 0]] W fun e w' => e = .returned (.bool true) ∧ ∃ q os', w' = grow (W.drewN q) os') := hid fun W => by
                      have h := eq_calls (iV (u t2)) (iV (u t2)) W
                      rw [decide_eq_true rfl] at h
                      exact h
                    clear c0 c1 c2 c3 c4 d0 d1 d2 d3 d4
                    go_wp2_with fail
                    go_quiet_grown ((go_at_call 8; refine Calls.grown_of (HC3.out _)))
                    clear e0 e1 e2 e3 e4 z0 z1 z2 z3 z4
                    go_wp2_with fail
                    go_roundw
                    case rel => exact ⟨t2 + 1, by omega, by go_num, hid (HT.out.trans ((below_grow wr nq osq).mono hsz))⟩
                    case measure => simp [intOf]; omega
                  · have hd4 : decide ((t2 : Int) < i) = false := by simp; omega
                    have HF := hid (HB13.out.trans (HT.out.mono HB13.out.size))
                    clear HB13 HT
                    go_wp2_with fail
                    go_ret
                    exact ⟨rfl, HF.out⟩

end Go.Proofs.YbulkbjvgDoor
