import Derived.Test.YbulkbjxkLines
import Derived.Laws.AppendOwnNone
namespace Go.Proofs.Ybulkbjxk
open Go.RowKit

/-- The names of the first k rosters, one behind the other. -/
def fl (L : Nat → Nat) (S : Nat → Nat → ByteArray) : Nat → List ByteArray
  | 0 => []
  | k + 1 => fl L S k ++ (List.range (L k)).map (S k)

theorem fl_len (L : Nat → Nat) (S : Nat → Nat → ByteArray) : ∀ k, (fl L S k).length = tot L k
  | 0 => rfl
  | k + 1 => by simp [fl, tot, fl_len L S k]

theorem fl_get (L : Nat → Nat) (S : Nat → Nat → ByteArray) {i jj : Nat} (hj : jj < L i) : ∀ k, i < k → (fl L S k)[tot L i + jj]? = some (S i jj)
  | 0, h => by omega
  | k + 1, h => by
    by_cases e : i = k
    · subst e
      rw [fl, List.getElem?_append_right (by rw [fl_len]; omega), fl_len, show tot L i + jj - tot L i = jj by omega]
      simp [hj]
    · have h1 := tot_mono L (show i + 1 ≤ k by omega)
      have h2 : tot L (i + 1) = tot L i + L i := rfl
      rw [fl, List.getElem?_append_left (by rw [fl_len]; omega)]
      exact fl_get L S hj k (by omega)

theorem tot_split (L : Nat → Nat) : ∀ k n, n < tot L k → ∃ i jj, i < k ∧ jj < L i ∧ n = tot L i + jj
  | 0, n, h => by simp [tot] at h
  | k + 1, n, h => by
    by_cases e : n < tot L k
    · obtain ⟨i, jj, h1, h2, h3⟩ := tot_split L k n e
      exact ⟨i, jj, by omega, h2, h3⟩
    · exact ⟨k, n - tot L k, by omega, by have : tot L (k + 1) = tot L k + L k := rfl; omega, by omega⟩

def strs (l : List ByteArray) : List Value := l.map Value.string
theorem strs_append (a b : List ByteArray) : strs (a ++ b) = strs a ++ strs b := by simp [strs]

theorem info9 : (Yba.prog.info? 9).map (fun i => (i.zero, i.size, i.bytes)) = some (some (.string ⟨#[]⟩), 1, 16) := by kernel_rfl

theorem row_shape {w : World} {base : Nat} {v : Value} {n : Nat} {xs : List Value} (h : w.ownsRow base 9 1 v n xs) :
    ∃ g a' c', v = .slice a' n c' ∧ (0 < n → a' = some ⟨g, 0, none⟩ ∧ base ≤ g ∧ g < w.heap.size) ∧ ∀ i u, xs[i]? = some u → w.cell? ⟨g, i, none⟩ = some u := by
  obtain ⟨hl, h⟩ := h
  rcases h with ⟨rfl, rfl⟩ | ⟨g, cap, cur, rfl, hb, hg, _, _, hs, ht⟩
  · refine ⟨0, none, 0, rfl, fun h => by omega, fun i u hu => ?_⟩
    have : xs = [] := List.length_eq_zero_iff.1 (by omega)
    rw [this] at hu
    simp at hu
  · refine ⟨g, some ⟨g, 0, none⟩, cap, rfl, fun _ => ⟨rfl, hb, (Array.getElem?_eq_some_iff.1 hg).1⟩, fun i u hu => ?_⟩
    rw [← ht, List.getElem?_take] at hu
    split at hu
    · simp only [World.cell?, hg]
      simpa using hu
    · cases hu

set_option maxRecDepth 100000 in
set_option maxHeartbeats 2000000 in
theorem names_any (b off len cap : Nat) (A : Nat → Option Addr) (L C IB OI : Nat → Nat) (S : Nat → Nat → ByteArray) (w : World) (hR : Ros w w.heap.size b off len A L C IB OI S) (hlen : len ≤ 1024) (hL : ∀ i, i < len → L i ≤ 140737488355328)
    (hnil : ∀ i, i < len → A i = none → L i = 0 ∧ C i = 0) :
    Calls Yba.prog 4 #[.slice (some ⟨b, off, none⟩) len cap] w fun e w' => e = .returned (.bool true) ∧ Below w.heap.size w w' := by
  obtain ⟨i0, hi, hz0, hz1, hz2⟩ := info_parts info9
  go_enter Yba.func4, Yba.ntmps4
  go_wp2
  go_loop [3, 16] (fun t i => ∃ k : Nat, k ≤ len ∧ i = .int .i64 k ∧ t = .int .i64 (tot L k) ∧ tot L k ≤ 1024) (fun _ i => len - (intOf i).toNat)
  case atStart => exact ⟨0, Nat.zero_le _, rfl, rfl, by simp [tot]⟩
  case round =>
    obtain ⟨k, hk, rfl, rfl, ht⟩ := hrel
    by_cases hlt : k < len
    · have hc := hR.top k hlt
      have hLk := hL k hlt
      have HR := hid hR
      have HL := hid hL
      have htk : tot L (k + 1) = tot L k + L k := rfl
      have HT := hid htk
      clear hR hL htk hnil hi hz0 hz1 hz2
      go_wp2
      · go_ret
        exact ⟨rfl, Below.refl _ _⟩
      · go_round
        case rel => exact ⟨k + 1, by omega, by go_num, by rw [HT.out]; go_num, by rw [HT.out]; omega⟩
        case measure => simp [intOf]; omega
    · have hkl : k = len := by omega
      subst hkl
      have HR := hid hR
      have HN := hid hnil
      have hLt : ∀ i, i < k → L i ≤ 1024 := fun i hi => Nat.le_trans (le_tot L hi) ht
      have HL := hid hLt
      clear hR hL hLt hnil
      go_wp2_with (at_make; refine wpList_make_own _ rfl _ _ 23 rfl w.heap.size 9 i0 (.string ⟨#[]⟩) 1 Yba.underlying23 hi hz0 hz1 .i64 .i64 _ (tot L k) rfl rfl rfl (by rw [hz2]; omega) (by unfold maxLen; omega) (Nat.le_refl _) ?_; intro w1 hown1 hgrow1)
      have hb1 : Below w.heap.size w w1 := (Below.refl _ _).grown hgrow1 (Nat.le_refl _) (fun j hj => by cases hj)
      clear hgrow1
      go_loopw [6, 31] (fun v i wr => ∃ j : Nat, j ≤ k ∧ i = .int .i64 j ∧ Below w.heap.size w wr ∧ wr.ownsRow w.heap.size 9 1 v (tot L j) (strs (fl L S j)))
        (fun _ i _ => k - (intOf i).toNat)
      case atStart => exact ⟨0, Nat.zero_le _, rfl, hb1, hown1⟩
      case round =>
        obtain ⟨j, hj, rfl, hbw, hrow⟩ := hrel
        clear hown1 hb1
        by_cases hlt : j < k
        · have hRw := HR.out.below hbw
          have ca := hRw.top j hlt
          have hLj := HL.out j hlt
          have htj := tot_mono L (show j + 1 ≤ k from hlt)
          have e1 : tot L (j + 1) = tot L j + L j := rfl
          have e2 : strs (fl L S (j + 1)) = strs (fl L S j) ++ strs ((List.range (L j)).map (S j)) := by rw [fl, strs_append]
          have E1 := hid e1
          have E2 := hid e2
          have HW := hid hRw
          rw [e1] at htj
          clear e1 e2 hRw
          cases hA : A j with
          | none =>
            obtain ⟨h1, h2⟩ := HN.out j hlt hA
            rw [hA, h1, h2] at ca
            have H1 := hid h1
            clear hA h1 h2
            go_wp2_with (at_builtin; refine wpList_append_own_none rfl _ _ 23 rfl w.heap.size 9 i0 1 Yba.underlying23 hi _ _ _ rfl hrow rfl ?_)
            go_roundw
            case rel => exact ⟨j + 1, by omega, by go_num, hbw, by rw [E1.out, E2.out, H1.out]; simpa [strs] using hrow⟩
            case measure => simp [intOf]; omega
          | some ad =>
            rw [hA] at ca
            have hnews : ∀ i u, (strs ((List.range (L j)).map (S j)))[i]? = some u → wr.cell? (ad.add i) = some u := by
              intro i u hu
              have hil : i < L j := by
                have := (List.getElem?_eq_some_iff.1 hu).1
                simpa [strs] using this
              obtain ⟨hA2, _⟩ := HW.out.adr j hlt (by omega)
              rw [hA] at hA2
              cases hA2
              rw [WideShapes.add_plain, HW.out.str j hlt i hil]
              simp [strs, hil] at hu
              rw [← hu]
            have hl1 : (strs ((List.range (L j)).map (S j))).length = L j * 1 := by simp [strs]
            have h1c : ∀ u ∈ strs ((List.range (L j)).map (S j)), u.oneCell' = true := by
              intro u hu
              simp [strs] at hu
              obtain ⟨x, _, rfl⟩ := hu
              rfl
            generalize strs ((List.range (L j)).map (S j)) = ns at E2 hnews hl1 h1c
            have N1 := hid hnews
            have N2 := hid hl1
            have N3 := hid h1c
            clear hA hnews hl1 h1c
            go_wp2_with (at_builtin; refine wpList_append_own _ rfl _ _ 23 rfl w.heap.size 9 i0 (.string ⟨#[]⟩) 1 16 Yba.underlying23 hi hz0 hz1 hz2 rfl (by decide) _ _ _ rfl hrow ad (L j) (C j) ns rfl N2.out N1.out N3.out (by unfold maxLen; omega) (by omega) hbw.size ?_; intro v' w2 hown2 hgrow2 hnil2)
            go_roundw
            case rel => exact ⟨j + 1, by omega, by go_num, hbw.grown hgrow2 hbw.size (fun b hb => (hrow.lt b hb).1), by rw [E1.out, E2.out]; exact hown2⟩
            case measure => simp [intOf]; omega
        · have hjk : j = k := by omega
          subst hjk
          obtain ⟨g, a', c', hv, hpos, hcell⟩ := row_shape hrow
          obtain ⟨wo, hwo⟩ : ∃ wo : World, wo = wr := ⟨_, rfl⟩
          by_cases htp : 0 < tot L j
          · obtain ⟨ha, hg1, hg2⟩ := hpos htp
            rw [ha] at hv
            subst hwo
            rw [hv]
            have HS := hid hcell
            clear hv hcell hrow
            go_wp2_with fail
            refine (build_any b off j cap A L C IB OI S _ (HR.out.below hbw |>.mono hbw.size) hlen HL.out).mono ?_
            rintro e w1 ⟨rfl, hb1, hB1, hs1⟩
            go_wp2_with fail
            refine (people_any wo.heap.size j L S w1 hB1 hlen ht (by omega)).mono ?_
            rintro e w3 ⟨rfl, hb3, hlt3, hp0, hp1⟩
            have hB3 : Built w3 wo.heap.size j j L S := hB1.below hb3 (by omega)
            have hlast : Below w.heap.size w w3 := (hbw.trans (hb1.mono hbw.size)).trans (hb3.mono (Nat.le_trans hbw.size hb1.size))
            have hw3 : Below wo.heap.size wo w3 := hb1.trans (hb3.mono hb1.size)
            have G3 := hid hB3
            have G4 := hid hlast
            have G5 := hid hw3
            have G6 := hid hs1
            clear hB3 hlast hw3 hB1 hb1 hb3 hs1
            go_wp2
            go_loopw [51] (fun i wq => ∃ n : Nat, n ≤ tot L j ∧ i = .int .i64 n ∧ Below w3.heap.size w3 wq) (fun i _ => tot L j - (intOf i).toNat)
            case atStart => exact ⟨0, Nat.zero_le _, rfl, Below.refl _ _⟩
            case round =>
              obtain ⟨n, hn, rfl, hbq⟩ := hrel
              by_cases hlt : n < tot L j
              · obtain ⟨i, jj, hi2, hj2, hnn⟩ := tot_split L j n hlt
                have hc1 : wr.cell? ⟨w1.heap.size, 0, none⟩ = _ := (hbq.cell (by exact hlt3)).trans hp0
                have hBq := G3.out.below hbq (by have := G6.out; omega)
                have hcall := fun q => name_any w1.heap.size wo.heap.size j L S (wr.drewN q) i jj (n : Int) (hBq.keep fun _ _ _ => rfl) hlen ht hc1 hi2 hj2 (by omega)
                have hfc : wr.cell? ⟨g, n, none⟩ = some (.string (S i jj)) := ((hbq.cell (by show g < w3.heap.size; have := G5.out.size; omega)).trans (G5.out.cell (by exact hg2))).trans (HS.out n _ (by rw [hnn, strs, List.getElem?_map, fl_get L S hj2 j hi2]; rfl))
                have HNN := hid hnn
                have HBQ := hid hbq
                have i0' : (n : Int) < (tot L j : Int) := by omega
                have i1' : 0 ≤ (n : Int) := by omega
                clear hnn hbq hBq hp0 hp1 hc1
                have HC := hid hcall
                clear hcall
                go_wp2
                go_quiet ((go_at_call 9; exact Calls.quiet_of_same (HC.out _)))
                go_wp2
                go_roundw
                case rel => exact ⟨n + 1, by omega, by go_num, below_drewN HBQ.out _⟩
                case measure => simp [intOf]; omega
              · have hnt : n = tot L j := by omega
                subst hnt
                go_wp2
                go_ret
                exact ⟨rfl, G4.out.trans (hbq.mono G4.out.size)⟩
          · subst hwo
            rw [hv]
            have HS := hid hcell
            clear hv hcell hrow
            go_wp2_with fail
            refine (build_any b off j cap A L C IB OI S _ (HR.out.below hbw |>.mono hbw.size) hlen HL.out).mono ?_
            rintro e w1 ⟨rfl, hb1, hB1, hs1⟩
            go_wp2_with fail
            refine (people_any wo.heap.size j L S w1 hB1 hlen ht (by omega)).mono ?_
            rintro e w3 ⟨rfl, hb3, hlt3, hp0, hp1⟩
            have hB3 : Built w3 wo.heap.size j j L S := hB1.below hb3 (by omega)
            have hlast : Below w.heap.size w w3 := (hbw.trans (hb1.mono hbw.size)).trans (hb3.mono (Nat.le_trans hbw.size hb1.size))
            have hw3 : Below wo.heap.size wo w3 := hb1.trans (hb3.mono hb1.size)
            have G3 := hid hB3
            have G4 := hid hlast
            have G5 := hid hw3
            have G6 := hid hs1
            clear hB3 hlast hw3 hB1 hb1 hb3 hs1
            go_wp2
            go_loopw [51] (fun i wq => ∃ n : Nat, n ≤ tot L j ∧ i = .int .i64 n ∧ Below w3.heap.size w3 wq) (fun i _ => tot L j - (intOf i).toNat)
            case atStart => exact ⟨0, Nat.zero_le _, rfl, Below.refl _ _⟩
            case round =>
              obtain ⟨n, hn, rfl, hbq⟩ := hrel
              by_cases hlt : n < tot L j
              · omega
              · have hnt : n = tot L j := by omega
                subst hnt
                go_wp2
                go_ret
                exact ⟨rfl, G4.out.trans (hbq.mono G4.out.size)⟩

set_option maxRecDepth 100000 in
set_option maxHeartbeats 1000000 in
theorem names_zero (a : Option Addr) (cap : Nat) (hn : a = none → cap = 0) (w : World) :
    Calls Yba.prog 4 #[.slice a 0 cap] w fun e w' => e = .returned (.bool true) ∧ Below w.heap.size w w' := by
  have HN := hid hn
  clear hn
  obtain ⟨i0, hi, hz0, hz1, hz2⟩ := info_parts info9
  go_enter Yba.func4, Yba.ntmps4
  go_wp2
  refine wp_loop_rounds 1 ?_
  rw [rounds_succ]
  go_wp2_with (at_make; refine wpList_make_own _ rfl _ _ 23 rfl w.heap.size 9 i0 (.string ⟨#[]⟩) 1 Yba.underlying23 hi hz0 hz1 .i64 .i64 _ 0 rfl rfl rfl (by omega) (by unfold maxLen; omega) (Nat.le_refl _) ?_; intro w0 hown0 hgrow0)
  have hb0 : Below w.heap.size w w0 := (Below.refl _ _).grown hgrow0 (Nat.le_refl _) (fun j hj => by cases hj)
  clear hown0 hgrow0
  refine wp_loop_rounds 1 ?_
  rw [rounds_succ]
  go_wp2_with fail
  refine (build0 a cap HN.out _).mono ?_
  rintro e w1 ⟨rfl, hb1, a', c', hP⟩
  have hpl := hP.cell
  have hplt := hP.lt
  go_wp2_with fail
  refine (people_zero _ a' c' _ hP).mono ?_
  rintro e w' ⟨rfl, rfl⟩
  go_wp2
  refine wp_loop_rounds 1 ?_
  rw [rounds_succ]
  go_wp2
  go_ret
  exact ⟨rfl, (hb0.trans (hb1.mono hb0.size)).alloc (Nat.le_trans hb0.size hb1.size) _⟩

theorem names_big (a : Option Addr) (len cap : Nat) (w : World) (hbig : 1024 < len) :
    Calls Yba.prog 4 #[.slice a len cap] w fun e w' => e = .returned (.bool true) ∧ Below w.heap.size w w' := by
  go_enter Yba.func4, Yba.ntmps4
  go_wp2
  go_ret
  exact ⟨rfl, Below.refl _ _⟩

end Go.Proofs.Ybulkbjxk
