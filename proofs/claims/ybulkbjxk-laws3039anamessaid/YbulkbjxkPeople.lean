import Derived.Test.YbulkbjxkBuild
namespace Go.Proofs.Ybulkbjxk
open Go.RowKit

set_option maxRecDepth 100000 in
set_option maxHeartbeats 1000000 in
theorem people_any (p len : Nat) (L : Nat → Nat) (S : Nat → Nat → ByteArray) (w : World) (hB : Built w p len len L S) (hlen : len ≤ 1024) (htot : tot L len ≤ 1024) (hsz : p + 2 + 2 * len ≤ w.heap.size) :
    Calls Yba.prog 8 #[.pointer (some ⟨p, 0, none⟩)] w fun e w' => e = .returned (.pointer (some ⟨w.heap.size, 0, none⟩)) ∧ Below w.heap.size w w' ∧ w.heap.size < w'.heap.size ∧
      w'.cell? ⟨w.heap.size, 0, none⟩ = some (.slice (some ⟨p + 1, 0, none⟩) len len) ∧ w'.cell? ⟨w.heap.size, 1, none⟩ = some (.int .i64 (tot L len)) := by
  have hpl := hB.plan.cell
  have hplt := hB.plan.lt
  go_enter Yba.func8, Yba.ntmps8
  go_wp2
  go_loopw [17] (fun i wr => ∃ k : Nat, k ≤ len ∧ i = .int .i64 k ∧ Below w.heap.size w wr ∧ wr.heap.size = w.heap.size + 1 ∧ ∃ f, wr.rowIs w.heap.size 34 2 f ∧ f 0 = .slice (some ⟨p + 1, 0, none⟩) len len ∧ f 1 = .int .i64 (tot L k))
    (fun i _ => len - (intOf i).toNat)
  case atStart => exact ⟨0, Nat.zero_le _, rfl, (Below.refl _ _).alloc (Nat.le_refl _) _, by simp, _, row_lit w _ 34, rfl, rfl⟩
  case round =>
    obtain ⟨k, hk, rfl, hnx, hs1, f, hrow, f0, f1⟩ := hrel
    by_cases hlt : k < len
    · have hB' := hB.below hnx hsz
      have cp := hB'.part (Nat.le_refl _) hlt
      have cr := (hB'.pt k hlt).cell
      have hL := le_tot L hlt
      have ht := tot_mono L hk
      have c1 := hrow.cell (i := 1) (by decide)
      have fr := hrow.frozen 1
      rw [f1] at c1
      have HB := hid hB
      have HW := hid hrow
      have HS := hid hs1
      have H0 := hid f0
      have hltw : p + 1 < wr.heap.size := by omega
      clear hB hB' hrow hs1 f0 f1
      go_wp2
      go_region
      go_wp2
      go_roundw
      case rel =>
        have hr' := HW.out.set 1 (.int .i64 (tot L (k + 1) : Nat))
        exact ⟨k + 1, by omega, by go_num, (hnx.setCell (by simp) _).drew, by simpa using HS.out, _, hr', H0.out, rfl⟩
      case measure => simp [intOf]; omega
    · have hkl : k = len := by omega
      subst hkl
      go_wp2
      go_ret
      exact ⟨rfl, hnx, by omega, by rw [← f0]; exact hrow.cell (by decide), by rw [← f1]; exact hrow.cell (by decide)⟩

theorem people_zero (p : Nat) (a : Option Addr) (c : Nat) (w : World) (hP : Pl w p (.slice a 0 c)) :
    Calls Yba.prog 8 #[.pointer (some ⟨p, 0, none⟩)] w fun e w' => e = .returned (.pointer (some ⟨w.heap.size, 0, none⟩)) ∧ w' = w.alloc (.cells #[.slice a 0 c, .int .i64 0] 34) := by
  have hpl := hP.cell
  have hplt := hP.lt
  clear hP
  go_enter Yba.func8, Yba.ntmps8
  go_wp2
  refine wp_loop_rounds 1 ?_
  rw [rounds_succ]
  go_wp2
  go_ret
  exact ⟨rfl, rfl⟩

set_option maxRecDepth 100000 in
set_option maxHeartbeats 1000000 in
theorem name_any (pe p len : Nat) (L : Nat → Nat) (S : Nat → Nat → ByteArray) (w : World) (i j : Nat) (n : Int) (hB : Built w p len len L S) (hlen : len ≤ 1024) (htot : tot L len ≤ 1024) (hc : w.cell? ⟨pe, 0, none⟩ = some (.slice (some ⟨p + 1, 0, none⟩) len len))
    (hi : i < len) (hj : j < L i) (hn : n = (tot L i + j : Nat)) :
    Calls Yba.prog 9 #[.pointer (some ⟨pe, 0, none⟩), .int .i32 n] w fun e w' => e = .returned (.string (S i j)) ∧ w' = w := by
  have hnb : n ≤ 1024 := by
    have := tot_mono L (show i + 1 ≤ len from hi)
    have e : tot L (i + 1) = tot L i + L i := rfl
    omega
  have h0 : 0 ≤ n := by omega
  go_enter Yba.func9, Yba.ntmps9
  go_wp2
  go_loop [1, 12] (fun s c => ∃ k : Nat, k ≤ i ∧ c = .int .i64 k ∧ ∃ r : Int, s = .int .i32 r ∧ 0 ≤ r ∧ r ≤ 1024 ∧ Hid (r = n - tot L k)) (fun _ c => len - (intOf c).toNat)
  case atStart => exact ⟨0, Nat.zero_le _, rfl, n, rfl, h0, hnb, by simp [Hid, tot]⟩
  case round =>
    obtain ⟨k, hk, rfl, r, rfl, r0, r1, hr⟩ := hrel
    have hkl : k < len := by omega
    have cp := hB.part (Nat.le_refl _) hkl
    have cr := (hB.pt k hkl).cell
    have hLk := le_tot L hkl
    have HN := hid hn
    clear hn
    by_cases hlt : k < i
    · have hge : (L k : Int) ≤ r := by
        have := tot_mono L (show k + 1 ≤ i from hlt)
        have e : tot L (k + 1) = tot L k + L k := rfl
        have := hr.out
        have := HN.out
        omega
      have HB := hid hB
      clear hB
      go_wp2
      go_round
      case rel =>
        have e : tot L (k + 1) = tot L k + L k := rfl
        exact ⟨k + 1, by omega, by go_num, r - L k, rfl, by omega, by omega, by have := hr.out; show r - (L k : Int) = n - (tot L (k + 1) : Nat); omega⟩
      case measure => simp [intOf]; omega
    · have hki : k = i := by omega
      subst hki
      have hlt2 : r < (L k : Int) := by
        have := hr.out
        have := HN.out
        omega
      have hrj : r.toNat = j := by
        have := hr.out
        have := HN.out
        omega
      have cs := (hB.gr k hkl).cell (j := r.toNat) (by omega)
      have HB := hid hB
      have HJ := hid hrj
      clear hB hrj
      go_wp2
      go_ret
      rw [HJ.out]
      exact ⟨rfl, rfl⟩

end Go.Proofs.Ybulkbjxk
