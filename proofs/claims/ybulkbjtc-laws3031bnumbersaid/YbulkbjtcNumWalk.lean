import Derived.Test.YbulkbjtcNumParts
namespace Go.Proofs.Ybulkbjtc
open Go.RowKit Go.Maps Go.WideMaps

set_option maxRecDepth 100000 in
set_option maxHeartbeats 1000000 in
theorem num_odd (b off len cap : Nat) (ss : List ByteArray) (q : ByteArray) (pk : Int) (w : World) (hlen : len ≤ 1024) (hz : len ≤ ss.length) (hb : b < w.heap.size)
    (hc : ∀ j, j < ss.length → w.cell? ⟨b, off + j, none⟩ = some (.string (ss.getD j ByteArray.empty))) (hsz : ∀ s ∈ ss, s.size ≤ maxLen) (hq : q.size ≤ maxLen)
    (p0 : 0 ≤ pk) (p1 : pk ≤ 255) (hodd : (pk % 2 == 0) = false) :
    Calls Yba.prog 3 #[.slice (some ⟨b, off, none⟩) len cap, .string q, .int .u8 pk] w fun e w' => e = .returned (.bool true) ∧ Below w.heap.size w w' := by
  have hmm := run_makeMap_hint
  go_enter Yba.func3, Yba.ntmps3
  go_wp2
  go_loopw [28] (fun i wr => ∃ k : Nat, k ≤ len ∧ i = .int .i64 k ∧ wr.ownsMap Yba.prog 9 (plainElem Yba.prog 21) w.heap.size k (M ss k) ∧ Below w.heap.size w wr)
    (fun i _ => len - (intOf i).toNat)
  case atStart => exact ⟨0, Nat.zero_le _, rfl, World.ownsMap_made _ _ _ _, (Below.refl _ _).alloc (Nat.le_refl _) _⟩
  case round =>
    obtain ⟨k, hk, rfl, hown, hnx⟩ := hrel
    by_cases hlt : k < len
    · obtain ⟨s, hs⟩ : ∃ s, s = ss.getD k ByteArray.empty := ⟨_, rfl⟩
      have hcx : wr.cell? ⟨b, off + k, none⟩ = some (.string s) := by rw [hs]; exact (hnx.cell (by exact hb)).trans (hc k (by omega))
      have hkey : keyOf Yba.prog 9 (.string s) = some (keyAt ss k) := by rw [hs]; exact key_ok hsz k
      clear hs
      have hwk : (Lit.int .i32 (k : Int)).wf = true := by simp [Lit.wf, IntKind.min, IntKind.max, IntKind.signed, IntKind.bits]; omega
      go_wp2_with (first
        | (at_lookup; refine wpList_lookup_own_ok_int _ rfl _ _ 23 rfl 9 21 .i32 law9 Yba.underlying23 Yba.underlying21 (zero21 _) w.heap.size k _ rfl hown _ _ rfl hkey ?_; intro c hat hwc)
        | (at_mapUpdate; refine wpList_mapUpdate_own _ rfl _ _ _ 23 rfl 9 21 law9 Yba.underlying23 _ w.heap.size k _ rfl hown (by unfold maxLen; omega) _ _ _ rfl rfl hkey _ [] (plainElem_int Yba.underlying21 hwk) ?_; intro w1 hown1 hgrow1)
        | go_in)
      · have ht : (!Maps.has (M ss k) (keyAt ss k)) = true := by assumption
        go_roundw
        case rel => exact ⟨k + 1, by omega, by go_num, (M_new ss k (by simpa using ht)).symm ▸ hown1, hnx.grown hgrow1 hnx.size (fun j hj => by cases hj; exact Nat.le_refl _)⟩
        case measure => simp [intOf]; omega
      · have ht : (!Maps.has (M ss k) (keyAt ss k)) = false := by assumption
        go_roundw
        case rel => exact ⟨k + 1, by omega, by go_num, (M_old ss k (by simpa using ht)).symm ▸ hown.mono (Nat.le_succ _), hnx⟩
        case measure => simp [intOf]; omega
    · have hkl : k = len := by omega
      subst hkl
      go_wp2_with fail
      have hbr : b < wr.heap.size := Nat.lt_of_lt_of_le hb hnx.size
      have hcr : ∀ j, j < k → ∃ s2, keyAt ss j = .string s2.data.toList ∧ wr.cell? ⟨b, off + j, none⟩ = some (.string s2) := fun j hj => ⟨ss.getD j ByteArray.empty, rfl, (hnx.cell (by exact hb)).trans (hc j (by omega))⟩
      have HC := hid hcr
      obtain ⟨hy, hn⟩ := M_law ss q.data.toList k
      have hsize := hown.size_le
      clear hc hcr hmm
      cases hh : Maps.has (M ss k) (.string q.data.toList)
      · have Hn := hid (hn hh)
        clear hy hn
        have Hh := hid hh
        clear hh
        refine (numberOf_any wr.heap.size 0 w.heap.size k (M ss k) q (-1) _ (by simp) hq (hown.alloc _) (hid fun c _ => by rw [Hh.out]; rfl)).mono ?_
        rintro e w' ⟨rfl, rfl⟩
        go_wp2_with fail
        go_loop [15, 72] (fun wt i => ∃ k2 : Nat, k2 ≤ k ∧ i = .int .i64 k2 ∧ wt = .int .i32 (-1)) (fun _ i => k - (intOf i).toNat)
        case atStart => exact ⟨0, Nat.zero_le _, rfl, rfl⟩
        case round =>
          obtain ⟨k2, hk2, rfl, rfl⟩ := hrel
          by_cases hlt2 : k2 < k
          · obtain ⟨s2, hk3, hc2⟩ := HC.out k2 hlt2
            have hne : (s2.toList == q.toList) = false := by
              rw [beq_eq_false_iff_ne, ByteArray.toList_eq, ByteArray.toList_eq]
              intro e
              exact Hn.out k2 hlt2 (by rw [hk3, e])
            clear hk3
            go_wp2
            go_round
            case rel => exact ⟨k2 + 1, by omega, by go_num, rfl⟩
            case measure => simp [intOf]; omega
          · have hkl2 : k2 = k := by omega
            subst hkl2
            have hh := Hh.out
            have hsz2 : decide ((Maps.size (M ss k2) : Int) ≤ (k2 : Int)) = true := by simp; omega
            have hln := fun (o : Obj) (ty : TypeId) => (hown.alloc o).len Yba.underlying23 ty
            go_wp2_with (first
              | (at_lookup; refine wpList_lookup_own_ok_int _ rfl _ _ 23 rfl 9 21 .i32 law9 Yba.underlying23 Yba.underlying21 (zero21 _) w.heap.size k2 _ rfl (hown.alloc _) _ _ rfl (keyOf_string_mk Yba.underlying9 hq) ?_; intro c hat hwc)
              | go_in)
            go_ret
            exact ⟨rfl, hnx.alloc hnx.size _⟩
      · obtain ⟨j, hj, hkj, hfirst, hatj⟩ := hy hh
        have Hf := hid hfirst
        have Hk := hid hkj
        have Ha := hid hatj
        clear hy hn hfirst hkj hatj
        have Hh := hid hh
        clear hh
        refine (numberOf_any wr.heap.size 0 w.heap.size k (M ss k) q j _ (by simp) hq (hown.alloc _) (hid fun c hc => by rw [Hh.out]; rw [Ha.out] at hc; simp at hc ⊢; omega)).mono ?_
        rintro e w' ⟨rfl, rfl⟩
        go_wp2_with fail
        go_loop [15, 72] (fun wt i => ∃ k2 : Nat, k2 ≤ j ∧ i = .int .i64 k2 ∧ wt = .int .i32 (-1)) (fun _ i => k - (intOf i).toNat)
        case atStart => exact ⟨0, Nat.zero_le _, rfl, rfl⟩
        case round =>
          obtain ⟨k2, hk2, rfl, rfl⟩ := hrel
          obtain ⟨s2, hk3, hc2⟩ := HC.out k2 (by omega)
          by_cases hlt2 : k2 < j
          · have hne : (s2.toList == q.toList) = false := by
              rw [beq_eq_false_iff_ne, ByteArray.toList_eq, ByteArray.toList_eq]
              intro e
              exact Hf.out k2 hlt2 (by rw [hk3, e])
            clear hk3
            go_wp2
            go_round
            case rel => exact ⟨k2 + 1, by omega, by go_num, rfl⟩
            case measure => simp [intOf]; omega
          · have hkl2 : k2 = j := by omega
            subst hkl2
            have heq : (s2.toList == q.toList) = true := by
              have h1 := Hk.out
              rw [hk3] at h1
              rw [beq_iff_eq, ByteArray.toList_eq, ByteArray.toList_eq]
              simpa using h1
            clear hk3
            have hh := Hh.out
            go_wp2_with (first
              | (at_lookup; refine wpList_lookup_own_ok_int _ rfl _ _ 23 rfl 9 21 .i32 law9 Yba.underlying23 Yba.underlying21 (zero21 _) w.heap.size k _ rfl (hown.alloc _) _ _ rfl (keyOf_string_mk Yba.underlying9 hq) ?_; intro c hat hwc)
              | go_in)
            have hcj : (c == (k2 : Int)) = true := by
              have h1 := hat
              rw [Ha.out] at h1
              simp at h1
              simp [h1]
            rw [hcj]
            go_ret
            exact ⟨rfl, hnx.alloc hnx.size _⟩

set_option maxRecDepth 100000 in
set_option maxHeartbeats 1000000 in
theorem num_even (b off len cap : Nat) (ss : List ByteArray) (q : ByteArray) (pk : Int) (w : World) (hlen : len ≤ 1024) (hz : len ≤ ss.length) (hb : b < w.heap.size)
    (hc : ∀ j, j < ss.length → w.cell? ⟨b, off + j, none⟩ = some (.string (ss.getD j ByteArray.empty))) (hsz : ∀ s ∈ ss, s.size ≤ maxLen) 
    (p0 : 0 ≤ pk) (p1 : pk ≤ 255) (heven : (pk % 2 == 0) = true) (hpos : 0 < len) :
    Calls Yba.prog 3 #[.slice (some ⟨b, off, none⟩) len cap, .string q, .int .u8 pk] w fun e w' => e = .returned (.bool true) ∧ Below w.heap.size w w' := by
  have hmm := run_makeMap_hint
  go_enter Yba.func3, Yba.ntmps3
  go_wp2
  go_loopw [28] (fun i wr => ∃ k : Nat, k ≤ len ∧ i = .int .i64 k ∧ wr.ownsMap Yba.prog 9 (plainElem Yba.prog 21) w.heap.size k (M ss k) ∧ Below w.heap.size w wr)
    (fun i _ => len - (intOf i).toNat)
  case atStart => exact ⟨0, Nat.zero_le _, rfl, World.ownsMap_made _ _ _ _, (Below.refl _ _).alloc (Nat.le_refl _) _⟩
  case round =>
    obtain ⟨k, hk, rfl, hown, hnx⟩ := hrel
    by_cases hlt : k < len
    · obtain ⟨s, hs⟩ : ∃ s, s = ss.getD k ByteArray.empty := ⟨_, rfl⟩
      have hcx : wr.cell? ⟨b, off + k, none⟩ = some (.string s) := by rw [hs]; exact (hnx.cell (by exact hb)).trans (hc k (by omega))
      have hkey : keyOf Yba.prog 9 (.string s) = some (keyAt ss k) := by rw [hs]; exact key_ok hsz k
      clear hs
      have hwk : (Lit.int .i32 (k : Int)).wf = true := by simp [Lit.wf, IntKind.min, IntKind.max, IntKind.signed, IntKind.bits]; omega
      go_wp2_with (first
        | (at_lookup; refine wpList_lookup_own_ok_int _ rfl _ _ 23 rfl 9 21 .i32 law9 Yba.underlying23 Yba.underlying21 (zero21 _) w.heap.size k _ rfl hown _ _ rfl hkey ?_; intro c hat hwc)
        | (at_mapUpdate; refine wpList_mapUpdate_own _ rfl _ _ _ 23 rfl 9 21 law9 Yba.underlying23 _ w.heap.size k _ rfl hown (by unfold maxLen; omega) _ _ _ rfl rfl hkey _ [] (plainElem_int Yba.underlying21 hwk) ?_; intro w1 hown1 hgrow1)
        | go_in)
      · have ht : (!Maps.has (M ss k) (keyAt ss k)) = true := by assumption
        go_roundw
        case rel => exact ⟨k + 1, by omega, by go_num, (M_new ss k (by simpa using ht)).symm ▸ hown1, hnx.grown hgrow1 hnx.size (fun j hj => by cases hj; exact Nat.le_refl _)⟩
        case measure => simp [intOf]; omega
      · have ht : (!Maps.has (M ss k) (keyAt ss k)) = false := by assumption
        go_roundw
        case rel => exact ⟨k + 1, by omega, by go_num, (M_old ss k (by simpa using ht)).symm ▸ hown.mono (Nat.le_succ _), hnx⟩
        case measure => simp [intOf]; omega
    · have hkl : k = len := by omega
      subst hkl
      have i0 : 0 ≤ pk / 2 % (k : Int) := Int.emod_nonneg _ (by omega)
      have i1 : pk / 2 % (k : Int) < k := Int.emod_lt_of_pos _ (by omega)
      obtain ⟨sq, hsq, hcs⟩ : ∃ sq : ByteArray, sq.size ≤ maxLen ∧ wr.cell? ⟨b, off + (pk / 2 % (k : Int)).toNat, none⟩ = some (.string sq) :=
        ⟨ss.getD (pk / 2 % (k : Int)).toNat ByteArray.empty, name_le hsz _, (hnx.cell (by exact hb)).trans (hc _ (by omega))⟩
      go_wp2_with fail
      clear hcs i0 i1
      have hbr : b < wr.heap.size := Nat.lt_of_lt_of_le hb hnx.size
      have hcr : ∀ j, j < k → ∃ s2, keyAt ss j = .string s2.data.toList ∧ wr.cell? ⟨b, off + j, none⟩ = some (.string s2) := fun j hj => ⟨ss.getD j ByteArray.empty, rfl, (hnx.cell (by exact hb)).trans (hc j (by omega))⟩
      have HC := hid hcr
      obtain ⟨hy, hn⟩ := M_law ss sq.data.toList k
      have hsize := hown.size_le
      clear hc hcr hmm
      cases hh : Maps.has (M ss k) (.string sq.data.toList)
      · have Hn := hid (hn hh)
        clear hy hn
        have Hh := hid hh
        clear hh
        refine (numberOf_any wr.heap.size 0 w.heap.size k (M ss k) sq (-1) _ (by simp) hsq (hown.alloc _) (hid fun c _ => by rw [Hh.out]; rfl)).mono ?_
        rintro e w' ⟨rfl, rfl⟩
        go_wp2_with fail
        go_loop [15, 72] (fun wt i => ∃ k2 : Nat, k2 ≤ k ∧ i = .int .i64 k2 ∧ wt = .int .i32 (-1)) (fun _ i => k - (intOf i).toNat)
        case atStart => exact ⟨0, Nat.zero_le _, rfl, rfl⟩
        case round =>
          obtain ⟨k2, hk2, rfl, rfl⟩ := hrel
          by_cases hlt2 : k2 < k
          · obtain ⟨s2, hk3, hc2⟩ := HC.out k2 hlt2
            have hne : (s2.toList == sq.toList) = false := by
              rw [beq_eq_false_iff_ne, ByteArray.toList_eq, ByteArray.toList_eq]
              intro e
              exact Hn.out k2 hlt2 (by rw [hk3, e])
            clear hk3
            go_wp2
            go_round
            case rel => exact ⟨k2 + 1, by omega, by go_num, rfl⟩
            case measure => simp [intOf]; omega
          · have hkl2 : k2 = k := by omega
            subst hkl2
            have hh := Hh.out
            have hsz2 : decide ((Maps.size (M ss k2) : Int) ≤ (k2 : Int)) = true := by simp; omega
            have hln := fun (o : Obj) (ty : TypeId) => (hown.alloc o).len Yba.underlying23 ty
            go_wp2_with (first
              | (at_lookup; refine wpList_lookup_own_ok_int _ rfl _ _ 23 rfl 9 21 .i32 law9 Yba.underlying23 Yba.underlying21 (zero21 _) w.heap.size k2 _ rfl (hown.alloc _) _ _ rfl (keyOf_string_mk Yba.underlying9 hsq) ?_; intro c hat hwc)
              | go_in)
            go_ret
            exact ⟨rfl, hnx.alloc hnx.size _⟩
      · obtain ⟨j, hj, hkj, hfirst, hatj⟩ := hy hh
        have Hf := hid hfirst
        have Hk := hid hkj
        have Ha := hid hatj
        clear hy hn hfirst hkj hatj
        have Hh := hid hh
        clear hh
        refine (numberOf_any wr.heap.size 0 w.heap.size k (M ss k) sq j _ (by simp) hsq (hown.alloc _) (hid fun c hc => by rw [Hh.out]; rw [Ha.out] at hc; simp at hc ⊢; omega)).mono ?_
        rintro e w' ⟨rfl, rfl⟩
        go_wp2_with fail
        go_loop [15, 72] (fun wt i => ∃ k2 : Nat, k2 ≤ j ∧ i = .int .i64 k2 ∧ wt = .int .i32 (-1)) (fun _ i => k - (intOf i).toNat)
        case atStart => exact ⟨0, Nat.zero_le _, rfl, rfl⟩
        case round =>
          obtain ⟨k2, hk2, rfl, rfl⟩ := hrel
          obtain ⟨s2, hk3, hc2⟩ := HC.out k2 (by omega)
          by_cases hlt2 : k2 < j
          · have hne : (s2.toList == sq.toList) = false := by
              rw [beq_eq_false_iff_ne, ByteArray.toList_eq, ByteArray.toList_eq]
              intro e
              exact Hf.out k2 hlt2 (by rw [hk3, e])
            clear hk3
            go_wp2
            go_round
            case rel => exact ⟨k2 + 1, by omega, by go_num, rfl⟩
            case measure => simp [intOf]; omega
          · have hkl2 : k2 = j := by omega
            subst hkl2
            have heq : (s2.toList == sq.toList) = true := by
              have h1 := Hk.out
              rw [hk3] at h1
              rw [beq_iff_eq, ByteArray.toList_eq, ByteArray.toList_eq]
              simpa using h1
            clear hk3
            have hh := Hh.out
            go_wp2_with (first
              | (at_lookup; refine wpList_lookup_own_ok_int _ rfl _ _ 23 rfl 9 21 .i32 law9 Yba.underlying23 Yba.underlying21 (zero21 _) w.heap.size k _ rfl (hown.alloc _) _ _ rfl (keyOf_string_mk Yba.underlying9 hsq) ?_; intro c hat hwc)
              | go_in)
            have hcj : (c == (k2 : Int)) = true := by
              have h1 := hat
              rw [Ha.out] at h1
              simp at h1
              simp [h1]
            rw [hcj]
            go_ret
            exact ⟨rfl, hnx.alloc hnx.size _⟩

set_option maxRecDepth 100000 in
set_option maxHeartbeats 1000000 in
/-- No name: a slice of length 0, a nil one too. -/
theorem num_zero (a : Option Addr) (cap : Nat) (q : ByteArray) (pk : Int) (w : World) (hq : q.size ≤ maxLen) (p0 : 0 ≤ pk) (p1 : pk ≤ 255) :
    Calls Yba.prog 3 #[.slice a 0 cap, .string q, .int .u8 pk] w fun e w' => e = .returned (.bool true) ∧ Below w.heap.size w w' := by
  have hmm := run_makeMap_hint
  have hown : (w.alloc (.map #[] 0)).ownsMap Yba.prog 9 (plainElem Yba.prog 21) w.heap.size 0 (.map [] : DataW Unit) := World.ownsMap_made _ _ _ _
  have hh : Maps.has (.map [] : DataW Unit) (.string q.data.toList) = false := by simp [Maps.has]
  have hln := fun (o : Obj) (ty : TypeId) => (hown.alloc o).len Yba.underlying23 ty
  have hsz0 : Maps.size (.map [] : DataW Unit) = 0 := rfl
  cases hp : (pk % 2 == 0)
  all_goals
    go_enter Yba.func3, Yba.ntmps3
    go_wp2
    refine wp_loop_rounds 1 ?_
    rw [rounds_succ]
    go_wp2_with fail
    refine (numberOf_any (w.heap.size + 1) 0 w.heap.size 0 (.map []) q (-1) _ (by simp) hq (hown.alloc _) (hid fun c _ => by rw [hh]; rfl)).mono ?_
    rintro e w' ⟨rfl, rfl⟩
    go_wp2_with fail
    refine wp_loop_rounds 1 ?_
    rw [rounds_succ]
    go_wp2_with (first
      | (at_lookup; refine wpList_lookup_own_ok_int _ rfl _ _ 23 rfl 9 21 .i32 law9 Yba.underlying23 Yba.underlying21 (zero21 _) w.heap.size 0 _ rfl (hown.alloc _) _ _ rfl (keyOf_string_mk Yba.underlying9 hq) ?_; intro c hat hwc)
      | go_in)
    go_ret
    exact ⟨rfl, ((Below.refl _ _).alloc (Nat.le_refl _) _).alloc (by simp) _⟩

theorem num_big (a : Option Addr) (len cap : Nat) (q : ByteArray) (pk : Int) (w : World) (hbig : 1024 < len) :
    Calls Yba.prog 3 #[.slice a len cap, .string q, .int .u8 pk] w fun e w' => e = .returned (.bool true) ∧ Below w.heap.size w w' := by
  go_enter Yba.func3, Yba.ntmps3
  go_wp2
  go_ret
  exact ⟨rfl, Below.refl _ _⟩

end Go.Proofs.Ybulkbjtc
