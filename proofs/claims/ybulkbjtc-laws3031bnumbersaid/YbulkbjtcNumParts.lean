import Derived.Test.YbulkbjtcParts
import Derived.SliceStrings
namespace Go.Proofs.Ybulkbjtc
open Go.RowKit Go.Maps Go.WideMaps

theorem hid {p : Prop} (h : p) : Hid p := h

/-- The k-th name, as a key. -/
def keyAt (ss : List ByteArray) (k : Nat) : Lit := .string (ss.getD k ByteArray.empty).data.toList

theorem name_le {ss : List ByteArray} (hsz : ∀ s ∈ ss, s.size ≤ maxLen) (k : Nat) : (ss.getD k ByteArray.empty).size ≤ maxLen := by
  by_cases hk : k < ss.length
  · rw [List.getD, List.getElem?_eq_getElem hk]
    exact hsz _ (List.getElem_mem hk)
  · rw [List.getD, List.getElem?_eq_none (by omega)]
    exact Nat.zero_le _

theorem key_ok {ss : List ByteArray} (hsz : ∀ s ∈ ss, s.size ≤ maxLen) (k : Nat) : keyOf Yba.prog 9 (.string (ss.getD k ByteArray.empty)) = some (keyAt ss k) := by
  exact keyOf_string_mk Yba.underlying9 (name_le hsz k)

theorem isKey_string {x : List UInt8} : WideAt.IsKeyLit (.string x) := by simp [WideAt.IsKeyLit]

/-- The number map behind k rounds. -/
def M (ss : List ByteArray) : Nat → DataW Unit
  | 0 => .map []
  | k + 1 => if Maps.has (M ss k) (keyAt ss k) = true then M ss k else (M ss k).put (keyAt ss k) (.lit (.int .i32 k))

theorem M_isMap (ss : List ByteArray) : ∀ k, IsMap (M ss k)
  | 0 => isMap_empty
  | k + 1 => by
    unfold M
    split
    · exact M_isMap ss k
    · exact (M_isMap ss k).put _ _

theorem M_old (ss : List ByteArray) (k : Nat) (h : Maps.has (M ss k) (keyAt ss k) = true) : M ss (k + 1) = M ss k := by
  rw [M, if_pos h]
theorem M_new (ss : List ByteArray) (k : Nat) (h : Maps.has (M ss k) (keyAt ss k) = false) : M ss (k + 1) = (M ss k).put (keyAt ss k) (.lit (.int .i32 k)) := by
  rw [M, if_neg (by simp [h])]

/-- What the map holds for q behind k rounds: q's first place among the first k names, or nothing. -/
theorem M_law (ss : List ByteArray) (x : List UInt8) : ∀ k,
    (Maps.has (M ss k) (.string x) = true → ∃ j, j < k ∧ keyAt ss j = .string x ∧ (∀ i, i < j → keyAt ss i ≠ .string x) ∧ ∀ z, (M ss k).atKey (.string x) z = .lit (.int .i32 j)) ∧
    (Maps.has (M ss k) (.string x) = false → ∀ j, j < k → keyAt ss j ≠ .string x)
  | 0 => ⟨fun h => by simp [M, Maps.has] at h, fun _ j hj => by omega⟩
  | k + 1 => by
    obtain ⟨h1, h2⟩ := M_law ss x k
    by_cases hh : Maps.has (M ss k) (keyAt ss k) = true
    · rw [M_old ss k hh]
      refine ⟨fun h => ?_, fun h j hj => ?_⟩
      · obtain ⟨j, a, b, c, d⟩ := h1 h
        exact ⟨j, by omega, b, c, d⟩
      · by_cases hjk : j = k
        · subst hjk
          intro he
          rw [he, h] at hh
          cases hh
        · exact h2 h j (by omega)
    · have hh' : Maps.has (M ss k) (keyAt ss k) = false := by simpa using hh
      rw [M_new ss k hh']
      by_cases he : keyAt ss k = .string x
      · refine ⟨fun _ => ⟨k, by omega, he, fun i hi => h2 (by rw [← he]; exact hh') i hi, fun z => ?_⟩, fun h => ?_⟩
        · rw [he]
          exact atKey_put_same (M_isMap ss k) isKey_string _ z
        · rw [he, has_put_same (M_isMap ss k) isKey_string] at h
          cases h
      · have hne : (Lit.string x) ≠ keyAt ss k := fun e => he e.symm
        refine ⟨fun h => ?_, fun h j hj => ?_⟩
        · rw [has_put_other hne] at h
          obtain ⟨j, a, b, c, d⟩ := h1 h
          exact ⟨j, by omega, b, c, fun z => by rw [atKey_put_other hne]; exact d z⟩
        · rw [has_put_other hne] at h
          by_cases hjk : j = k
          · subst hjk; exact he
          · exact h2 h j (by omega)

theorem run_makeMap_hint (n : Int) (w : World) : (Instr.makeMap 23 (some (.int .i64 n))).run Yba.prog w = .ok (.map (some w.heap.size)) (w.alloc (.map #[] 0)) := by
  simp [Instr.makeMap, run_underlying Yba.underlying23, asInt, asIntOf, Result.andThen]

/-- numberOf at a receiver whose map is owned. -/
theorem numberOf_any (sb so bm n : Nat) (D : DataW Unit) (s : ByteArray) (r : Int) (w : World) (c0 : w.cell? ⟨sb, so + 2, none⟩ = some (.map (some bm))) (hs : s.size ≤ maxLen)
    (hown : w.ownsMap Yba.prog 9 (plainElem Yba.prog 21) bm n D)
    (Hr : Hid (∀ c, D.atKey (.string s.data.toList) (.lit (.int .i32 0)) = .lit (.int .i32 c) → (if Maps.has D (.string s.data.toList) = true then c else -1) = r)) :
    Calls Yba.prog 5 #[.pointer (some ⟨sb, so, none⟩), .string s] w fun e w' => e = .returned (.int .i32 r) ∧ w' = w := by
  have hkey := keyOf_string_mk Yba.underlying9 hs
  cases hh : Maps.has D (.string s.data.toList)
  all_goals
    have Hh : Hid (Maps.has D (.string s.data.toList) = _) := hh
    go_enter Yba.func5, Yba.ntmps5
    go_wp2_with (first
      | (at_lookup; refine wpList_lookup_own_ok_int _ rfl _ _ 23 rfl 9 21 .i32 law9 Yba.underlying23 Yba.underlying21 (zero21 _) bm n D rfl hown _ _ rfl hkey ?_; intro c hat hwc)
      | go_in)
    go_ret
    have h := Hr.out c hat
    simp only [Hh.out] at h
    exact ⟨by simpa using h, rfl⟩

end Go.Proofs.Ybulkbjtc
