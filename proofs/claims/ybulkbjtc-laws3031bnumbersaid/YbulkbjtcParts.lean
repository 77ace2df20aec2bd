import Derived.Test.YbulkbjtcRows
import Derived.Maps.OwnSet
import Derived.WalkKit
namespace Go.Proofs.Ybulkbjtc
open Go.RowKit Go.Maps Go.WideMaps

theorem law9 : Keyed Yba.prog 9 := string_keyed Yba.underlying9
theorem zero21 (w : World) : (zeroValue 21).run Yba.prog w = .ok (.int .i32 0) w := by kernel_rfl

/-- numberOf at a receiver whose map is nil. -/
theorem numberOf_nil (sb so : Nat) (s : ByteArray) (w : World) (c0 : w.cell? ⟨sb, so + 2, none⟩ = some (.map Option.none)) (hs : s.size ≤ maxLen) :
    Calls Yba.prog 5 #[.pointer (some ⟨sb, so, Option.none⟩), .string s] w fun e w' => e = .returned (.int .i32 (-1)) ∧ w' = w := by
  have hrun := look_nil (w := w) true law9 Yba.underlying23 (zero21 _) (keyOf_string_mk Yba.underlying9 hs)
  go_enter Yba.func5, Yba.ntmps5
  go_wp2
  go_ret
  exact ⟨rfl, rfl⟩

end Go.Proofs.Ybulkbjtc
