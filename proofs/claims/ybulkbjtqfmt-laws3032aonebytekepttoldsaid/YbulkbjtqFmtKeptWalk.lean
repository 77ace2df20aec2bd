/- The walk of LawS3032AOneByteKept. -/
import Derived.Test.YbulkbjtqFmtFacts
import Derived.Laws.BytesArg
import Derived.Laws.Concat
namespace Go.Proofs.YbulkbjtqFmt
open Go.RowKit Go.Extern.Stop Go.Stop Go.Extern

theorem one_conv (x : Int) (w : World) : (convert 26 9 (.slice (some ⟨w.heap.size, 0, none⟩) 1 1)).run Ybaf.prog (w.alloc (.cells #[.int .u8 x] 5)) = .ok (.string (strOfNums [x])) (w.alloc (.cells #[.int .u8 x] 5)) := by
  refine run_convert_bytes_arg (P := Ybaf.prog) _ 26 5 Ybaf.underlying26 Ybaf.underlying5 w.heap.size 0 1 1 [x] rfl (fun i hi => ?_) 9 Ybaf.underlying9
  have : i = 0 := by omega
  subst this
  simp

set_option maxHeartbeats 1000000 in
theorem kept_walk (F : Interp) (key : ByteArray) (x : Int) (tl : ByteArray) (w : World) (hF : F.answers w.tape) (ht : tl.size ≤ 4096) :
    Calls Ybaf.prog 4 #[.string key, .int .u8 x, .string tl] w fun e w' => e = .returned (.bool true) ∧ Below w.heap.size w w' := by
  have hconv := one_conv x w
  have hsz : (strOfNums [x]).size = 1 := strOfNums_size _
  generalize strOfNums [x] = s1 at hconv hsz
  have hle : s1.size + tl.size ≤ 9223372036854775807 := by omega
  have hadd := fun W => run_string_add_sum (P := Ybaf.prog) W s1 tl hle
  have hne : (s1 ++ tl).data.toList ≠ [] := by
    intro h
    have h1 : (s1 ++ tl).data.toList.length = s1.size + tl.size := by rw [Array.length_toList]; exact ByteArray.size_append
    rw [h, List.length_nil] at h1
    omega
  have HN : Hid ((s1 ++ tl).data.toList ≠ []) := hne
  clear hne hle hsz
  generalize s1 ++ tl = nm at hadd HN
  go_enter Ybaf.func4, Ybaf.ntmps4
  go_wp2_with fail
  refine (check_full key nm _ HN.out).mono ?_
  rintro e w' ⟨rfl, rfl⟩
  go_wp2_with fail
  refine (check_empty F key _ (by exact hF)).mono ?_
  rintro e w' ⟨rfl, hb⟩
  go_wp2
  go_ret
  exact ⟨rfl, ((Below.refl _ _).alloc (Nat.le_refl _) _).trans (hb.mono (by simp))⟩

theorem kept_big (key : ByteArray) (x : Int) (tl : ByteArray) (w : World) (ht : 4096 < tl.size) :
    Calls Ybaf.prog 4 #[.string key, .int .u8 x, .string tl] w fun e w' => e = .returned (.bool true) ∧ Below w.heap.size w w' := by
  go_enter Ybaf.func4, Ybaf.ntmps4
  go_wp2
  go_ret
  exact ⟨rfl, Below.refl _ _⟩
end Go.Proofs.YbulkbjtqFmt
