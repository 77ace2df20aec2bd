import Derived.Test.YbulkbjtqFmtCards
import Derived.Stop.CallBack
import Derived.Stop.IfaceNil
import Derived.WalkKit
import Derived.WalkSpells
namespace Go.Proofs.YbulkbjtqFmt
open Go.RowKit Go.Extern.Stop Go.Stop Go.Extern

theorem call7 (args : Array Value) (w : World) : (callFunc 7 args).run Ybaf.prog w = ((FmtStop.errorf #[9, 29] #[23] args).run Ybaf.prog w).andThen fun v w' => .ok (.value v) w' :=
  run_callFunc_extern Ybaf.func7 (by kernel_rfl) (by kernel_rfl) (by kernel_rfl) (by kernel_rfl) args w
theorem guardIs (name : String) (w : World) : (FmtStop.guard name).run Ybaf.prog w = .ok () w := by kernel_rfl
theorem fmt0 : FmtStop.printed? ⟨#[37, 115, 58, 32, 101, 109, 112, 116, 121, 44, 32, 97, 32, 109, 101, 116, 114, 105, 99, 39, 115, 32, 110, 97, 109, 101, 32, 105, 115, 32, 119, 97, 110, 116, 101, 100]⟩ 1 = some [(0, 115, false)] := by kernel_rfl
theorem fmt0r (w : World) : (FmtDoors.printed ⟨#[37, 115, 58, 32, 101, 109, 112, 116, 121, 44, 32, 97, 32, 109, 101, 116, 114, 105, 99, 39, 115, 32, 110, 97, 109, 101, 32, 105, 115, 32, 119, 97, 110, 116, 101, 100]⟩ 1).run Ybaf.prog w = .ok [(0, 115, false)] w := by kernel_rfl
def shape9 : List UInt8 := [12, 6, 0, 0, 0, 0, 0, 0, 0, 115, 116, 114, 105, 110, 103]
theorem op9 (name : String) (x : ByteArray) (w : World) : (FmtStop.operand name false 115 false (.iface 9 (.string x))).run Ybaf.prog w = .ok (shape9, FmtStop.pack x.data.toList) w := by kernel_rfl
theorem op9w (name : String) (x : ByteArray) (w : World) : (FmtStop.operand name true 115 false (.iface 9 (.string x))).run Ybaf.prog w = .ok (shape9, FmtStop.pack x.data.toList) w := by kernel_rfl
theorem ptr32 (w : World) : (FmtStop.ptrTo "errors.errorString").run Ybaf.prog w = .ok 32 w := by kernel_rfl
theorem elem32 (w : World) : (elemOf 32).run Ybaf.prog w = .ok 34 w := by kernel_rfl
theorem isError32 (w : World) : (FmtDoors.textMethod 32 "Error").run Ybaf.prog w = .ok true w := by kernel_rfl

attribute [local go_sem] call7 guardIs fmt0 fmt0r op9 op9w ptr32 elem32 isError32

/-- WHAT fmt IS ASKED. -/
def reading (key : List UInt8) : List (List UInt8) :=
  [[37, 115, 58, 32, 101, 109, 112, 116, 121, 44, 32, 97, 32, 109, 101, 116, 114, 105, 99, 39, 115, 32, 110, 97, 109, 101, 32, 105, 115, 32, 119, 97, 110, 116, 101, 100], shape9, FmtStop.pack key]

theorem check_empty (F : Interp) (key : ByteArray) (w : World) (hF : F.answers w.tape) :
    Calls Ybaf.prog 5 #[.string key, .string ⟨#[]⟩] w fun e w' => e = .returned (.iface 32 (.pointer (some ⟨w.heap.size + 1, 0, none⟩))) ∧ Below w.heap.size w w' := by
  have hF' := answers_open hF
  go_enter Ybaf.func5, Ybaf.ntmps5
  go_wp2
  go_ret
  exact ⟨rfl, (((Below.refl _ _).alloc (Nat.le_refl _) _).alloc (by simp) _).drew⟩

theorem check_full (key name : ByteArray) (w : World) (hne : name.data.toList ≠ []) :
    Calls Ybaf.prog 5 #[.string key, .string name] w fun e w' => e = .returned .nilIface ∧ w' = w := by
  have h1 : (name.toList == []) = false := by rw [ByteArray.toList_eq]; simpa using hne
  go_enter Ybaf.func5, Ybaf.ntmps5
  go_wp2
  all_goals go_ret
  all_goals exact ⟨rfl, rfl⟩

theorem nil_of (name : ByteArray) (h : name.data.toList = []) : name = ⟨#[]⟩ := by
  cases name with
  | mk d => simp at h; rw [h]

/-- The first law. -/
theorem empty_walk (F : Interp) (key name : ByteArray) (w : World) (hF : F.answers w.tape) :
    Calls Ybaf.prog 3 #[.string key, .string name] w fun e w' => e = .returned (.bool true) ∧ Below w.heap.size w w' := by
  by_cases hn : name.data.toList = []
  · obtain rfl := nil_of name hn
    clear hn
    go_enter Ybaf.func3, Ybaf.ntmps3
    go_wp2_with fail
    refine (check_empty F key _ hF).mono ?_
    rintro e w' ⟨rfl, hb⟩
    go_wp2
    go_ret
    exact ⟨rfl, hb⟩
  · have h1 : (name.toList == []) = false := by rw [ByteArray.toList_eq]; simpa using hn
    go_enter Ybaf.func3, Ybaf.ntmps3
    go_wp2_with fail
    refine (check_full key name _ hn).mono ?_
    rintro e w' ⟨rfl, rfl⟩
    go_wp2
    go_ret
    exact ⟨rfl, Below.refl _ _⟩

end Go.Proofs.YbulkbjtqFmt
