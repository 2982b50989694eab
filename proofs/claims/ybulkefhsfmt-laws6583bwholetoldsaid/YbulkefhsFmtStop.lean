/-
  The closed facts of this program for a walk over fmt's stopped front (fmt.errorf: function 7), fmt.Errorf (6) at this format with a string and three ints, and within (5).
-/
import Derived.Test.YbulkefhsFmtRows
import Derived.WalkKit
import Derived.WalkSpells
import Derived.WalkLawsBesides
import Derived.Stop.CallBack
import Derived.Stop.IfaceNil
import Derived.Lib.Builder
import Derived.Deep.QuietTactic
import Derived.BigQuiet
namespace Go.Proofs.YbulkefhsFmt
open Go.RowKit Go.Extern.Stop Go.Stop Go.Extern

theorem call7 (args : Array Value) (w : World) : (callFunc 7 args).run Ybaf.prog w = ((FmtStop.errorf #[9, 39] #[32] args).run Ybaf.prog w).andThen fun v w' => .ok (.value v) w' :=
  run_callFunc_extern Ybaf.func7 (by kernel_rfl) (by kernel_rfl) (by kernel_rfl) (by kernel_rfl) args w
theorem guardOk (name : String) (w : World) : (FmtStop.guard name).run Ybaf.prog w = .ok () w := by kernel_rfl
theorem fmt0 : FmtStop.printed? ⟨#[37, 115, 32, 37, 100, 32, 105, 115, 32, 110, 111, 116, 32, 37, 100, 32, 116, 111, 32, 37, 100]⟩ 4 = some [(0, 115, false), (1, 100, false), (2, 100, false), (3, 100, false)] := by kernel_rfl
theorem fmt0r (w : World) : (FmtDoors.printed ⟨#[37, 115, 32, 37, 100, 32, 105, 115, 32, 110, 111, 116, 32, 37, 100, 32, 116, 111, 32, 37, 100]⟩ 4).run Ybaf.prog w = .ok [(0, 115, false), (1, 100, false), (2, 100, false), (3, 100, false)] w := by kernel_rfl
def shape9 : List UInt8 := [12, 6, 0, 0, 0, 0, 0, 0, 0, 115, 116, 114, 105, 110, 103]
def shape3 : List UInt8 := [5, 3, 0, 0, 0, 0, 0, 0, 0, 105, 110, 116]
theorem op9_115w (name : String) (x : ByteArray) (w : World) : (FmtStop.operand name true 115 false (.iface 9 (.string x))).run Ybaf.prog w = .ok (shape9, FmtStop.pack x.data.toList) w := by kernel_rfl
theorem op3_100w (name : String) (x : Int) (w : World) : (FmtStop.operand name true 100 false (.iface 3 (.int .i64 x))).run Ybaf.prog w = .ok (shape3, Go.Extern.Stop.digits 8 (x % 2 ^ 64).toNat) w := by kernel_rfl
theorem ptr42 (w : World) : (FmtStop.ptrTo "errors.errorString").run Ybaf.prog w = .ok 42 w := by kernel_rfl
theorem elem42 (w : World) : (elemOf 42).run Ybaf.prog w = .ok 44 w := by kernel_rfl
theorem isError42 (w : World) : (FmtDoors.textMethod 42 "Error").run Ybaf.prog w = .ok true w := by kernel_rfl

attribute [local go_sem] call7 guardOk fmt0 fmt0r op9_115w op3_100w ptr42 elem42 isError42

set_option maxHeartbeats 400000 in
theorem within_no (F : Interp) (s : ByteArray) (n lo hi : Int) (w : World) (hF : F.answers w.tape) (h : n < lo ∨ hi < n) :
    Calls Ybaf.prog 5 #[.string s, .int .i64 n, .int .i64 lo, .int .i64 hi] w fun e w' => (∃ a, e = .returned (.iface 42 (.pointer (some a)))) ∧ Below w.heap.size w w' := by
  have hF' := answers_open hF
  by_cases h1 : n < lo
  · go_enter Ybaf.func5, Ybaf.ntmps5
    go_wp2
    go_ret
    exact ⟨⟨_, rfl⟩, (((Below.refl _ _).alloc (Nat.le_refl _) _).alloc (by simp) _).drew⟩
  · have h2 : hi < n := by omega
    go_enter Ybaf.func5, Ybaf.ntmps5
    go_wp2
    go_ret
    exact ⟨⟨_, rfl⟩, (((Below.refl _ _).alloc (Nat.le_refl _) _).alloc (by simp) _).drew⟩

theorem within_yes (s : ByteArray) (n lo hi : Int) (w : World) (h1 : lo ≤ n) (h2 : n ≤ hi) :
    Calls Ybaf.prog 5 #[.string s, .int .i64 n, .int .i64 lo, .int .i64 hi] w fun e w' => e = .returned .nilIface ∧ w' = w := by
  go_enter Ybaf.func5, Ybaf.ntmps5
  go_wp2
  go_ret
  exact ⟨rfl, rfl⟩

end Go.Proofs.YbulkefhsFmt
