/-
  The closed facts of this program for a walk over fmt's stopped front (fmt.errorf: function 9), and the walk of ParseSide (6).
-/
import Derived.Test.YbulkefkyFmtRows
import Derived.WalkKit
import Derived.WalkSpells
import Derived.WalkLawsBesides
import Derived.Stop.CallBack
import Derived.Stop.IfaceNil
namespace Go.Proofs.YbulkefkyFmt
open Go.RowKit Go.Extern.Stop Go.Stop Go.Extern

theorem call9 (args : Array Value) (w : World) : (callFunc 9 args).run Ybaf.prog w = ((FmtStop.errorf #[9, 33] #[27] args).run Ybaf.prog w).andThen fun v w' => .ok (.value v) w' :=
  run_callFunc_extern Ybaf.func9 (by kernel_rfl) (by kernel_rfl) (by kernel_rfl) (by kernel_rfl) args w
theorem guardOk (name : String) (w : World) : (FmtStop.guard name).run Ybaf.prog w = .ok () w := by kernel_rfl
theorem fmt0 : FmtStop.printed? ⟨#[115, 105, 100, 101, 32, 37, 113, 32, 105, 115, 32, 110, 101, 105, 116, 104, 101, 114, 32, 115, 101, 108, 108, 101, 114, 32, 110, 111, 114, 32, 98, 117, 121, 101, 114]⟩ 1 = some [(0, 113, false)] := by kernel_rfl
theorem fmt0r (w : World) : (FmtDoors.printed ⟨#[115, 105, 100, 101, 32, 37, 113, 32, 105, 115, 32, 110, 101, 105, 116, 104, 101, 114, 32, 115, 101, 108, 108, 101, 114, 32, 110, 111, 114, 32, 98, 117, 121, 101, 114]⟩ 1).run Ybaf.prog w = .ok [(0, 113, false)] w := by kernel_rfl
def shape9 : List UInt8 := [12, 6, 0, 0, 0, 0, 0, 0, 0, 115, 116, 114, 105, 110, 103]
theorem op9_113w (name : String) (x : ByteArray) (w : World) : (FmtStop.operand name true 113 false (.iface 9 (.string x))).run Ybaf.prog w = .ok (shape9, FmtStop.pack x.data.toList) w := by kernel_rfl
theorem ptr36 (w : World) : (FmtStop.ptrTo "errors.errorString").run Ybaf.prog w = .ok 36 w := by kernel_rfl
theorem elem36 (w : World) : (elemOf 36).run Ybaf.prog w = .ok 38 w := by kernel_rfl
theorem isError36 (w : World) : (FmtDoors.textMethod 36 "Error").run Ybaf.prog w = .ok true w := by kernel_rfl

attribute [local go_sem] call9 guardOk fmt0 fmt0r op9_113w ptr36 elem36 isError36

/-- The two words. -/
def seller : ByteArray := ⟨#[115, 101, 108, 108, 101, 114]⟩
def buyer : ByteArray := ⟨#[98, 117, 121, 101, 114]⟩

theorem parse_seller (w : World) : Calls Ybaf.prog 6 #[.string ⟨#[115, 101, 108, 108, 101, 114]⟩] w fun e w' => e = .returned (.tuple #[.int .u8 0, .nilIface]) ∧ w' = w := by
  go_enter Ybaf.func6, Ybaf.ntmps6
  go_wp2
  go_ret2
  exact ⟨rfl, rfl⟩
theorem parse_buyer (w : World) : Calls Ybaf.prog 6 #[.string ⟨#[98, 117, 121, 101, 114]⟩] w fun e w' => e = .returned (.tuple #[.int .u8 1, .nilIface]) ∧ w' = w := by
  go_enter Ybaf.func6, Ybaf.ntmps6
  go_wp2
  go_ret2
  exact ⟨rfl, rfl⟩

set_option maxHeartbeats 400000 in
theorem parse_other (F : Interp) (s : ByteArray) (w : World) (hF : F.answers w.tape) (h1 : (s.toList == [115, 101, 108, 108, 101, 114]) = false) (h2 : (s.toList == [98, 117, 121, 101, 114]) = false) :
    Calls Ybaf.prog 6 #[.string s] w fun e w' => (∃ a, e = .returned (.tuple #[.int .u8 0, .iface 36 (.pointer (some a))])) ∧ Below w.heap.size w w' := by
  have hF' := answers_open hF
  go_enter Ybaf.func6, Ybaf.ntmps6
  go_wp2
  go_ret2
  exact ⟨⟨_, rfl⟩, (((Below.refl _ _).alloc (Nat.le_refl _) _).alloc (by simp) _).drew⟩

end Go.Proofs.YbulkefkyFmt
