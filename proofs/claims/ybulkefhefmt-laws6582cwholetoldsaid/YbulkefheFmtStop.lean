/-
  The closed facts of this program for a walk over fmt's stopped front (fmt.errorf: function 9), and the small callees' contracts: newClass (6), zzs6582cfresh (5), errors.New (7), fmt.Errorf (8) at this format with one string.
-/
import Derived.Test.YbulkefheFmtRows
import Derived.WalkKit
import Derived.WalkSpells
import Derived.WalkLawsBesides
import Derived.Stop.CallBack
import Derived.Stop.IfaceNil
namespace Go.Proofs.YbulkefheFmt
open Go.RowKit Go.Extern.Stop Go.Stop Go.Extern

theorem call9 (args : Array Value) (w : World) : (callFunc 9 args).run Ybaf.prog w = ((FmtStop.errorf #[9, 46] #[29] args).run Ybaf.prog w).andThen fun v w' => .ok (.value v) w' :=
  run_callFunc_extern Ybaf.func9 (by kernel_rfl) (by kernel_rfl) (by kernel_rfl) (by kernel_rfl) args w
theorem guardOk (name : String) (w : World) : (FmtStop.guard name).run Ybaf.prog w = .ok () w := by kernel_rfl
theorem fmt0 : FmtStop.printed? ⟨#[112, 111, 108, 105, 99, 121, 32, 99, 108, 97, 115, 115, 32, 37, 113, 32, 105, 115, 32, 100, 101, 99, 108, 97, 114, 101, 100, 32, 116, 119, 105, 99, 101]⟩ 1 = some [(0, 113, false)] := by kernel_rfl
theorem fmt0r (w : World) : (FmtDoors.printed ⟨#[112, 111, 108, 105, 99, 121, 32, 99, 108, 97, 115, 115, 32, 37, 113, 32, 105, 115, 32, 100, 101, 99, 108, 97, 114, 101, 100, 32, 116, 119, 105, 99, 101]⟩ 1).run Ybaf.prog w = .ok [(0, 113, false)] w := by kernel_rfl
def shape9 : List UInt8 := [12, 6, 0, 0, 0, 0, 0, 0, 0, 115, 116, 114, 105, 110, 103]
theorem op9_113w (name : String) (x : ByteArray) (w : World) : (FmtStop.operand name true 113 false (.iface 9 (.string x))).run Ybaf.prog w = .ok (shape9, FmtStop.pack x.data.toList) w := by kernel_rfl
theorem op9_113 (name : String) (x : ByteArray) (w : World) : (FmtStop.operand name false 113 false (.iface 9 (.string x))).run Ybaf.prog w = .ok (shape9, FmtStop.pack x.data.toList) w := by kernel_rfl
theorem ptr43 (w : World) : (FmtStop.ptrTo "errors.errorString").run Ybaf.prog w = .ok 43 w := by kernel_rfl
theorem elem43 (w : World) : (elemOf 43).run Ybaf.prog w = .ok 45 w := by kernel_rfl
theorem isError43 (w : World) : (FmtDoors.textMethod 43 "Error").run Ybaf.prog w = .ok true w := by kernel_rfl

attribute [local go_sem] call9 guardOk fmt0 fmt0r op9_113w op9_113 ptr43 elem43 isError43

def reading (s : ByteArray) : List (List UInt8) := [[112, 111, 108, 105, 99, 121, 32, 99, 108, 97, 115, 115, 32, 37, 113, 32, 105, 115, 32, 100, 101, 99, 108, 97, 114, 101, 100, 32, 116, 119, 105, 99, 101], shape9, FmtStop.pack s.data.toList]

set_option maxHeartbeats 400000 in
theorem errorf_any (F : Interp) (s : ByteArray) (w : World) (hF : F.answers w.tape) (a : Nat) (hc : w.cell? ⟨a, 0, none⟩ = some (.iface 9 (.string s))) :
    Calls Ybaf.prog 8 #[.string ⟨#[112, 111, 108, 105, 99, 121, 32, 99, 108, 97, 115, 115, 32, 37, 113, 32, 105, 115, 32, 100, 101, 99, 108, 97, 114, 101, 100, 32, 116, 119, 105, 99, 101]⟩, .slice (some ⟨a, 0, none⟩) 1 1] w
      fun e w' => e = .returned (.iface 43 (.pointer (some ⟨w.heap.size, 0, none⟩))) ∧ Below w.heap.size w w' := by
  have hF' := answers_open hF
  go_enter Ybaf.func8, Ybaf.ntmps8
  go_wp2
  go_ret
  exact ⟨rfl, ((Below.refl _ _).alloc (Nat.le_refl _) _).drew⟩

theorem newErr_any (s : ByteArray) (w : World) :
    Calls Ybaf.prog 7 #[.string s] w fun e w' => e = .returned (.iface 43 (.pointer (some ⟨w.heap.size, 0, none⟩))) ∧ w' = w.alloc (.cells #[.string s] 45) := by
  go_enter Ybaf.func7, Ybaf.ntmps7
  go_wp2
  go_ret
  exact ⟨rfl, rfl⟩

theorem newClass_any (s : ByteArray) (w : World) :
    Calls Ybaf.prog 6 #[.string s] w fun e w' => e = .returned (.pointer (some ⟨w.heap.size + 1, 0, none⟩)) ∧
      w' = (w.alloc (.map #[] 0)).alloc (.cells #[.string s, .slice none 0 0, .map (some w.heap.size)] 42) := by
  have hmm := @run_makeMap Ybaf.prog
  go_enter Ybaf.func6, Ybaf.ntmps6
  go_wp2
  go_ret
  exact ⟨rfl, rfl⟩

set_option maxRecDepth 100000 in
set_option maxHeartbeats 400000 in
theorem fresh_any (b m : Nat) (s : ByteArray) (w : World) (h0 : w.cell? ⟨b, 0, none⟩ = some (.string s)) (h1 : w.cell? ⟨b, 1, none⟩ = some (.slice none 0 0))
    (h2 : w.cell? ⟨b, 2, none⟩ = some (.map (some m))) (hm : w.heap[m]? = some (.map #[] 0)) :
    Calls Ybaf.prog 5 #[.pointer (some ⟨b, 0, none⟩), .string s] w fun e w' => e = .returned (.bool true) ∧ w' = w := by
  have hlen := fun (ty : TypeId) => (show (Builtin.len_ #[40] ty #[.map (some m)]).run Ybaf.prog w = .ok (.int .i64 0) w from by
    simp [Builtin.len_, run_underlying Ybaf.underlying40, MapKept.run_getObj_map hm, goInt, Result.andThen])
  have hn1 := fun (w : World) => Lib.run_eql_slice_nil (P := Ybaf.prog) w 39 64 none 0 0 0 0 Ybaf.underlying39
  have hn2 := fun (w : World) => run_neq_map_nil (P := Ybaf.prog) w 40 9 74 (some m) Ybaf.underlying40
  go_enter Ybaf.func5, Ybaf.ntmps5
  go_wp2
  go_ret
  exact ⟨rfl, rfl⟩

end Go.Proofs.YbulkefheFmt
