/-
  The walk of LawS6589BWhole (3), through Method.String (5).
-/
import Derived.Test.YbulkefkyFmtRows
import Derived.WalkKit
import Derived.WalkSpells
import Derived.WalkLawsBesides
namespace Go.Proofs.YbulkefkyFmt
open Go.RowKit

set_option maxHeartbeats 400000 in
theorem lawB_any (x : Int) (w : World) (h0 : 0 ≤ x) (h1 : x ≤ 255) :
    Calls Ybaf.prog 3 #[.int .u8 x] w fun e w' => e = .returned (.bool true) ∧ w' = w := by
  have hc : x % 2 = 0 ∨ x % 2 = 1 := by omega
  rcases hc with hc | hc
  · go_enter Ybaf.func3, Ybaf.ntmps3
    go_wp2
    go_ret
    exact ⟨rfl, rfl⟩
  · go_enter Ybaf.func3, Ybaf.ntmps3
    go_wp2
    go_ret
    exact ⟨rfl, rfl⟩

end Go.Proofs.YbulkefkyFmt
