/-
  The walk of (*elementType).allows (4).
-/
import Derived.Test.YbulkefhsRows
import Derived.WalkKit
import Derived.WalkSpells
import Derived.WalkLawsBesides
import Derived.Deep.OwnRows
namespace Go.Proofs.Ybulkefhs
open Go.RowKit

def Hit (mn mx : Nat → Int) (x : Int) (i : Nat) : Prop := mn i ≤ x ∧ x ≤ mx i

theorem no_step {mn mx : Nat → Int} {x : Int} {k : Nat} (h : ∀ i, i < k → ¬ Hit mn mx x i) (hk : ¬ Hit mn mx x k) : ∀ i, i < k + 1 → ¬ Hit mn mx x i := by
  intro i hi
  by_cases e : i = k
  · subst e; exact hk
  · exact h i (by omega)

set_option maxRecDepth 100000 in
set_option maxHeartbeats 1000000 in
theorem allows_none (tb cap : Nat) (a : Option Addr) (x : Int) (w : World) (ht : w.cell? ⟨tb, 0, none⟩ = some (.slice a 0 cap)) :
    Calls Yba.prog 4 #[.pointer (some ⟨tb, 0, none⟩), .int .i64 x] w fun e w' => e = .returned (.bool false) ∧ Below w.heap.size w w' := by
  go_enter Yba.func4, Yba.ntmps4
  go_wp2
  refine wp_loop_rounds 1 ?_
  rw [rounds_succ]
  go_wp2
  go_ret
  exact ⟨rfl, Below.refl _ _⟩

set_option maxRecDepth 100000 in
set_option maxHeartbeats 1000000 in
theorem allows_any (tb g n cap : Nat) (mn mx : Nat → Int) (x : Int) (w : World) (hn2 : n ≤ 1048576) (ht : w.cell? ⟨tb, 0, none⟩ = some (.slice (some ⟨g, 0, none⟩) n cap)) (hg : g < w.heap.size)
    (hc0 : ∀ i, i < n → w.cell? ⟨g, i * 2, none⟩ = some (.int .i64 (mn i))) (hc1 : ∀ i, i < n → w.cell? ⟨g, i * 2 + 1, none⟩ = some (.int .i64 (mx i))) :
    Calls Yba.prog 4 #[.pointer (some ⟨tb, 0, none⟩), .int .i64 x] w fun e w' =>
      ((e = .returned (.bool true) ∧ ∃ i, i < n ∧ Hit mn mx x i) ∨ (e = .returned (.bool false) ∧ ∀ i, i < n → ¬ Hit mn mx x i)) ∧ Below w.heap.size w w' := by
  go_enter Yba.func4, Yba.ntmps4
  go_wp2
  go_loopw [12] (fun i wr => ∃ k : Nat, k ≤ n ∧ i = .int .i64 k ∧ (∀ i, i < k → ¬ Hit mn mx x i) ∧ Below w.heap.size w wr) (fun i _ => n - (intOf i).toNat)
  case atStart => exact ⟨0, Nat.zero_le _, rfl, fun i hi => by omega, Below.refl _ _⟩
  case round =>
    obtain ⟨k, hk, rfl, hno, hnx⟩ := hrel
    by_cases hlt : k < n
    · have c0 : wr.cell? ⟨g, k * 2, none⟩ = some (.int .i64 (mn k)) := (hnx.cell (by exact hg)).trans (hc0 k hlt)
      have c1 : wr.cell? ⟨g, k * 2 + 1, none⟩ = some (.int .i64 (mx k)) := (hnx.cell (by exact hg)).trans (hc1 k hlt)
      go_wp2
      · go_ret
        exact ⟨.inl ⟨rfl, k, hlt, by assumption, by assumption⟩, hnx.alloc hnx.size _⟩
      all_goals
        go_roundw
        case rel => exact ⟨k + 1, by omega, by go_num, no_step hno (fun h => by unfold Hit at h; omega), hnx.alloc hnx.size _⟩
        case measure => simp [intOf]; omega
    · have hkn : k = n := by omega
      subst hkn
      go_wp2
      go_ret
      exact ⟨.inr ⟨rfl, hno⟩, hnx⟩

end Go.Proofs.Ybulkefhs
