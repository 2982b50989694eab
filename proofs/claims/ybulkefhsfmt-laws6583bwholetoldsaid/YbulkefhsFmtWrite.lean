/-
  The walk of writeMMTimer (4).
-/
import Derived.Test.YbulkefhsFmtStop
namespace Go.Proofs.YbulkefhsFmt
open Go.RowKit Go.Extern.Stop Go.Stop Go.Extern

theorem or_all : ∀ a : Fin 8, ∀ c : Fin 32, bits BinOp.or IntKind.i64 (((a.val : Nat) : Int) * 32) ((c.val : Nat) : Int) % 256 = ((a.val : Nat) : Int) * 32 + ((c.val : Nat) : Int) := by decide +kernel
theorem or_byte {u v : Int} (u0 : 0 ≤ u) (u7 : u ≤ 7) (v0 : 0 ≤ v) (v31 : v ≤ 31) : bits BinOp.or IntKind.i64 (u * 32) v % 256 = u * 32 + v := by
  obtain ⟨a, rfl⟩ := Int.eq_ofNat_of_zero_le u0
  obtain ⟨c, rfl⟩ := Int.eq_ofNat_of_zero_le v0
  exact or_all ⟨a, by omega⟩ ⟨c, by omega⟩

set_option maxRecDepth 100000 in
set_option maxHeartbeats 1000000 in
theorem write_no (F : Interp) (fb ub vb : Nat) (u v : Int) (w : World) (hF : F.answers w.tape)
    (h31 : w.cell? ⟨fb, 31, none⟩ = some (.pointer (some ⟨ub, 0, none⟩))) (h32 : w.cell? ⟨fb, 32, none⟩ = some (.pointer (some ⟨vb, 0, none⟩)))
    (hu : w.cell? ⟨ub, 0, none⟩ = some (.int .i64 u)) (hv : w.cell? ⟨vb, 0, none⟩ = some (.int .i64 v)) (h : ¬ (0 ≤ u ∧ u ≤ 7 ∧ 0 ≤ v ∧ v ≤ 31)) :
    Calls Ybaf.prog 4 #[.pointer (some ⟨fb, 0, none⟩)] w fun e w' => (∃ a, e = .returned (.tuple #[.slice none 0 0, .iface 42 (.pointer (some a))])) ∧ Below w.heap.size w w' := by
  by_cases h1 : 0 ≤ u ∧ u ≤ 7
  · obtain ⟨a1, a2⟩ := h1
    have h2 : v < 0 ∨ 31 < v := by omega
    clear h
    go_enter Ybaf.func4, Ybaf.ntmps4
    go_wp2
    go_quiet (fail)
    go_wp2_with fail
    refine (within_yes _ _ _ _ _ a1 a2).mono ?_
    rintro e w1 ⟨rfl, rfl⟩
    go_wp2_with fail
    refine (within_no F _ _ _ _ _ (by exact hF) h2).mono ?_
    rintro e w1 ⟨⟨a, rfl⟩, hb⟩
    go_wp2
    go_ret2
    exact ⟨⟨a, rfl⟩, ⟨hb.os, hb.tape, hb.output, hb.size, hb.block⟩⟩
  · have h2 : u < 0 ∨ 7 < u := by omega
    clear h h1
    go_enter Ybaf.func4, Ybaf.ntmps4
    go_wp2
    go_quiet (fail)
    go_wp2_with fail
    refine (within_no F _ _ _ _ _ (by exact hF) h2).mono ?_
    rintro e w1 ⟨⟨a, rfl⟩, hb⟩
    go_wp2
    go_ret2
    exact ⟨⟨a, rfl⟩, ⟨hb.os, hb.tape, hb.output, hb.size, hb.block⟩⟩

set_option maxRecDepth 100000 in
set_option maxHeartbeats 1000000 in
theorem write_yes (fb ub vb : Nat) (u v : Int) (w : World)
    (h31 : w.cell? ⟨fb, 31, none⟩ = some (.pointer (some ⟨ub, 0, none⟩))) (h32 : w.cell? ⟨fb, 32, none⟩ = some (.pointer (some ⟨vb, 0, none⟩)))
    (hu : w.cell? ⟨ub, 0, none⟩ = some (.int .i64 u)) (hv : w.cell? ⟨vb, 0, none⟩ = some (.int .i64 v)) (u0 : 0 ≤ u) (u7 : u ≤ 7) (v0 : 0 ≤ v) (v31 : v ≤ 31) :
    Calls Ybaf.prog 4 #[.pointer (some ⟨fb, 0, none⟩)] w fun e w' => ∃ g, e = .returned (.tuple #[.slice (some ⟨g, 0, none⟩) 1 1, .nilIface]) ∧ w'.cell? ⟨g, 0, none⟩ = some (.int .u8 (u * 32 + v)) ∧ Below w.heap.size w w' := by
  go_enter Ybaf.func4, Ybaf.ntmps4
  go_wp2
  go_quiet (fail)
  go_wp2_with fail
  refine (within_yes _ _ _ _ _ u0 u7).mono ?_
  rintro e w1 ⟨rfl, rfl⟩
  go_wp2_with fail
  refine (within_yes _ _ _ _ _ v0 v31).mono ?_
  rintro e w1 ⟨rfl, rfl⟩
  go_wp2
  go_ret2
  refine ⟨w.heap.size, rfl, ?_, ?_⟩
  · rw [or_byte u0 u7 v0 v31]
    have h := cell_one_new (w.drewN nq) (.int .u8 (u * 32 + v)) 5 0 _ rfl
    simpa [Addr.add] using h
  · have h : Below w.heap.size w (w.drewN nq) := ⟨rfl, rfl, rfl, Nat.le_refl _, fun _ _ => rfl⟩
    exact h.alloc (Nat.le_refl _) _

end Go.Proofs.YbulkefhsFmt
