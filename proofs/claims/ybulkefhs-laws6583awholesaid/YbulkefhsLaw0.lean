/-
  The walk of the law (3) over no range: a nil slice, and an empty one that is not nil.
-/
import Derived.Test.YbulkefhsLaw
namespace Go.Proofs.Ybulkefhs
open Go.RowKit

theorem box_at {V : World} {g : Nat} (hg : V.heap.size = g) (cs : Array Value) (j : Nat) : (V.alloc (.cells cs 35)).cell? ⟨g, j, none⟩ = cs[j]? := by
  subst hg
  exact cell_of_row _ _ _ _ _ _ (heap_alloc_new _ _)

set_option maxRecDepth 100000 in
set_option maxHeartbeats 1000000 in
theorem law_none (a : Option Addr) (cap : Nat) (x : Int) (w : World) :
    Calls Yba.prog 3 #[.slice a 0 cap, .int .i64 x] w fun e w' => e = .returned (.bool true) ∧ Below w.heap.size w w' := by
  have hnil := fun (w : World) => run_neq_slice_nil_any (P := Yba.prog) w 22 25 a 0 cap 0 0 Yba.underlying22
  have hmk : ∀ w, (Instr.makeSlice 23 (.int .i64 0) (.int .i64 0)).run Yba.prog w = .ok (.slice (some ⟨w.heap.size, 0, none⟩) 0 0) (w.alloc (.cells (madeCells #[.int .i64 0, .int .i64 0] (0 * 2)) 27)) := fun w => make23 0 (by omega) w
  have zz := neq29
  have zz2 := neq30
  have zz3 := fun (w : World) => run_neq_slice_nil_any (P := Yba.prog) w 31 61 none 0 0 0 0 Yba.underlying31
  have zz4 := fun (w : World) => run_neq_slice_nil_any (P := Yba.prog) w 33 68 none 0 0 0 0 Yba.underlying33
  cases a
  · go_enter Yba.func3, Yba.ntmps3
    go_wp2_with fail
    refine (allows_none _ 0 none x _ (by simp)).mono ?_
    rintro e w3 ⟨rfl, hb3⟩
    simp only [World.size_alloc] at hb3
    have t0 := hb3.cell (p := ⟨w.heap.size, 0, none⟩) (by show w.heap.size < _; omega)
    have t1 := hb3.cell (p := ⟨w.heap.size, 1, none⟩) (by show w.heap.size < _; omega)
    have t2 := hb3.cell (p := ⟨w.heap.size, 2, none⟩) (by show w.heap.size < _; omega)
    have t3 := hb3.cell (p := ⟨w.heap.size, 3, none⟩) (by show w.heap.size < _; omega)
    have t4 := hb3.cell (p := ⟨w.heap.size, 4, none⟩) (by show w.heap.size < _; omega)
    have t5 := hb3.cell (p := ⟨w.heap.size, 5, none⟩) (by show w.heap.size < _; omega)
    simp at t0 t1 t2 t3 t4 t5
    have hb03 : Below w.heap.size w w3 := ((Below.refl _ _).alloc (Nat.le_refl _) _).trans (hb3.mono (by omega))
    clear hb3 hmk hnil
    go_wp2_with fail
    refine wp_loop_rounds 1 ?_
    rw [rounds_succ]
    go_wp2_with fail
    refine wp_loop_rounds 1 ?_
    rw [rounds_succ]
    go_wp2
    go_ret
    exact ⟨rfl, hb03⟩
  · go_enter Yba.func3, Yba.ntmps3
    go_wp2_with fail
    refine wp_loop_rounds 1 ?_
    rw [rounds_succ]
    go_wp2_with fail
    refine (allows_none _ 0 (some ⟨w.heap.size, 0, none⟩) x _ (by rw [box_at (by simp) _ 0]; rfl)).mono ?_
    rintro e w3 ⟨rfl, hb3⟩
    simp only [World.size_alloc] at hb3
    have t0 := (hb3.cell (p := ⟨w.heap.size + 2, 0, none⟩) (by show w.heap.size + 2 < _; omega)).trans (box_at (by simp) _ 0)
    have t1 := (hb3.cell (p := ⟨w.heap.size + 2, 1, none⟩) (by show w.heap.size + 2 < _; omega)).trans (box_at (by simp) _ 1)
    have t2 := (hb3.cell (p := ⟨w.heap.size + 2, 2, none⟩) (by show w.heap.size + 2 < _; omega)).trans (box_at (by simp) _ 2)
    have t3 := (hb3.cell (p := ⟨w.heap.size + 2, 3, none⟩) (by show w.heap.size + 2 < _; omega)).trans (box_at (by simp) _ 3)
    have t4 := (hb3.cell (p := ⟨w.heap.size + 2, 4, none⟩) (by show w.heap.size + 2 < _; omega)).trans (box_at (by simp) _ 4)
    have t5 := (hb3.cell (p := ⟨w.heap.size + 2, 5, none⟩) (by show w.heap.size + 2 < _; omega)).trans (box_at (by simp) _ 5)
    simp at t0 t1 t2 t3 t4 t5
    have hb03 : Below w.heap.size w w3 := ((((Below.refl _ _).alloc (Nat.le_refl _) _).alloc (by simp) _).alloc (by simp; omega) _).trans (hb3.mono (by omega))
    clear hb3 hmk hnil
    go_wp2_with fail
    refine wp_loop_rounds 1 ?_
    rw [rounds_succ]
    go_wp2_with fail
    refine wp_loop_rounds 1 ?_
    rw [rounds_succ]
    go_wp2
    go_ret
    exact ⟨rfl, hb03⟩

end Go.Proofs.Ybulkefhs
