/-
  The walk of the law (3).
-/
import Derived.Test.YbulkefhsFmtWrite
namespace Go.Proofs.YbulkefhsFmt
open Go.RowKit Go.Extern.Stop Go.Stop Go.Extern

theorem some3 : (Ybaf.prog.info? 3).isSome = true := by kernel_rfl
theorem neq23 (w : World) (a : Addr) : (binOp .neq 23 (.pointer (some a)) (.pointer (some a))).run Ybaf.prog w = .ok (.bool false) w := by
  obtain ⟨j, hj⟩ := Option.isSome_iff_exists.1 some3
  exact Lib.run_neq_ptr_same w a Ybaf.underlying23 hj

/-- The cells of a new valueJSON of which Unit, TimerValue and Seconds are given. -/
def fcells (p q r : Addr) : Array Value := #[.pointer none, .pointer none, .pointer none, .pointer none, .pointer none, .pointer none, .pointer none, .pointer none, .pointer none, .pointer none, .pointer none, .pointer none, .pointer none, .pointer none, .pointer none, .pointer none, .pointer none, .pointer none, .pointer none, .pointer none, .pointer none, .pointer none, .pointer none, .pointer none, .pointer none, .pointer none, .pointer none, .pointer none, .pointer none, .pointer none, .pointer none, .pointer (some p), .pointer (some q), .pointer (some r), .pointer none, .pointer none, .pointer none, .pointer none, .pointer none, .pointer none, .pointer none, .pointer none, .pointer none, .pointer none, .pointer none, .pointer none, .slice none 0 0, .slice none 0 0, .pointer none, .pointer none, .pointer none, .pointer none, .pointer none, .pointer none, .pointer none, .pointer none, .pointer none]

theorem built29 (p q r : Addr) (w : World) : (Instr.build 29 #[(31, .pointer (some p)), (32, .pointer (some q)), (33, .pointer (some r))]).run Ybaf.prog w = .ok (.agg (fcells p q r)) w := by kernel_rfl
theorem boxed29 (p q r : Addr) (w : World) : (Instr.box 29 (.agg (fcells p q r))).run Ybaf.prog w = .ok (.pointer (some ⟨w.heap.size, 0, none⟩)) (w.alloc (.cells (fcells p q r) 29)) := by kernel_rfl

theorem wpList_build29 (w : World) {ops : Array Oper} {rest : List Oper} {o : Oper} {a : Act} {Q : Exit → Act → World → Prop}
    (hg : o.guard = none) (x y z : Operand) (hop : o.op = Op.build 29 #[(31, x), (32, y), (33, z)]) (p q r : Addr) (hx : a.eval x = .pointer (some p)) (hy : a.eval y = .pointer (some q)) (hz : a.eval z = .pointer (some r))
    (hK : wpList Ybaf.prog ops Q rest (a.put o.dst (.agg (fcells p q r))) w) : wpList Ybaf.prog ops Q (o :: rest) a w := by
  refine wpList_plain hg fun K' hK' => ?_
  unfold Oper.wp
  simp [execOp, hop, hx, hy, hz, built29, Result.andThen]
  exact hK' _ _ hK

theorem wpList_box29 (w : World) {ops : Array Oper} {rest : List Oper} {o : Oper} {a : Act} {Q : Exit → Act → World → Prop}
    (hg : o.guard = none) (x : Operand) (hop : o.op = Op.box 29 x) (p q r : Addr) (hx : a.eval x = .agg (fcells p q r))
    (hK : wpList Ybaf.prog ops Q rest (a.put o.dst (.pointer (some ⟨w.heap.size, 0, none⟩))) (w.alloc (.cells (fcells p q r) 29))) : wpList Ybaf.prog ops Q (o :: rest) a w := by
  refine wpList_plain hg fun K' hK' => ?_
  unfold Oper.wp
  simp [execOp, hop, hx, boxed29, Result.andThen]
  exact hK' _ _ hK

theorem laid_f (w : World) (u v s : Int) (j : Nat) : ((((w.alloc (.cells #[.int .i64 u] 3)).alloc (.cells #[.int .i64 v] 3)).alloc (.cells #[.int .i64 s] 3)).alloc (.cells (fcells ⟨w.heap.size, 0, none⟩ ⟨w.heap.size + 1, 0, none⟩ ⟨w.heap.size + 1 + 1, 0, none⟩) 29)).cell? ⟨w.heap.size + 1 + 1 + 1, j, none⟩ = (fcells ⟨w.heap.size, 0, none⟩ ⟨w.heap.size + 1, 0, none⟩ ⟨w.heap.size + 1 + 1, 0, none⟩)[j]? :=
  cell_of_row _ _ _ _ _ (0, 0) (by
    have h := heap_alloc_new (((w.alloc (.cells #[.int .i64 u] 3)).alloc (.cells #[.int .i64 v] 3)).alloc (.cells #[.int .i64 s] 3)) (.cells (fcells ⟨w.heap.size, 0, none⟩ ⟨w.heap.size + 1, 0, none⟩ ⟨w.heap.size + 1 + 1, 0, none⟩) 29)
    simpa only [World.size_alloc] using h)
theorem laid_u (w : World) (u v s : Int) : ((((w.alloc (.cells #[.int .i64 u] 3)).alloc (.cells #[.int .i64 v] 3)).alloc (.cells #[.int .i64 s] 3)).alloc (.cells (fcells ⟨w.heap.size, 0, none⟩ ⟨w.heap.size + 1, 0, none⟩ ⟨w.heap.size + 1 + 1, 0, none⟩) 29)).cell? ⟨w.heap.size, 0, none⟩ = some (.int .i64 u) :=
  cell_of_row _ _ _ #[.int .i64 u] 3 (0, 0) (by
    rw [Below.heap_alloc _ _ _ (by simp only [World.size_alloc]; omega), Below.heap_alloc _ _ _ (by simp only [World.size_alloc]; omega), Below.heap_alloc _ _ _ (by simp only [World.size_alloc]; omega)]
    exact heap_alloc_new _ _)
theorem laid_v (w : World) (u v s : Int) : ((((w.alloc (.cells #[.int .i64 u] 3)).alloc (.cells #[.int .i64 v] 3)).alloc (.cells #[.int .i64 s] 3)).alloc (.cells (fcells ⟨w.heap.size, 0, none⟩ ⟨w.heap.size + 1, 0, none⟩ ⟨w.heap.size + 1 + 1, 0, none⟩) 29)).cell? ⟨w.heap.size + 1, 0, none⟩ = some (.int .i64 v) :=
  cell_of_row _ _ _ #[.int .i64 v] 3 (0, 0) (by
    rw [Below.heap_alloc _ _ _ (by simp only [World.size_alloc]; omega), Below.heap_alloc _ _ _ (by simp only [World.size_alloc]; omega)]
    have h := heap_alloc_new (w.alloc (.cells #[.int .i64 u] 3)) (.cells #[.int .i64 v] 3)
    simpa only [World.size_alloc] using h)
theorem laid_s (w : World) (u v s : Int) : ((((w.alloc (.cells #[.int .i64 u] 3)).alloc (.cells #[.int .i64 v] 3)).alloc (.cells #[.int .i64 s] 3)).alloc (.cells (fcells ⟨w.heap.size, 0, none⟩ ⟨w.heap.size + 1, 0, none⟩ ⟨w.heap.size + 1 + 1, 0, none⟩) 29)).cell? ⟨w.heap.size + 1 + 1, 0, none⟩ = some (.int .i64 s) :=
  cell_of_row _ _ _ #[.int .i64 s] 3 (0, 0) (by
    rw [Below.heap_alloc _ _ _ (by simp only [World.size_alloc]; omega)]
    have h := heap_alloc_new ((w.alloc (.cells #[.int .i64 u] 3)).alloc (.cells #[.int .i64 v] 3)) (.cells #[.int .i64 s] 3)
    simpa only [World.size_alloc] using h)
theorem laid_below (w : World) (u v s : Int) : Below w.heap.size w ((((w.alloc (.cells #[.int .i64 u] 3)).alloc (.cells #[.int .i64 v] 3)).alloc (.cells #[.int .i64 s] 3)).alloc (.cells (fcells ⟨w.heap.size, 0, none⟩ ⟨w.heap.size + 1, 0, none⟩ ⟨w.heap.size + 1 + 1, 0, none⟩) 29)) :=
  ((((Below.refl _ _).alloc (Nat.le_refl _) _).alloc (by simp only [World.size_alloc]; omega) _).alloc (by simp only [World.size_alloc]; omega) _).alloc (by simp only [World.size_alloc]; omega) _

/-- What the law reads behind the call of writeMMTimer. -/
theorem behind {w : World} {u v s : Int} {w3 : World} (hb : Below ((((w.alloc (.cells #[.int .i64 u] 3)).alloc (.cells #[.int .i64 v] 3)).alloc (.cells #[.int .i64 s] 3)).alloc (.cells (fcells ⟨w.heap.size, 0, none⟩ ⟨w.heap.size + 1, 0, none⟩ ⟨w.heap.size + 1 + 1, 0, none⟩) 29)).heap.size ((((w.alloc (.cells #[.int .i64 u] 3)).alloc (.cells #[.int .i64 v] 3)).alloc (.cells #[.int .i64 s] 3)).alloc (.cells (fcells ⟨w.heap.size, 0, none⟩ ⟨w.heap.size + 1, 0, none⟩ ⟨w.heap.size + 1 + 1, 0, none⟩) 29)) w3) :
    w3.cell? ⟨w.heap.size + 1 + 1 + 1, 31, none⟩ = some (.pointer (some ⟨w.heap.size, 0, none⟩)) ∧ w3.cell? ⟨w.heap.size + 1 + 1 + 1, 32, none⟩ = some (.pointer (some ⟨w.heap.size + 1, 0, none⟩)) ∧
    w3.cell? ⟨w.heap.size + 1 + 1 + 1, 33, none⟩ = some (.pointer (some ⟨w.heap.size + 1 + 1, 0, none⟩)) ∧
    w3.cell? ⟨w.heap.size, 0, none⟩ = some (.int .i64 u) ∧ w3.cell? ⟨w.heap.size + 1, 0, none⟩ = some (.int .i64 v) ∧ w3.cell? ⟨w.heap.size + 1 + 1, 0, none⟩ = some (.int .i64 s) ∧ Below w.heap.size w w3 := by
  refine ⟨cell_later hb ((laid_f w u v s 31).trans rfl), cell_later hb ((laid_f w u v s 32).trans rfl), cell_later hb ((laid_f w u v s 33).trans rfl), cell_later hb (laid_u w u v s), cell_later hb (laid_v w u v s), cell_later hb (laid_s w u v s), ?_⟩
  exact (laid_below w u v s).trans (hb.mono (by simp only [World.size_alloc]; omega))

set_option maxRecDepth 100000 in
set_option maxHeartbeats 1000000 in
theorem law_yes (u v s : Int) (w : World) (u0 : 0 ≤ u) (u7 : u ≤ 7) (v0 : 0 ≤ v) (v31 : v ≤ 31) :
    Calls Ybaf.prog 3 #[.int .i64 u, .int .i64 v, .int .i64 s] w fun e w' => e = .returned (.bool true) ∧ Below w.heap.size w w' := by
  have e23 := neq23
  have e30 := fun (w : World) (a : Option Addr) (n c : Nat) => Lib.run_eql_slice_nil (P := Ybaf.prog) w 30 5 a n c 0 0 Ybaf.underlying30
  go_enter Ybaf.func3, Ybaf.ntmps3
  go_wp2_with (first
    | (refine wpList_build29 _ rfl _ _ _ rfl _ _ _ rfl rfl rfl ?_)
    | (refine wpList_box29 _ rfl _ rfl _ _ _ rfl ?_)
    | fail)
  refine (write_yes (w.heap.size + 1 + 1 + 1) w.heap.size (w.heap.size + 1) u v _ (by exact (laid_f w u v s 31).trans rfl) (by exact (laid_f w u v s 32).trans rfl) (by exact laid_u w u v s) (by exact laid_v w u v s) u0 u7 v0 v31).mono ?_
  rintro e w3 ⟨g, rfl, hg, hb⟩
  obtain ⟨c31, c32, c33, cu, cv, cs, hbw⟩ := behind hb
  clear hb
  go_wp2
  go_ret
  exact ⟨rfl, hbw⟩

set_option maxRecDepth 100000 in
set_option maxHeartbeats 1000000 in
theorem law_no (F : Interp) (u v s : Int) (w : World) (hF : F.answers w.tape) (h : ¬ (0 ≤ u ∧ u ≤ 7 ∧ 0 ≤ v ∧ v ≤ 31)) :
    Calls Ybaf.prog 3 #[.int .i64 u, .int .i64 v, .int .i64 s] w fun e w' => e = .returned (.bool true) ∧ Below w.heap.size w w' := by
  have e23 := neq23
  have e30 := fun (w : World) (a : Option Addr) (n c : Nat) => Lib.run_eql_slice_nil (P := Ybaf.prog) w 30 5 a n c 0 0 Ybaf.underlying30
  have HN : Hid (¬ (0 ≤ u ∧ u ≤ 7 ∧ 0 ≤ v ∧ v ≤ 31)) := h
  have hc0 : u < 0 ∨ 7 < u ∨ ((0 ≤ u ∧ u ≤ 7) ∧ v < 0) ∨ ((0 ≤ u ∧ u ≤ 7) ∧ 31 < v) := by omega
  have hc : u < 0 ∨ 7 < u ∨ ((0 ≤ u ∧ u ≤ 7) ∧ v < 0) ∨ ((0 ≤ u ∧ u ≤ 7) ∧ 31 < v ∧ decide (v ≤ 31) = false) := by
    rcases hc0 with a | a | a | a
    · exact .inl a
    · exact .inr (.inl a)
    · exact .inr (.inr (.inl a))
    · exact .inr (.inr (.inr ⟨a.1, a.2, by simp; omega⟩))
  clear h hc0
  rcases hc with hc | hc | ⟨⟨hc1, hc2⟩, hc⟩ | ⟨⟨hc1, hc2⟩, hc, hd⟩
  all_goals
    go_enter Ybaf.func3, Ybaf.ntmps3
    go_wp2_with (first
      | (refine wpList_build29 _ rfl _ _ _ rfl _ _ _ rfl rfl rfl ?_)
      | (refine wpList_box29 _ rfl _ rfl _ _ _ rfl ?_)
      | fail)
    refine (write_no F (w.heap.size + 1 + 1 + 1) w.heap.size (w.heap.size + 1) u v _ (by exact hF) (by exact (laid_f w u v s 31).trans rfl) (by exact (laid_f w u v s 32).trans rfl) (by exact laid_u w u v s) (by exact laid_v w u v s) HN.out).mono ?_
    rintro e w3 ⟨⟨a, rfl⟩, hb⟩
    obtain ⟨c31, c32, c33, cu, cv, cs, hbw⟩ := behind hb
    clear hb
    go_wp2
    all_goals
      go_ret
      exact ⟨rfl, hbw⟩

end Go.Proofs.YbulkefhsFmt
