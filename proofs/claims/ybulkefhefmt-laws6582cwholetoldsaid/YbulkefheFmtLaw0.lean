/-
  The walk of the law (3) over no name: a nil slice, and an empty one that is not nil.
-/
import Derived.Test.YbulkefheFmtLaw
namespace Go.Proofs.YbulkefheFmt
open Go.RowKit Go.Maps Go.WideMaps Go.Extern.Stop Go.Stop Go.Extern

theorem eql32 (w : World) (a : Addr) : (binOp .eql 32 (.pointer (some a)) (.pointer (some a))).run Ybaf.prog w = .ok (.bool true) w := by
  obtain ⟨j, hj⟩ := info42
  exact run_eql_ptr_same w a Ybaf.underlying32 hj

theorem copy0 (w : World) (dp sp : Option Addr) (ty : TypeId) : (Builtin.copy_ #[23, 23] ty #[.slice dp 0 0, .slice sp 0 0]).run Ybaf.prog w = .ok (goInt 0) w :=
  run_copy_none (P := Ybaf.prog) w 23 23 ty 25 dp sp 0 0 0 0 Ybaf.underlying23 size25 rfl

set_option maxRecDepth 100000 in
set_option maxHeartbeats 1000000 in
theorem law_none (a : Option Addr) (cap : Nat) (w : World) :
    Calls Ybaf.prog 3 #[.slice a 0 cap] w fun e w' => e = .returned (.bool true) ∧ Below w.heap.size w w' := by
  have hnil := fun (w : World) => run_neq_slice_nil_any (P := Ybaf.prog) w 22 9 a 0 cap 0 0 Ybaf.underlying22
  have hmk : ∀ w, (Instr.makeSlice 23 (.int .i64 0) (.int .i64 0)).run Ybaf.prog w = .ok (.slice (some ⟨w.heap.size, 0, none⟩) 0 0) (w.alloc (.cells (madeCells #[.string ⟨#[]⟩] 0) 25)) := fun w => make23 0 (by omega) w
  have e32 := eql32
  have hcp := copy0
  cases a
  · go_enter Ybaf.func3, Ybaf.ntmps3
    go_wp2_with fail
    refine (declare_none _ _ _).mono ?_
    rintro e w3 ⟨g, p, mb, rfl, hcg, hM, ⟨m, hmne, hmb, hmm⟩, hb3⟩
    have r0 : w3.cell? ⟨p, 0, none⟩ = some (.string ⟨#[]⟩) := by rw [cell_of_row _ _ _ _ _ _ hmb]; rfl
    have r1 : w3.cell? ⟨p, 1, none⟩ = some (.slice none 0 0) := by rw [cell_of_row _ _ _ _ _ _ hmb]; rfl
    have r2 : w3.cell? ⟨p, 2, none⟩ = some (.map (some m)) := by rw [cell_of_row _ _ _ _ _ _ hmb]; rfl
    have hlen : ∀ ty, (Builtin.len_ #[27] ty #[.map (some mb)]).run Ybaf.prog w3 = .ok (.int .i64 1) w3 := fun ty => hM.len ty
    have hlk := (hM.hit (s := ⟨#[]⟩) (Nat.zero_le _) (i := 0) (by omega) rfl).1
    have hb03 : Below w.heap.size w w3 := ((Below.refl _ _).alloc (Nat.le_refl _) _).trans (hb3.mono (by simp))
    clear hmb hmk hnil hcp hM hb3
    go_wp2_with fail
    refine wp_loop_rounds 1 ?_
    rw [rounds_succ]
    go_wp2_with (first
      | (go_at_call 5; refine (fresh_any p m _ _ (by exact r0) (by exact r1) (by exact r2) (by exact hmm)).mono ?_; rintro e w' ⟨rfl, rfl⟩)
      | (at_lookup; refine wpList_look _ rfl _ _ 27 rfl _ _ _ rfl rfl hlk ?_))
    go_ret
    exact ⟨rfl, hb03⟩
  · go_enter Ybaf.func3, Ybaf.ntmps3
    go_wp2_with fail
    refine wp_loop_rounds 1 ?_
    rw [rounds_succ]
    go_wp2_with fail
    refine (declare_none _ _ _).mono ?_
    rintro e w3 ⟨g, p, mb, rfl, hcg, hM, ⟨m, hmne, hmb, hmm⟩, hb3⟩
    have r0 : w3.cell? ⟨p, 0, none⟩ = some (.string ⟨#[]⟩) := by rw [cell_of_row _ _ _ _ _ _ hmb]; rfl
    have r1 : w3.cell? ⟨p, 1, none⟩ = some (.slice none 0 0) := by rw [cell_of_row _ _ _ _ _ _ hmb]; rfl
    have r2 : w3.cell? ⟨p, 2, none⟩ = some (.map (some m)) := by rw [cell_of_row _ _ _ _ _ _ hmb]; rfl
    have hlen : ∀ ty, (Builtin.len_ #[27] ty #[.map (some mb)]).run Ybaf.prog w3 = .ok (.int .i64 1) w3 := fun ty => hM.len ty
    have hlk := (hM.hit (s := ⟨#[]⟩) (Nat.zero_le _) (i := 0) (by omega) rfl).1
    have hb03 : Below w.heap.size w w3 := (((Below.refl _ _).alloc (Nat.le_refl _) _).alloc (by simp) _).trans (hb3.mono (by simp; omega))
    clear hmb hmk hnil hcp hM hb3
    go_wp2_with fail
    refine wp_loop_rounds 1 ?_
    rw [rounds_succ]
    go_wp2_with (first
      | (go_at_call 5; refine (fresh_any p m _ _ (by exact r0) (by exact r1) (by exact r2) (by exact hmm)).mono ?_; rintro e w' ⟨rfl, rfl⟩)
      | (at_lookup; refine wpList_look _ rfl _ _ 27 rfl _ _ _ rfl rfl hlk ?_))
    go_ret
    exact ⟨rfl, hb03⟩

end Go.Proofs.YbulkefheFmt
