/-
  The row of the law over allows, proved: whatever the ranges and the number.
-/
import Derived.Test.YbulkefhsRows
import Derived.Test.YbulkefhsLaw0
import Derived.ProofKit
import Derived.Deep.SlicePairs
namespace Go.Proofs.Ybulkefhs
open Go.ChangeShapes Go.WideShapes Go.ChangeAt Go.RowKit Go.Deep

theorem own : ownKnob Yba.prog.godebug = none := by kernel_rfl
theorem laidOut : laidOutB Yba.prog = true := by kernel_rfl
theorem cells25 : Yba.prog.cellsOf 25 = 2 := by kernel_rfl
theorem cells3 : Yba.prog.cellsOf 3 = 1 := by kernel_rfl

set_option maxRecDepth 100000 in
theorem lifted (os : Os) (started : os.Started) (H : Type) (enc : TypeId × Value → H) :
    ReturnsInHanded {} Yba.checked os 3 .any (Rows.lawS6583AWholeSpec.pre6 enc Yba.prog Yba.f3 Rows.lawS6583AWholeRow.domain false) (Rows.lawS6583AWholeSpec.post enc Yba.prog Yba.f3 false true false false) := by
  refine returnsInHanded_of_change (C := Yba.checked) own started (by kernel_rfl) Yba.func3
    (ChangeSpec.witness6 (enc := enc) (C := Yba.checked) false ⟨#[], #[.slice none 0 0, .int .i64 0], []⟩ 8 (by kernel_rfl) (by kernel_rfl) (by kernel_rfl) (by kernel_rfl)) ?_
  intro W base args ds gs before hval0 hW _ _
  have hval : ∀ (j : Nat) t v, Yba.f3.params[j]? = some t → args[j]? = some v → Value.okWide Yba.prog W .any base t v := hval0
  have hW' := hW
  obtain ⟨p, q, hA0, hV, rfl, _, _⟩ := hW
  have hA : DataW.TrodAll enc Yba.prog W 0 (fun _ => true) true Yba.f3.params.toList args.toList ds p := hA0
  rw [Yba.params3] at hA hval
  obtain ⟨v0, v1, d0, d1, p0, p1, rfl, rfl, rfl, h0, h1⟩ := trodAll_two hA
  obtain ⟨rfl, rfl⟩ := trodVars_none hV
  obtain ⟨a0, len, cap, rfl⟩ := okWide_slice Yba.underlying22 (hval 0 22 v0 rfl rfl)
  obtain ⟨x, rfl, rfl, rfl, wx⟩ := open_int Yba.underlying3 (hval 1 3 v1 rfl rfl) h1
  have h0k := h0
  obtain ⟨fuel, hf⟩ := h0
  clear hA0 hval0
  simp only [List.append_nil] at hW'
  have hlt : ∀ y ∈ p0, y.block < W.heap.size := fun y hy => by simpa using hW'.lt y hy
  have hargs : ∀ (W' : World), Below W.heap.size W W' → DataW.Trod enc Yba.prog W' 0 (fun b => decide (b < W.heap.size)) true 22 (.slice a0 len cap) d0 p0 :=
    fun W' hn => Below.trod laidOut (by kernel_rfl) (of_decide_eq_true (by kernel_rfl)) h0k hn hlt
  have fin : ∀ (e : Ending) (W' : World), (e = .returned (.bool true) ∧ Below W.heap.size W W') →
      ∃ v, e = .returned v ∧ Rows.lawS6583AWholeSpec.post enc Yba.checked.prog Yba.f3 false true false false W #[.slice a0 len cap, .int .i64 x] v W' := by
    intro e W' ⟨he, hb⟩
    subst he
    refine ⟨_, rfl, _, _, _, [], p0 ++ [], [], hW', ?_, ?_, rfl, hb.frame _, fun h => by cases h⟩
    · exact trodAll_mk1 (shut_bool Yba.underlying4 true)
    · exact trodAll_mk2 (hargs W' hb) (shut_int Yba.underlying3 wx)
  rcases open_slice_pairs Yba.underlying22 Yba.underlying25 cells25 rfl rfl cells3 cells3 hf with ⟨hcs, _⟩ | ⟨a, len', cap', m, n, V0, V1, D0, D1, P0, P1, hcs, _, hl, hm, hz, _, hx⟩
  · simp [Value.cells] at hcs
    obtain ⟨rfl, rfl, rfl⟩ := hcs
    exact (law_none none 0 x W).mono fin
  · simp [Value.cells] at hcs
    obtain ⟨rfl, rfl, rfl⟩ := hcs
    simp only [if_true] at hz
    unfold maxLen at hm
    by_cases hbig : 1048576 < len
    · exact (law_big (some a) len cap x W hbig (by omega)).mono fin
    · by_cases hl0 : len = 0
      · subst hl0
        exact (law_none (some a) cap x W).mono fin
      · obtain ⟨b, off, spot⟩ := a
        have hx0 := (hx 0 (by omega)).1
        have hspot : spot = none := by simpa [Addr.add] using World.cell?_spot hx0
        subst hspot
        have hbW : b < W.heap.size := by
          have := World.block_lt_of_cell? W _ hx0
          simpa [Addr.add] using this
        have i0 : ∀ i, i < len → ∃ y : Int, V0 i = .int .i64 y := fun i hi => by
          obtain ⟨y, e0, _⟩ := DataW.trod_int Yba.underlying3 (hx i (by omega)).2.2.1
          exact ⟨y, by simpa using e0⟩
        have i1 : ∀ i, i < len → ∃ y : Int, V1 i = .int .i64 y := fun i hi => by
          obtain ⟨y, e0, _⟩ := DataW.trod_int Yba.underlying3 (hx i (by omega)).2.2.2
          exact ⟨y, by simpa using e0⟩
        have e0 : ∀ i, i < len → V0 i = .int .i64 (intOf (V0 i)) := fun i hi => by obtain ⟨y, hy⟩ := i0 i hi; rw [hy]; rfl
        have e1 : ∀ i, i < len → V1 i = .int .i64 (intOf (V1 i)) := fun i hi => by obtain ⟨y, hy⟩ := i1 i hi; rw [hy]; rfl
        exact (law_any b off len cap (fun i => intOf (V0 i)) (fun i => intOf (V1 i)) x W (by omega) (by omega) hbW
          (fun i hi => by rw [← e0 i hi, ← add_plain]; exact (hx i (by omega)).1) (fun i hi => by rw [← e1 i hi, Nat.add_assoc, ← add_plain]; exact (hx i (by omega)).2.1)).mono fin

theorem lawS6583AWhole_holds : Rows.LawS6583AWholeSaid :=
  OpenClaim.holds_of_wide 3 Yba.f3 rfl rfl rfl rfl rfl rfl rfl ⟨rfl, rfl, rfl, rfl, rfl⟩ rfl rfl rfl rfl rfl (by kernel_rfl) Yba.func3 (by kernel_rfl)
    (of_decide_eq_true (by kernel_rfl)) (by unfold Func.isWrapper; first | (rw [if_pos (by decide +kernel)]; kernel_rfl) | (rw [if_neg (by decide +kernel)]; exact ⟨rfl, rfl⟩))
    (fun os started H enc _ => lifted os started H enc)

end Go.Proofs.Ybulkefhs
