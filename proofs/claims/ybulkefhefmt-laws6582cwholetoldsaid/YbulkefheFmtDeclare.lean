/-
  The walk of declareClasses (4).
-/
import Derived.Test.YbulkefheFmtPlain
import Derived.Deep.RegionWith
import Derived.Deep.RegionLaw
import Derived.BigQuiet
namespace Go.Proofs.YbulkefheFmt
open Go.RowKit Go.Maps Go.WideMaps Go.Extern.Stop Go.Stop Go.Extern

theorem info32 : (Ybaf.prog.info? 32).map (fun i => (i.zero, i.size, i.bytes)) = some (some (.pointer none), 1, 8) := by kernel_rfl
theorem run_makeMap_hint (n : Int) (w : World) : (Instr.makeMap 27 (some (.int .i64 n))).run Ybaf.prog w = .ok (.map (some w.heap.size)) (w.alloc (.map #[] 0)) := by kernel_rfl

theorem wpList_look {cm : Bool} (w : World) {ops : Array Oper} {rest : List Oper} {o : Oper} {a : Act} {Q : Exit → Act → World → Prop}
    (hg : o.guard = none) (m x : Operand) (t : TypeId) (hop : o.op = Op.lookup t m x cm) (mv kv r : Value) (hm : a.eval m = mv) (hx : a.eval x = kv)
    (hrun : (Instr.lookup t mv kv cm).run Ybaf.prog w = .ok r w)
    (hK : wpList Ybaf.prog ops Q rest (a.put o.dst r) w) : wpList Ybaf.prog ops Q (o :: rest) a w := by
  refine wpList_plain hg fun K' hK' => ?_
  unfold Oper.wp
  simp [execOp, hop, hm, hx, hrun, Result.andThen]
  exact hK' _ _ hK

theorem emp_eq {s : ByteArray} (h : s.toList.isEmpty = true) : s = ⟨#[]⟩ := by
  have h1 : s.data.toList = [] := by rw [← ByteArray.toList_eq]; simpa using h
  cases s
  rename_i a
  have h3 : a = #[] := Array.toList_eq_nil_iff.1 h1
  rw [h3]

/-- The names up to k are all there and all different. -/
def Good (nm : Nat → ByteArray) (k : Nat) : Prop := ∀ i, i < k → nm i ≠ ⟨#[]⟩ ∧ ∀ j, j < i → nm j ≠ nm i

theorem emp_ne {s : ByteArray} (h : s.toList.isEmpty = false) : s ≠ ⟨#[]⟩ := by
  rintro rfl
  rw [ByteArray.toList_eq] at h
  cases h

theorem good_step {nm : Nat → ByteArray} {k : Nat} (h : Good nm k) (h1 : nm k ≠ ⟨#[]⟩) (h2 : ∀ j, j < k → nm j ≠ nm k) : Good nm (k + 1) := by
  intro i hi
  by_cases e : i = k
  · subst e; exact ⟨h1, h2⟩
  · exact h i (by omega)

set_option maxRecDepth 100000 in
set_option maxHeartbeats 1000000 in
theorem declare_any (F : Interp) (B n : Nat) (nm : Nat → ByteArray) (w : World) (hF : F.answers w.tape) (hn : 0 < n) (hn2 : n ≤ 4096) (hB : B < w.heap.size)
    (hc : ∀ i, i < n → w.cell? ⟨B, i, none⟩ = some (.string (nm i))) (hsz : ∀ i, i < n → (nm i).size ≤ maxLen) :
    Calls Ybaf.prog 4 #[.slice (some ⟨B, 0, none⟩) n n] w fun e w' =>
      (Good nm n ∧ ∃ c mb, e = .returned (.tuple #[.slice (some ⟨w.heap.size, 0, none⟩) n n, .map (some mb), .nilIface]) ∧ Decl nm w.heap.size mb w' (.slice (some ⟨w.heap.size, 0, none⟩) n n) n c ∧ Below w.heap.size w w') ∨
      (¬ Good nm n ∧ ∃ a, e = .returned (.tuple #[.slice none 0 0, .map none, .iface 43 (.pointer (some a))]) ∧ Below w.heap.size w w') := by
  obtain ⟨i0, hi, hz0, hz1, hz2⟩ := info_parts info32
  have hmm := run_makeMap_hint
  have hn0 : ((n : Int) == 0) = false := by rw [beq_eq_false_iff_ne]; omega
  go_enter Ybaf.func4, Ybaf.ntmps4
  go_wp2_with (at_make; refine wpList_make_own _ rfl _ _ 26 rfl w.heap.size 32 i0 (.pointer none) 1 Ybaf.underlying26 hi hz0 hz1 .i64 .i64 _ n rfl rfl rfl (by rw [hz2]; omega) (by unfold maxLen; omega) (Nat.le_refl _) ?_; intro w1 hown hgrow)
  have hs1 := hgrow.size
  go_loopw [6, 29] (fun v i wr => ∃ (k : Nat) (c : Nat → Nat), k ≤ n ∧ i = .int .i64 k ∧ v = .slice (some ⟨w.heap.size, 0, none⟩) k n ∧ Good nm k ∧ Decl nm w.heap.size w1.heap.size wr (.slice (some ⟨w.heap.size, 0, none⟩) k n) k c ∧ Below w.heap.size w wr)
    (fun _ i _ => n - (intOf i).toNat)
  case atStart =>
    exact ⟨0, fun _ => 0, Nat.zero_le _, rfl, rfl, fun i hi => by omega, ⟨hown.alloc _, MapIs.made _ _ _, fun i hi => by omega⟩, ((Below.refl _ _).grown hgrow (Nat.le_refl _) (fun _ h => by cases h)).alloc hs1 _⟩
  case round =>
    obtain ⟨k, c, hk, rfl, rfl, hgood, hD, hnx⟩ := hrel
    by_cases hlt : k < n
    · have hcx : wr.cell? ⟨B, k, none⟩ = some (.string (nm k)) := (hnx.cell (by exact hB)).trans (hc k hlt)
      have hsk := hsz k hlt
      obtain ⟨s, hs⟩ : ∃ s, s = nm k := ⟨_, rfl⟩
      rw [← hs] at hcx hsk
      have HS : Hid (s = nm k) := hs
      clear hs
      have hFr : F.answers wr.tape := by rw [hnx.tape]; exact hF
      by_cases hemp : s.toList.isEmpty = true
      · go_wp2_with (go_at_call 7; refine (newErr_any _ _).mono ?_; rintro e w' ⟨rfl, rfl⟩)
        go_ret3
        refine .inr ⟨fun hg => (hg k hlt).1 ?_, _, rfl, (hnx.alloc hnx.size _).alloc (by have := hnx.size; simp; omega) _⟩
        rw [← HS.out]; exact emp_eq hemp
      · have hemp' : s.toList.isEmpty = false := by simpa using hemp
        clear hemp
        by_cases hdup : ∃ j, j < k ∧ nm j = s
        · obtain ⟨j, hj, hnj⟩ := hdup
          have HN : Hid (nm j = s) := hnj
          clear hnj
          go_wp2_with (first
            | (at_lookup; refine wpList_look _ rfl _ _ 27 rfl _ _ _ rfl rfl (((hD.map.alloc _).hit hsk hj HN.out).1) ?_)
            | (go_at_call 8; refine (errorf_any F s _ (by exact hFr) _ (by simp)).mono ?_; rintro e w' ⟨rfl, hbe⟩))
          go_ret3
          refine .inr ⟨fun hg => (hg k hlt).2 j hj ?_, _, rfl, ?_⟩
          · rw [← HS.out]; exact HN.out
          · have h1 : Below w.heap.size w ((wr.alloc (.cells #[.string s] 25)).alloc (.cells #[.iface 9 (.string s)] 20)) := (hnx.alloc hnx.size _).alloc (by have := hnx.size; simp; omega) _
            exact h1.trans (hbe.mono (by have := hnx.size; simp; omega))
        · have hno : ∀ j, j < k → nm j ≠ s := fun j hj e => hdup ⟨j, hj, e⟩
          clear hdup
          go_wp2_with (first
            | (at_lookup; refine wpList_look _ rfl _ _ 27 rfl _ _ _ rfl rfl ((hD.map.alloc _).miss hsk hno) ?_))
          obtain ⟨w3, hrun, hm3, hg3⟩ : ∃ w3, (Instr.mapUpdate 27 (.map (some w1.heap.size)) (.string s) (.pointer (some ⟨wr.heap.size + 2, 0, none⟩))).run Ybaf.prog (((wr.alloc (.cells #[.string s] 25)).alloc (.map #[] 0)).alloc (.cells #[.string s, .slice none 0 0, .map (some (wr.heap.size + 1))] 42)).drew = .ok () w3 ∧
              MapIs w3 nm w1.heap.size (k + 1) (fun i => if i = k then wr.heap.size + 2 else c i) ∧ (((wr.alloc (.cells #[.string s] 25)).alloc (.map #[] 0)).alloc (.cells #[.string s, .slice none 0 0, .map (some (wr.heap.size + 1))] 42)).drew.grownBy w3 (some w1.heap.size) := by
            have := HS.out
            subst this
            exact MapIs.store (((hD.map.alloc _).alloc _).alloc _).drew hsk hno (by unfold maxLen; omega) _
          have hmw : w.heap.size < w1.heap.size := (hown.lt _ rfl).2
          have hmr : w1.heap.size < wr.heap.size := by
            obtain ⟨es, cl, hb⟩ := hD.map.isMap
            exact (Array.getElem?_eq_some_iff.1 hb).1
          have hrow3 : w3.ownsRow w.heap.size 32 1 (.slice (some ⟨w.heap.size, 0, none⟩) k n) k ((List.range k).map fun i => .pointer (some ⟨c i, 0, none⟩)) :=
            (((hD.row.alloc _).alloc _).alloc _).drew.kept hg3 (.inr (by simp [Value.ownBlock]; omega))
          have hl3 : (Instr.lookup 27 (.map (some w1.heap.size)) (.string s) false).run Ybaf.prog w3 = .ok (.pointer (some ⟨wr.heap.size + 2, 0, none⟩)) w3 := by
            have := (hm3.hit (i := k) hsk (by omega) HS.out.symm).2
            simpa using this
          have hg2 : wr.grownBy (((wr.alloc (.cells #[.string s] 25)).alloc (.map #[] 0)).alloc (.cells #[.string s, .slice none 0 0, .map (some (wr.heap.size + 1))] 42)).drew none :=
            ⟨rfl, rfl, rfl, by simp; omega, fun i hi _ => by
              show (((wr.alloc (.cells #[.string s] 25)).alloc (.map #[] 0)).alloc (.cells #[.string s, .slice none 0 0, .map (some (wr.heap.size + 1))] 42)).heap[i]? = _
              rw [Below.heap_alloc _ _ _ (by simp; omega), Below.heap_alloc _ _ _ (by simp; omega), Below.heap_alloc _ _ _ hi]⟩
          have hrec : Rec (((wr.alloc (.cells #[.string s] 25)).alloc (.map #[] 0)).alloc (.cells #[.string s, .slice none 0 0, .map (some (wr.heap.size + 1))] 42)).drew w1.heap.size (nm k) (wr.heap.size + 2) := by
            rw [← HS.out]
            have := Rec.made (wr.alloc (.cells #[.string s] 25)) w1.heap.size s (by simp; omega)
            rw [World.size_alloc] at this
            exact this
          have hc1 : (wr.alloc (.cells #[.string s] 25)).cell? ⟨wr.heap.size, 0, none⟩ = some (.string s) := by simp
          have hc2 : (((wr.alloc (.cells #[.string s] 25)).alloc (.map #[] 0)).alloc (.cells #[.string s, .slice none 0 0, .map (some (wr.heap.size + 1))] 42)).drew.cell? ⟨wr.heap.size, 0, none⟩ = some (.string s) :=
            (World.grownBy_alloc _ _ none).cell ((World.grownBy_alloc _ _ none).cell hc1 (by simp)) (by simp)
          have hcc : w3.cell? ⟨wr.heap.size, 0, none⟩ = some (.string s) := hg3.cell hc2 (by simp; omega)
          clear hc1 hc2
          go_region_with (go_at_call 6; refine (newClass_any _ _).mono ?_; rintro e w' ⟨rfl, rfl⟩)
          all_goals
            clear hrun
            go_wp2_with (first
              | (at_lookup; refine wpList_look _ rfl _ _ 27 rfl _ _ _ rfl rfl hl3 ?_)
              | (at_builtin; refine wpList_append_fits _ rfl _ _ 26 rfl w.heap.size 32 i0 1 Ybaf.underlying26 hi hz1 w.heap.size k n _ rfl (hrow3.alloc _) ⟨w3.heap.size, 0, none⟩ 1 1 [.pointer (some ⟨wr.heap.size + 2, 0, none⟩)] rfl rfl (cell_one_new _ _ _) (by intro u hu; simp at hu; subst hu; rfl) (by omega) ?_; intro w5 hrow5 hg5))
            go_roundw
            case rel => exact ⟨k + 1, _, by omega, by go_num, rfl, good_step hgood (by rw [← HS.out]; exact emp_ne hemp') (by rw [← HS.out]; exact hno), hD.step hg2 hrec hm3 hg3 hrow5 hg5, hD.below hnx hnx.size (Nat.le_refl _) hs1 hg2 hg3 hg5⟩
            case measure => simp [intOf]; omega
    · have hkn : k = n := by omega
      subst hkn
      go_wp2
      go_ret3
      exact .inl ⟨hgood, c, _, rfl, hD, hnx⟩

end Go.Proofs.YbulkefheFmt
