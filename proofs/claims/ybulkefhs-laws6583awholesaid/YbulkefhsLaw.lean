/-
  The walk of the law (3).
-/
import Derived.Test.YbulkefhsAllows
import Derived.Deep.QuietTactic
import Derived.BigQuiet
namespace Go.Proofs.Ybulkefhs
open Go.RowKit

theorem info27 : (Yba.prog.info? 27).map (fun i => (i.zero, i.size, i.bytes)) = some (some (.agg #[.int .i64 0, .int .i64 0]), 2, 16) := by kernel_rfl
theorem make23 (n : Nat) (h : n ≤ 1048576) (w : World) : (Instr.makeSlice 23 (.int .i64 (n : Int)) (.int .i64 (n : Int))).run Yba.prog w = .ok (.slice (some ⟨w.heap.size, 0, none⟩) n n) (w.alloc (.cells (madeCells #[.int .i64 0, .int .i64 0] (n * 2)) 27)) := by
  obtain ⟨i0, hi, hz0, hz1, hz2⟩ := info_parts info27
  have hr := run_make (P := Yba.prog) w 23 27 i0 _ Yba.underlying23 hi hz0 .i64 .i64 n n (by omega) (Int.le_refl _) (by rw [hz2]; omega) (by omega)
  simp only [Int.toNat_natCast, hz1] at hr
  exact hr

/-- Cell c of the pairs: the least numbers at even places, the greatest at odd ones. -/
def pairAt (mn mx : Nat → Int) (c : Nat) : Value := .int .i64 (if c % 2 = 0 then mn (c / 2) else mx (c / 2))
def upTo (mn mx : Nat → Int) (k c : Nat) : Value := if c < k * 2 then pairAt mn mx c else .int .i64 0

theorem made0 (w : World) (n : Nat) : (w.alloc (.cells (madeCells #[.int .i64 0, .int .i64 0] (n * 2)) 27)).rowIs w.heap.size 27 (n * 2) (fun _ => .int .i64 0) := by
  refine ⟨_, heap_alloc_new _ _, by simp [size_madeCells], fun i hi => ?_⟩
  have h : i % 2 = 0 ∨ i % 2 = 1 := by omega
  rcases h with h | h <;> simp [madeCells, hi, h]

theorem upTo_step (mn mx : Nat → Int) (k c : Nat) :
    (if c = k * 2 + 1 then Value.int .i64 (mx k) else if c = k * 2 then Value.int .i64 (mn k) else upTo mn mx k c) = upTo mn mx (k + 1) c := by
  unfold upTo pairAt
  by_cases h1 : c = k * 2 + 1
  · subst h1
    have e1 : (k * 2 + 1) % 2 = 1 := by omega
    have e2 : (k * 2 + 1) / 2 = k := by omega
    simp [e1, e2, show k * 2 + 1 < (k + 1) * 2 by omega]
  · by_cases h2 : c = k * 2
    · subst h2
      have e2 : (k * 2) / 2 = k := by omega
      simp [e2, show k * 2 < (k + 1) * 2 by omega]
    · by_cases h3 : c < k * 2
      · simp [h1, h2, h3, show c < (k + 1) * 2 by omega]
      · simp [h1, h2, h3, show ¬ c < (k + 1) * 2 by omega]

theorem upTo_even (mn mx : Nat → Int) (k i : Nat) (h : i < k) : upTo mn mx k (i * 2) = .int .i64 (mn i) := by
  unfold upTo pairAt
  have e2 : (i * 2) / 2 = i := by omega
  simp [e2, show i * 2 < k * 2 by omega]
theorem upTo_odd (mn mx : Nat → Int) (k i : Nat) (h : i < k) : upTo mn mx k (i * 2 + 1) = .int .i64 (mx i) := by
  unfold upTo pairAt
  have e1 : (i * 2 + 1) % 2 = 1 := by omega
  have e2 : (i * 2 + 1) / 2 = i := by omega
  simp [e1, e2, show i * 2 + 1 < k * 2 by omega]

theorem row_set2 {w : World} {g n k : Nat} {mn mx : Nat → Int} (h : w.rowIs g 27 (n * 2) (upTo mn mx k)) :
    ((w.setCell ⟨g, k * 2, none⟩ (.int .i64 (mn k))).setCell ⟨g, k * 2 + 1, none⟩ (.int .i64 (mx k))).rowIs g 27 (n * 2) (upTo mn mx (k + 1)) :=
  ((h.set (k * 2) (.int .i64 (mn k))).set (k * 2 + 1) (.int .i64 (mx k))).congr (fun i _ => upTo_step mn mx k i)

theorem rows_step {w : World} {g n k : Nat} {mn mx : Nat → Int} (h1 : w.rowIs g 27 (n * 2) (upTo mn mx k)) (h2 : w.rowIs (g + 1) 27 (n * 2) (upTo mn mx k)) :
    ((((w.setCell ⟨g, k * 2, none⟩ (.int .i64 (mn k))).setCell ⟨g, k * 2 + 1, none⟩ (.int .i64 (mx k))).setCell ⟨g + 1, k * 2, none⟩ (.int .i64 (mn k))).setCell ⟨g + 1, k * 2 + 1, none⟩ (.int .i64 (mx k))).rowIs g 27 (n * 2) (upTo mn mx (k + 1)) ∧
    ((((w.setCell ⟨g, k * 2, none⟩ (.int .i64 (mn k))).setCell ⟨g, k * 2 + 1, none⟩ (.int .i64 (mx k))).setCell ⟨g + 1, k * 2, none⟩ (.int .i64 (mn k))).setCell ⟨g + 1, k * 2 + 1, none⟩ (.int .i64 (mx k))).rowIs (g + 1) 27 (n * 2) (upTo mn mx (k + 1)) :=
  ⟨((row_set2 h1).setOther (by show g ≠ g + 1; omega) _).setOther (by show g ≠ g + 1; omega) _, row_set2 ((h2.setOther (by show g + 1 ≠ g; omega) _).setOther (by show g + 1 ≠ g; omega) _)⟩

theorem below_step {w wr : World} {k : Nat} {a b c d : Value} (h : Below w.heap.size w wr) :
    Below w.heap.size w ((((wr.setCell ⟨w.heap.size, k * 2, none⟩ a).setCell ⟨w.heap.size, k * 2 + 1, none⟩ b).setCell ⟨w.heap.size + 1, k * 2, none⟩ c).setCell ⟨w.heap.size + 1, k * 2 + 1, none⟩ d).drew.drew :=
  ((((h.setCell (Nat.le_refl _) _).setCell (Nat.le_refl _) _).setCell (Nat.le_succ _) _).setCell (Nat.le_succ _) _).drew.drew

theorem neq29 (w : World) : (binOp .neq 29 .nilFunc .nilFunc).run Yba.prog w = .ok (.bool false) w := by kernel_rfl
theorem neq30 (w : World) : (binOp .neq 30 .nilFunc .nilFunc).run Yba.prog w = .ok (.bool false) w := by kernel_rfl
theorem hit_of {mn mx : Nat → Int} {x : Int} {j : Nat} (h : (!decide (x < mn j)) = true ∧ (!decide (mx j < x)) = true) : Hit mn mx x j := by
  simp at h
  exact ⟨h.1, h.2⟩
theorem no_of {mn mx : Nat → Int} {x : Int} {j : Nat} (h : (!decide (x < mn j)) = false ∨ (!decide (mx j < x)) = false) : ¬ Hit mn mx x j := by
  simp at h
  unfold Hit
  omega
theorem down_step {mn mx : Nat → Int} {x : Int} {k j : Nat} (h : ∀ i, j + 1 ≤ i → i < k → ¬ Hit mn mx x i) (hj : ¬ Hit mn mx x j) : ∀ i, j ≤ i → i < k → ¬ Hit mn mx x i := by
  intro i h1 h2
  by_cases e : i = j
  · subst e; exact hj
  · exact h i (by omega) h2

set_option maxRecDepth 100000 in
set_option maxHeartbeats 1000000 in
theorem law_big (a : Option Addr) (n cap : Nat) (x : Int) (w : World) (hn : 1048576 < n) (hn2 : n ≤ 9223372036854775807) :
    Calls Yba.prog 3 #[.slice a n cap, .int .i64 x] w fun e w' => e = .returned (.bool true) ∧ Below w.heap.size w w' := by
  go_enter Yba.func3, Yba.ntmps3
  go_wp2
  go_ret
  exact ⟨rfl, Below.refl _ _⟩

set_option maxRecDepth 100000 in
set_option maxHeartbeats 1000000 in
theorem law_any (b off n cap : Nat) (mn mx : Nat → Int) (x : Int) (w : World) (hn : 0 < n) (hn2 : n ≤ 1048576) (hB : b < w.heap.size)
    (hc0 : ∀ i, i < n → w.cell? ⟨b, off + i * 2, none⟩ = some (.int .i64 (mn i))) (hc1 : ∀ i, i < n → w.cell? ⟨b, off + i * 2 + 1, none⟩ = some (.int .i64 (mx i))) :
    Calls Yba.prog 3 #[.slice (some ⟨b, off, none⟩) n cap, .int .i64 x] w fun e w' => e = .returned (.bool true) ∧ Below w.heap.size w w' := by
  have hnil := fun (w : World) => run_neq_slice_nil_any (P := Yba.prog) w 22 25 (some ⟨b, off, none⟩) n cap 0 0 Yba.underlying22
  have hmk := make23 n hn2
  have hgt : decide ((1048576 : Int) < (n : Int)) = false := by simp; omega
  go_enter Yba.func3, Yba.ntmps3
  go_wp2
  go_loopw [7] (fun i wr => ∃ k : Nat, k ≤ n ∧ i = .int .i64 k ∧ wr.rowIs w.heap.size 27 (n * 2) (upTo mn mx k) ∧ wr.rowIs (w.heap.size + 1) 27 (n * 2) (upTo mn mx k) ∧ Below w.heap.size w wr)
    (fun i _ => n - (intOf i).toNat)
  case atStart =>
    refine ⟨0, Nat.zero_le _, rfl, ((made0 w n).alloc _).congr (fun i _ => by simp [upTo]), ?_, ((Below.refl _ _).alloc (Nat.le_refl _) _).alloc (by simp) _⟩
    have h := (made0 (w.alloc (.cells (madeCells #[.int .i64 0, .int .i64 0] (n * 2)) 27)) n).congr (g := upTo mn mx 0) (fun i _ => by simp [upTo])
    rw [World.size_alloc] at h
    exact h
  case round =>
    obtain ⟨k, hk, rfl, hrow, hrow2, hnx⟩ := hrel
    by_cases hlt : k < n
    · have c0 : wr.cell? ⟨b, off + k * 2, none⟩ = some (.int .i64 (mn k)) := (hnx.cell (by exact hB)).trans (hc0 k hlt)
      have c1 : wr.cell? ⟨b, off + k * 2 + 1, none⟩ = some (.int .i64 (mx k)) := (hnx.cell (by exact hB)).trans (hc1 k hlt)
      obtain ⟨v0, d0⟩ : ∃ v, wr.cell? ⟨w.heap.size, k * 2, none⟩ = some v := ⟨_, hrow.cell (by omega)⟩
      obtain ⟨v1, d1⟩ : ∃ v, wr.cell? ⟨w.heap.size, k * 2 + 1, none⟩ = some v := ⟨_, hrow.cell (by omega)⟩
      obtain ⟨v2, d2⟩ : ∃ v, wr.cell? ⟨w.heap.size + 1, k * 2, none⟩ = some v := ⟨_, hrow2.cell (by omega)⟩
      obtain ⟨v3, d3⟩ : ∃ v, wr.cell? ⟨w.heap.size + 1, k * 2 + 1, none⟩ = some v := ⟨_, hrow2.cell (by omega)⟩
      have f0 := hrow.frozen (k * 2)
      have f1 := hrow.frozen (k * 2 + 1)
      have f2 := hrow2.frozen (k * 2)
      have f3 := hrow2.frozen (k * 2 + 1)
      go_wp2
      go_region
      go_wp2
      go_region
      go_wp2
      go_roundw
      case rel => exact ⟨k + 1, by omega, by go_num, (rows_step hrow hrow2).1, (rows_step hrow hrow2).2, below_step hnx⟩
      case measure => simp [intOf]; omega
    · have hkn : k = n := by omega
      subst hkn
      have hl1 := hrow.lt
      have hl2 := hrow2.lt
      go_wp2_with fail
      refine (allows_any wr.heap.size w.heap.size k k mn mx x _ hn2 (by simp) (by simp; omega) (fun i hi => by rw [(hrow.alloc _).cell (by omega), upTo_even mn mx k i hi]) (fun i hi => by rw [(hrow.alloc _).cell (by omega), upTo_odd mn mx k i hi])).mono ?_
      rintro e w3 ⟨hgot, hb3⟩
      simp only [World.size_alloc] at hb3
      have t0 := hb3.cell (p := ⟨wr.heap.size, 0, none⟩) (by show wr.heap.size < _; omega)
      have t1 := hb3.cell (p := ⟨wr.heap.size, 1, none⟩) (by show wr.heap.size < _; omega)
      have t2 := hb3.cell (p := ⟨wr.heap.size, 2, none⟩) (by show wr.heap.size < _; omega)
      have t3 := hb3.cell (p := ⟨wr.heap.size, 3, none⟩) (by show wr.heap.size < _; omega)
      have t4 := hb3.cell (p := ⟨wr.heap.size, 4, none⟩) (by show wr.heap.size < _; omega)
      have t5 := hb3.cell (p := ⟨wr.heap.size, 5, none⟩) (by show wr.heap.size < _; omega)
      simp at t0 t1 t2 t3 t4 t5
      have hkb : ∀ (g c : Nat), g < wr.heap.size → w3.cell? ⟨g, c, none⟩ = wr.cell? ⟨g, c, none⟩ := fun g c hg =>
        (hb3.cell (p := ⟨g, c, none⟩) (by show g < _; omega)).trans (World.cell?_of_block (Below.heap_alloc _ _ _ hg))
      have hs0 := hnx.size
      have rs0 : ∀ i, i < k → w3.cell? ⟨b, off + i * 2, none⟩ = some (.int .i64 (mn i)) := fun i hi => (hkb b _ (by omega)).trans ((hnx.cell (by exact hB)).trans (hc0 i hi))
      have rs1 : ∀ i, i < k → w3.cell? ⟨b, off + i * 2 + 1, none⟩ = some (.int .i64 (mx i)) := fun i hi => (hkb b _ (by omega)).trans ((hnx.cell (by exact hB)).trans (hc1 i hi))
      have ls0 : ∀ i, i < k → w3.cell? ⟨w.heap.size, i * 2, none⟩ = some (.int .i64 (mn i)) := fun i hi => (hkb _ _ hl1).trans (by rw [hrow.cell (by omega), upTo_even mn mx k i hi])
      have ls1 : ∀ i, i < k → w3.cell? ⟨w.heap.size, i * 2 + 1, none⟩ = some (.int .i64 (mx i)) := fun i hi => (hkb _ _ hl1).trans (by rw [hrow.cell (by omega), upTo_odd mn mx k i hi])
      have kp0 : ∀ i, i < k → w3.cell? ⟨w.heap.size + 1, i * 2, none⟩ = some (.int .i64 (mn i)) := fun i hi => (hkb _ _ hl2).trans (by rw [hrow2.cell (by omega), upTo_even mn mx k i hi])
      have kp1 : ∀ i, i < k → w3.cell? ⟨w.heap.size + 1, i * 2 + 1, none⟩ = some (.int .i64 (mx i)) := fun i hi => (hkb _ _ hl2).trans (by rw [hrow2.cell (by omega), upTo_odd mn mx k i hi])
      have hb03 : Below w.heap.size w w3 := (hnx.alloc hs0 _).trans (hb3.mono (by omega))
      clear hkb hb3 hrow hrow2 hmk hnil hnx
      rcases hgot with ⟨rfl, hyes⟩ | ⟨rfl, hno⟩
      all_goals
        go_wp2_with fail
        go_loop [10, 11] (fun wt i => ∃ (j : Nat) (bb : Bool), j ≤ k ∧ i = .int .i64 ((j : Int) - 1) ∧ wt = .bool bb ∧ (bb = true → ∃ i, i < k ∧ Hit mn mx x i) ∧ (bb = false → ∀ i, j ≤ i → i < k → ¬ Hit mn mx x i)) (fun _ i => (intOf i + 1).toNat)
        case atStart => exact ⟨k, false, Nat.le_refl _, rfl, rfl, (fun h => by cases h), (fun _ i h1 h2 => by omega)⟩
        case round =>
          obtain ⟨j, bb, hj, rfl, rfl, hbt, hbf⟩ := hrel
          have HT : Hid (bb = true → ∃ i, i < k ∧ Hit mn mx x i) := hbt
          have HF' : Hid (bb = false → ∀ i, j ≤ i → i < k → ¬ Hit mn mx x i) := hbf
          clear hbt hbf
          cases j with
          | zero =>
            cases bb with
            | false =>
              try (exfalso; obtain ⟨i, hi, hh⟩ := hyes; exact HF'.out rfl i (Nat.zero_le _) hi hh)
              all_goals
                have zz := neq29
                have zz2 := neq30
                have zz3 := fun (w : World) => run_neq_slice_nil_any (P := Yba.prog) w 31 61 none 0 0 0 0 Yba.underlying31
                have zz4 := fun (w : World) => run_neq_slice_nil_any (P := Yba.prog) w 33 68 none 0 0 0 0 Yba.underlying33
                clear HT HF' rs0 rs1
                go_wp2
                clear zz zz2 zz3 zz4 t0 t1 t2 t3 t4 t5
                go_loopw [12] (fun i wx => ∃ m : Nat, m ≤ k ∧ i = .int .i64 m ∧ ∃ q, wx = w3.drewN q) (fun i _ => k - (intOf i).toNat)
                case atStart => exact ⟨0, Nat.zero_le _, rfl, 0, rfl⟩
                case round =>
                  obtain ⟨m, hm, rfl, q, rfl⟩ := hrel
                  by_cases hmk : m < k
                  · have a0 := ls0 m hmk
                    have a1 := ls1 m hmk
                    have b0 := kp0 m hmk
                    have b1 := kp1 m hmk
                    go_wp2
                    go_quiet (fail)
                    go_wp2
                    go_roundw
                    case rel => exact ⟨m + 1, by omega, by go_num, _, rfl⟩
                    case measure => simp [intOf]; omega
                  · go_wp2
                    go_ret
                    exact ⟨rfl, ⟨hb03.os, hb03.tape, hb03.output, hb03.size, hb03.block⟩⟩
            | true =>
              try (exfalso; obtain ⟨i, hi, hh⟩ := HT.out rfl; exact hno i hi hh)
              all_goals
                have zz := neq29
                have zz2 := neq30
                have zz3 := fun (w : World) => run_neq_slice_nil_any (P := Yba.prog) w 31 61 none 0 0 0 0 Yba.underlying31
                have zz4 := fun (w : World) => run_neq_slice_nil_any (P := Yba.prog) w 33 68 none 0 0 0 0 Yba.underlying33
                clear HT HF' rs0 rs1
                go_wp2
                clear zz zz2 zz3 zz4 t0 t1 t2 t3 t4 t5
                go_loopw [12] (fun i wx => ∃ m : Nat, m ≤ k ∧ i = .int .i64 m ∧ ∃ q, wx = w3.drewN q) (fun i _ => k - (intOf i).toNat)
                case atStart => exact ⟨0, Nat.zero_le _, rfl, 0, rfl⟩
                case round =>
                  obtain ⟨m, hm, rfl, q, rfl⟩ := hrel
                  by_cases hmk : m < k
                  · have a0 := ls0 m hmk
                    have a1 := ls1 m hmk
                    have b0 := kp0 m hmk
                    have b1 := kp1 m hmk
                    go_wp2
                    go_quiet (fail)
                    go_wp2
                    go_roundw
                    case rel => exact ⟨m + 1, by omega, by go_num, _, rfl⟩
                    case measure => simp [intOf]; omega
                  · go_wp2
                    go_ret
                    exact ⟨rfl, ⟨hb03.os, hb03.tape, hb03.output, hb03.size, hb03.block⟩⟩
          | succ j =>
            rw [show ((j + 1 : Nat) : Int) - 1 = (j : Int) from by omega]
            have r0 := rs0 j (by omega)
            have r1 := rs1 j (by omega)
            clear ls0 ls1 kp0 kp1 t0 t1 t2 t3 t4 t5
            go_wp2
            · go_round
              case rel => exact ⟨j, true, by omega, rfl, rfl, fun _ => ⟨j, by omega, hit_of (by assumption)⟩, fun h => by cases h⟩
              case measure => simp [intOf]
            all_goals
              go_round
              case rel => exact ⟨j, bb, by omega, rfl, rfl, HT.out, fun h => down_step (HF'.out h) (by first | exact no_of (by assumption) | (intro hh; unfold Hit at hh; omega))⟩
              case measure => simp [intOf]

end Go.Proofs.Ybulkefhs
