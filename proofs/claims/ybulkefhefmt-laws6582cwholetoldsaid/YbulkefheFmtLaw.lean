/-
  The walk of the law (3).
-/
import Derived.Test.YbulkefheFmtNone
import Derived.Deep.OwnRows
import Derived.Laws.CopyOwn
import Derived.Deep.QuietTactic
import Derived.BigQuiet
import Derived.Lib.Builder
namespace Go.Proofs.YbulkefheFmt
open Go.RowKit Go.Maps Go.WideMaps Go.Extern.Stop Go.Stop Go.Extern

theorem info25 : (Ybaf.prog.info? 25).map (fun i => (i.zero, i.size, i.bytes)) = some (some (.agg #[.string ⟨#[]⟩]), 1, 16) := by kernel_rfl
theorem make23 (n : Nat) (h : n ≤ 4096) (w : World) : (Instr.makeSlice 23 (.int .i64 (n : Int)) (.int .i64 (n : Int))).run Ybaf.prog w = .ok (.slice (some ⟨w.heap.size, 0, none⟩) n n) (w.alloc (.cells (madeCells #[.string ⟨#[]⟩] n) 25)) := by
  obtain ⟨i0, hi, hz0, hz1, hz2⟩ := info_parts info25
  have hr := run_make (P := Ybaf.prog) w 23 25 i0 _ Ybaf.underlying23 hi hz0 .i64 .i64 n n (by omega) (Int.le_refl _) (by rw [hz2]; omega) (by omega)
  simp only [Int.toNat_natCast, hz1, Nat.mul_one] at hr
  exact hr

/-- After k rounds: the first k names lie there. -/
def upTo (nm : Nat → ByteArray) (k : Nat) (i : Nat) : Value := if i < k then .string (nm i) else .string ⟨#[]⟩

theorem upTo_step (nm : Nat → ByteArray) (k i : Nat) : (if i = k then Value.string (nm k) else upTo nm k i) = upTo nm (k + 1) i := by
  unfold upTo
  by_cases h : i = k
  · subst h; simp
  · by_cases h2 : i < k
    · simp [h, h2, show i < k + 1 by omega]
    · simp [h, h2, show ¬ i < k + 1 by omega]

def names (nm : Nat → ByteArray) (n : Nat) : List Value := (List.range n).map fun i => .string (nm i)
theorem names_at (nm : Nat → ByteArray) (n j : Nat) (h : j < n) : (names nm n)[j]? = some (.string (nm j)) := by simp [names, h]
theorem names_one (nm : Nat → ByteArray) (n : Nat) : ∀ v ∈ names nm n, v.oneCell' = true := by
  intro v hv
  obtain ⟨i, _, rfl⟩ := List.mem_map.1 hv
  rfl
theorem size25 : (Ybaf.prog.info? 25).map (·.size) = some 1 := by kernel_rfl
theorem names_cell {w : World} {g n : Nat} {nm : Nat → ByteArray} (h : w.rowIs g 25 n (upTo nm n)) {o : Obj} : ∀ j v, (names nm n)[j]? = some v → (w.alloc o).cell? ((⟨g, 0, none⟩ : Addr).add j) = some v := by
  intro j v hj
  have hlt : j < n := by
    have := (List.getElem?_eq_some_iff.1 hj).1
    simpa [names] using this
  rw [names_at nm n j hlt] at hj
  have hadd : (⟨g, 0, none⟩ : Addr).add j = ⟨g, j, none⟩ := by unfold Addr.add; split <;> simp_all
  rw [hadd, (h.alloc o).cell hlt]
  simpa [upTo, hlt] using hj

theorem names_row {w : World} {g n : Nat} {nm : Nat → ByteArray} (h : Hid (w.heap[g]? = some (.cells (splice (madeCells #[.string ⟨#[]⟩] n).toList 0 (names nm n)).toArray 25 (0, 0)))) : w.rowIs g 25 n (fun i => .string (nm i)) := by
  have e : splice (madeCells #[Value.string ⟨#[]⟩] n).toList 0 (names nm n) = names nm n := by
    unfold splice
    rw [List.drop_of_length_le (by simp [names, size_madeCells])]
    simp
  have h' := h.out
  rw [e] at h'
  exact ⟨_, h', by simp [names], fun i hi => by simpa using names_at nm n i hi⟩

theorem bad_emp {nm : Nat → ByteArray} {i n : Nat} (hi : i < n) (h : nm i = ⟨#[]⟩) : ¬ Good nm n := fun g => (g i hi).1 h
theorem bad_dup {nm : Nat → ByteArray} {x i n : Nat} (hx : x < i) (hi : i < n) (h : nm x = nm i) : ¬ Good nm n := fun g => (g i hi).2 x hx h
theorem str_eq {s t : ByteArray} (h : (s.toList == t.toList) = true) : s = t := by
  have h1 : s.toList = t.toList := by simpa using h
  rw [ByteArray.toList_eq, ByteArray.toList_eq] at h1
  cases s; cases t
  congr
  exact Array.toList_inj.1 h1
theorem str_ne {s t : ByteArray} (h : (s.toList == t.toList) = false) : s ≠ t := by
  rintro rfl
  simp at h
theorem lt_step {nm : Nat → ByteArray} {x i : Nat} (h : ∀ y, y < x → nm y ≠ nm i) (hx : nm x ≠ nm i) : ∀ y, y < x + 1 → nm y ≠ nm i := by
  intro y hy
  by_cases e : y = x
  · subst e; exact hx
  · exact h y (by omega)

theorem MapIs.drewN {w : World} {nm : Nat → ByteArray} {mb k : Nat} {c : Nat → Nat} (h : MapIs w nm mb k c) (q : Nat) : MapIs (w.drewN q) nm mb k c := h
theorem below_drewN' {B : Nat} {w w' : World} (h : Below B w w') (q : Nat) : Below B w (w'.drewN q) := ⟨h.os, h.tape, h.output, h.size, h.block⟩
theorem some42 : (Ybaf.prog.info? 42).isSome = true := by kernel_rfl
theorem info42 : ∃ j, Ybaf.prog.info? 42 = some j := Option.isSome_iff_exists.1 some42
theorem neq32 (w : World) (a : Addr) : (binOp .neq 32 (.pointer (some a)) (.pointer (some a))).run Ybaf.prog w = .ok (.bool false) w := by
  obtain ⟨j, hj⟩ := info42
  exact Lib.run_neq_ptr_same w a Ybaf.underlying32 hj

set_option maxRecDepth 100000 in
set_option maxHeartbeats 1000000 in
theorem law_big (a : Option Addr) (n cap : Nat) (w : World) (hn : 4096 < n) (hn2 : n ≤ 9223372036854775807) :
    Calls Ybaf.prog 3 #[.slice a n cap] w fun e w' => e = .returned (.bool true) ∧ Below w.heap.size w w' := by
  go_enter Ybaf.func3, Ybaf.ntmps3
  go_wp2
  go_ret
  exact ⟨rfl, Below.refl _ _⟩

set_option maxRecDepth 100000 in
set_option maxHeartbeats 1000000 in
theorem law_any (F : Interp) (b off n cap : Nat) (nm : Nat → ByteArray) (w : World) (hF : F.answers w.tape) (hn : 0 < n) (hn2 : n ≤ 4096) (hB : b < w.heap.size)
    (hc : ∀ i, i < n → w.cell? ⟨b, off + i, none⟩ = some (.string (nm i))) (hsz : ∀ i, i < n → (nm i).size ≤ maxLen) :
    Calls Ybaf.prog 3 #[.slice (some ⟨b, off, none⟩) n cap] w fun e w' => e = .returned (.bool true) ∧ Below w.heap.size w w' := by
  have hnil := fun (w : World) => run_neq_slice_nil_any (P := Ybaf.prog) w 22 9 (some ⟨b, off, none⟩) n cap 0 0 Ybaf.underlying22
  have hmk := make23 n hn2
  have e26 := fun (w : World) => Lib.run_eql_slice_nil (P := Ybaf.prog) w 26 32 none 0 0 0 0 Ybaf.underlying26
  have e27 := fun (w : World) => run_eql_map_nil (P := Ybaf.prog) w 27 9 32 none Ybaf.underlying27
  have e32 := neq32
  have hgt : decide ((4096 : Int) < (n : Int)) = false := by simp; omega
  have hn0 : ((n : Int) == 0) = false := by rw [beq_eq_false_iff_ne]; omega
  go_enter Ybaf.func3, Ybaf.ntmps3
  go_wp2
  go_loopw [4] (fun i wr => ∃ k : Nat, k ≤ n ∧ i = .int .i64 k ∧ wr.rowIs w.heap.size 25 n (upTo nm k) ∧ Below w.heap.size w wr ∧ wr.heap.size = w.heap.size + 1)
    (fun i _ => n - (intOf i).toNat)
  case atStart => exact ⟨0, Nat.zero_le _, rfl, (World.rowIs_made _ _ _ _).congr (fun i _ => by simp [upTo]), (Below.refl _ _).alloc (Nat.le_refl _) _, by simp⟩
  case round =>
    obtain ⟨k, hk, rfl, hrow, hnx, hws⟩ := hrel
    have HWS : Hid (wr.heap.size = w.heap.size + 1) := hws
    clear hws
    by_cases hlt : k < n
    · have hcx : wr.cell? ⟨b, off + k, none⟩ = some (.string (nm k)) := (hnx.cell (by exact hB)).trans (hc k hlt)
      have hcd : ∃ v, wr.cell? ⟨w.heap.size, k, none⟩ = some v := ⟨_, hrow.cell hlt⟩
      obtain ⟨v0, hcd⟩ := hcd
      have hfd := hrow.frozen k
      go_wp2
      go_roundw
      case rel => exact ⟨k + 1, by omega, by go_num, (hrow.set k (.string (nm k))).congr (fun i _ => upTo_step nm k i), hnx.setCell (Nat.le_refl _) _, by simp; exact HWS.out⟩
      case measure => simp [intOf]; omega
    · have hkn : k = n := by omega
      subst hkn
      go_wp2_with (first
        | (refine wpList_copy_splice rfl _ _ 23 23 rfl 25 Ybaf.underlying23 size25 _ _ k k k k rfl rfl wr.heap.size 0 (madeCells #[.string ⟨#[]⟩] k).toList 25 (by exact heap_alloc_new _ _) (names nm k) (by simp [names]) (fun _ => ⟨rfl, _, rfl, names_cell hrow⟩) (by simp [names, size_madeCells]) (names_one nm k) wr.heap.size wr (by exact (Below.refl _ _).alloc (Nat.le_refl _) _) (Nat.le_refl _) ?_; intro w2 hk2 hb2)
        | fail)
      have hrowD : w2.rowIs w.heap.size 25 k (upTo nm k) := hrow.of_block (hb2.block _ hrow.lt)
      have hrowK : w2.rowIs wr.heap.size 25 k (fun i => .string (nm i)) := names_row hk2
      have hF2 : F.answers w2.tape := by rw [hb2.tape, hnx.tape]; exact hF
      have hs2 := hb2.size
      have hsr := hnx.size
      have hlD := hrowD.lt
      have hlK := hrowK.lt
      refine (declare_any F w.heap.size k nm w2 hF2 hn hn2 hlD (fun i hi => by rw [hrowD.cell hi]; simp [upTo, hi]) hsz).mono ?_
      have hb02 : Below w.heap.size w w2 := hnx.trans (hb2.mono hsr)
      clear hk2 hmk hnil hF2 hrow
      rintro e w3 (⟨hgood, c, mb, rfl, hD, hb3⟩ | ⟨hbad, a, rfl, hb3⟩)
      all_goals
        have hcN : ∀ i, i < k → w3.cell? ⟨b, off + i, none⟩ = some (.string (nm i)) := fun i hi => (hb3.cell (p := ⟨b, off + i, none⟩) (by show b < _; omega)).trans ((hb02.cell (p := ⟨b, off + i, none⟩) (by exact hB)).trans (hc i hi))
        have hcD : ∀ i, i < k → w3.cell? ⟨w.heap.size, i, none⟩ = some (.string (nm i)) := fun i hi => (hb3.cell (p := ⟨w.heap.size, i, none⟩) hlD).trans (by rw [hrowD.cell hi]; simp [upTo, hi])
        have hcK : ∀ i, i < k → w3.cell? ⟨wr.heap.size, i, none⟩ = some (.string (nm i)) := fun i hi => (hb3.cell (p := ⟨wr.heap.size, i, none⟩) hlK).trans (hrowK.cell hi)
        have hb03 : Below w.heap.size w w3 := hb02.trans (hb3.mono (by omega))
        clear hb3 hrowD hrowK hlD hlK hs2 hsr hb2 hb02
        go_wp2_with fail
        go_loopw [9] (fun i wx => ∃ j : Nat, j ≤ k ∧ i = .int .i64 j ∧ ∃ q, wx = w3.drewN q) (fun i _ => k - (intOf i).toNat)
        case atStart => exact ⟨0, Nat.zero_le _, rfl, 0, rfl⟩
        case round =>
          obtain ⟨j, hj, rfl, q, rfl⟩ := hrel
          by_cases hjk : j < k
          · have c1 := hcD j hjk
            have c2 := hcK j hjk
            go_wp2
            go_quiet (fail)
            go_wp2
            go_roundw
            case rel => exact ⟨j + 1, by omega, by go_num, _, rfl⟩
            case measure => simp [intOf]; omega
          · have hjk2 : j = k := by omega
            subst hjk2
            clear hcD hcK
            go_wp2
            go_loopw [13, 14] (fun bd i wx => ∃ (i' : Nat) (bb : Bool), i' ≤ j ∧ i = .int .i64 i' ∧ bd = .bool bb ∧ (bb = true → ¬ Good nm j) ∧ (bb = false → Good nm i') ∧ ∃ q, wx = w3.drewN q) (fun _ i _ => j - (intOf i).toNat)
            case atStart => exact ⟨0, false, Nat.zero_le _, rfl, rfl, (fun h => by cases h), (fun _ i hi => by omega), _, rfl⟩
            case round =>
              obtain ⟨i, bb, hi, rfl, rfl, hbt, hbf, q, rfl⟩ := hrel
              cases bb
              · by_cases hij : i < j
                · have c1 := hcN i hij
                  have hgi : Hid (Good nm i) := hbf rfl
                  clear hbt hbf
                  go_wp2
                  all_goals
                    go_loopw [13, 15] (fun bd x wx => ∃ (x' : Nat) (bb : Bool), x' ≤ i ∧ x = .int .i64 x' ∧ bd = .bool bb ∧ (bb = true → ¬ Good nm j) ∧ (bb = false → nm i ≠ ⟨#[]⟩ ∧ ∀ y, y < x' → nm y ≠ nm i) ∧ ∃ q, wx = w3.drewN q) (fun _ x _ => i - (intOf x).toNat)
                    case atStart =>
                      refine ⟨0, _, Nat.zero_le _, rfl, rfl, ?_, ?_, _, rfl⟩
                      · intro h
                        first | exact absurd h (by decide) | exact bad_emp hij (emp_eq (by assumption))
                      · intro h
                        first | exact absurd h (by decide) | exact ⟨emp_ne (by assumption), fun y hy => by omega⟩
                    case round =>
                      obtain ⟨x, bb, hx, rfl, rfl, hxt, hxf, q2, rfl⟩ := hrel
                      have HT : Hid (bb = true → ¬ Good nm j) := hxt
                      have HF' : Hid (bb = false → nm i ≠ ⟨#[]⟩ ∧ ∀ y, y < x → nm y ≠ nm i) := hxf
                      clear hxt hxf
                      by_cases hxi : x < i
                      · have c2 := hcN x (by omega)
                        go_wp2
                        go_quiet (fail)
                        go_wp2
                        all_goals
                          go_roundw
                          case rel =>
                            refine ⟨x + 1, _, by omega, by go_num, rfl, ?_, ?_, _, rfl⟩
                            · intro h
                              first | exact bad_dup hxi hij (str_eq (by assumption)) | exact HT.out h
                            · intro h
                              first | exact absurd h (by decide) | exact ⟨(HF'.out h).1, fun y hy => lt_step (HF'.out h).2 (str_ne (by assumption)) y hy⟩
                          case measure => simp [intOf]; omega
                      · have hxi2 : x = i := by omega
                        subst hxi2
                        go_wp2
                        go_roundw
                        case rel => exact ⟨x + 1, bb, by omega, by go_num, rfl, HT.out, fun h => good_step hgi.out (HF'.out h).1 (HF'.out h).2, _, rfl⟩
                        case measure => simp [intOf]; omega
                · have hij2 : i = j := by omega
                  subst hij2
                  have hgj : Good nm i := hbf rfl
                  clear hbt hbf
                  try exact absurd hgj hbad
                  all_goals
                    have hlen : ∀ q ty, (Builtin.len_ #[27] ty #[.map (some mb)]).run Ybaf.prog (w3.drewN q) = .ok (.int .i64 i) (w3.drewN q) := fun q ty => (hD.map.drewN q).len ty
                    go_wp2
                    go_loopw [16] (fun y wx => ∃ x : Nat, x ≤ i ∧ y = .int .i64 x ∧ ∃ q, wx = w3.drewN q) (fun y _ => i - (intOf y).toNat)
                    case atStart => exact ⟨0, Nat.zero_le _, rfl, _, rfl⟩
                    case round =>
                      obtain ⟨x, hx, rfl, q3, hwq⟩ := hrel
                      have HW : Hid (_ = _) := hwq
                      clear hlen
                      by_cases hxi : x < i
                      · have c1 := hcN x hxi
                        have c2 : w3.cell? ⟨w2.heap.size, x, none⟩ = some (.pointer (some ⟨c x, 0, none⟩)) := by
                          rw [hD.row.cellAt x (by omega)]; simp [hxi]
                        obtain ⟨m, hmne, hmb, hmm⟩ := hD.recs x hxi
                        have r0 : w3.cell? ⟨c x, 0, none⟩ = some (.string (nm x)) := by rw [cell_of_row _ _ _ _ _ _ hmb]; rfl
                        have r1 : w3.cell? ⟨c x, 1, none⟩ = some (.slice none 0 0) := by rw [cell_of_row _ _ _ _ _ _ hmb]; rfl
                        have r2 : w3.cell? ⟨c x, 2, none⟩ = some (.map (some m)) := by rw [cell_of_row _ _ _ _ _ _ hmb]; rfl
                        clear hmb
                        have hDm := (hD.map.drewN q3)
                        have hlt3 : ∀ a, (w3.drewN q3).cell? a = w3.cell? a := fun _ => rfl
                        rw [← hlt3] at c1 c2 r0 r1 r2
                        have hmm' : (w3.drewN q3).heap[m]? = some (.map #[] 0) := hmm
                        rw [← hwq] at c1 c2 r0 r1 r2 hmm' hDm
                        clear hwq hlt3 hmm
                        go_wp2
                        go_quiet ((go_at_call 5; exact Calls.quiet_of_same (fresh_any (c x) m (nm x) _ (by exact r0) (by exact r1) (by exact r2) (by exact hmm'))))
                        go_wp2_with (first
                          | (at_lookup; refine wpList_look _ rfl _ _ 27 rfl _ _ _ rfl rfl (((hDm.drewN _).hit (hsz x hxi) hxi rfl).1) ?_))
                        go_roundw
                        case rel => exact ⟨x + 1, by omega, by go_num, _, by rw [HW.out]; exact World.drewN_drewN _ _ _⟩
                        case measure => simp [intOf]; omega
                      · rw [hwq]
                        go_wp2
                        go_ret
                        exact ⟨rfl, below_drewN' hb03 _⟩
              · have hnb : ¬ Good nm j := hbt rfl
                clear hbt hbf
                first
                  | exact absurd hgood hnb
                  | (by_cases hij : i < j
                     all_goals
                       go_wp2
                       go_ret
                       exact ⟨rfl, below_drewN' hb03 _⟩)

end Go.Proofs.YbulkefheFmt
