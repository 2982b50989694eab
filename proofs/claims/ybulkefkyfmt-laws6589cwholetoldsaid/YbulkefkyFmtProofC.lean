/-
  The told card of the law over ParseSide, proved: whatever the string and the byte.
-/
import Derived.Test.YbulkefkyFmtCards
import Derived.Test.YbulkefkyFmtLawC
import Derived.ProofKit
import Derived.Stop.JoinedAt
import Derived.Stop.JoinedTold
import Derived.SevenToldRow
namespace Go.Proofs.YbulkefkyFmt
open Go.ChangeShapes Go.WideShapes Go.ChangeAt Go.RowKit Go.Kit
open Go.ChangeMaps (open_string shut_string)
open Go.Extern.Stop Go.Stop Go.Extern

namespace ProofC
theorem own : ownKnob Ybaf.prog.godebug = none := by kernel_rfl
theorem laidOutC : laidOutB Ybaf.pinned.checked.prog = true := by kernel_rfl
theorem stopsAre : Ybaf.pinned.checked.prog.stops = ["fmt.Sprintf", "fmt.errorf"] := by kernel_rfl
theorem stopKnobsAre : Ybaf.pinned.checked.prog.stopKnobs = [] := by kernel_rfl
theorem quietAll (os : Os) : Stop.quiet Ybaf.pinned.checked.prog os := by
  intro k hk
  rw [stopKnobsAre] at hk
  cases hk

theorem eq_of_list {s : ByteArray} {l : List UInt8} (h : (s.toList == l) = true) : s = ⟨l.toArray⟩ := by
  have h1 : s.toList = l := by simpa using h
  rw [ByteArray.toList_eq] at h1
  cases s
  congr
  exact Array.toList_inj.1 (by simpa using h1)

theorem law_all (F : Interp) (s : ByteArray) (x : Int) (w : World) (hF : F.answers w.tape) (hs : s.size ≤ 9223372036854775807) (x0 : 0 ≤ x) (x1 : x ≤ 255) :
    Calls Ybaf.prog 4 #[.string s, .int .u8 x] w fun e w' => e = .returned (.bool true) ∧ Below w.heap.size w w' := by
  by_cases hbig : 1048576 < s.size
  · exact lawC_big s x w hbig hs
  · have hsm : s.size ≤ 1048576 := by omega
    have hc : x % 6 = 0 ∨ x % 6 = 1 ∨ x % 6 = 2 ∨ x % 6 = 3 ∨ 4 ≤ x % 6 := by omega
    rcases hc with hc | hc | hc | hc | hc
    · exact lawC_0 s x w hsm x0 x1 hc
    · exact lawC_1 s x w hsm x0 x1 hc
    · exact lawC_2 F s x w hF hsm x0 x1 hc
    · exact lawC_3 F s x w hF hsm x0 x1 hc
    · cases h1 : (s.toList == [115, 101, 108, 108, 101, 114])
      · cases h2 : (s.toList == [98, 117, 121, 101, 114])
        · exact lawC_o F s x w hF hsm x0 x1 hc h1 h2
        · rw [eq_of_list h2]
          exact lawC_b x w x0 x1 hc
      · rw [eq_of_list h1]
        exact lawC_s x w x0 x1 hc

set_option maxRecDepth 100000 in
theorem lifted (os : Os) (started : os.Started) (H : Type) (enc : TypeId × Value → H) :
    ReturnsInTold none {} Ybaf.checked os 4 .any Input.okWide ((OpenSpec.ofChange Rows.lawS6589CWholeSpec).preRow enc Ybaf.prog Ybaf.f4 Rows.lawS6589CWholeRow.domain false [])
      (fun F => ((OpenSpec.ofChange Rows.lawS6589CWholeSpec).at F).post enc Ybaf.prog Ybaf.f4 false true false false) (aloneAtReturn Ybaf.prog) nothingAlways := by
  refine returnsInTold_of_row (C := Ybaf.checked) (s := OpenSpec.ofChange Rows.lawS6589CWholeSpec) (by kernel_rfl) own started (by kernel_rfl) Ybaf.func4
    (OpenSpec.witness_stopped (enc := enc) (C := Ybaf.checked) false ⟨#[], #[.string ⟨#[]⟩, .int .u8 0], []⟩ 8 (by kernel_rfl) (by kernel_rfl) (by kernel_rfl) (by kernel_rfl)) ?_
  intro F W base args ds gs before _ hF hval0 hW _ _ _ _ _
  have hval : ∀ (j : Nat) t v, Ybaf.f4.params[j]? = some t → args[j]? = some v → Value.okWide Ybaf.prog W .any base t v := hval0
  have hW' := hW
  obtain ⟨p, q, hA0, hV, rfl, _, _⟩ := hW
  have hA : DataW.TrodAll enc Ybaf.prog W 0 (fun _ => true) true Ybaf.f4.params.toList args.toList ds p := hA0
  rw [Ybaf.params4] at hA hval
  obtain ⟨v0, v1, d0, d1, p0, p1, rfl, rfl, rfl, h0, h1⟩ := trodAll_two hA
  obtain ⟨rfl, rfl⟩ := trodVars_none hV
  obtain ⟨s, rfl, rfl, rfl, ws⟩ := open_string Ybaf.underlying9 (hval 0 9 v0 rfl rfl) h0
  obtain ⟨x, rfl, rfl, rfl, wx⟩ := open_int Ybaf.underlying5 (hval 1 5 v1 rfl rfl) h1
  clear hA0 hval0
  have hx : 0 ≤ x ∧ x ≤ 255 := by
    have := wx
    simp [Lit.wf, IntKind.min, IntKind.max, IntKind.signed, IntKind.bits] at this
    omega
  have hs := ws
  unfold maxLen at hs
  refine (law_all F.told s x W hF (by omega) hx.1 hx.2).mono ?_
  intro e W' ⟨he, hb⟩
  subst he
  refine ⟨_, rfl, _, _, _, [], [], [], hW', ?_, ?_, rfl, hb.frame _, fun h => by cases h⟩
  · exact trodAll_mk1 (shut_bool Ybaf.underlying4 true)
  · exact trodAll_mk2 (shut_string Ybaf.underlying9 ws) (shut_int Ybaf.underlying5 wx)
end ProofC

theorem lawS6589CWhole_told : Rows.LawS6589CWholeToldSaid :=
  Claim7.holds_of_told_any 4 Ybaf.f4 "fmt.Sprintf" ["fmt.errorf"] [] _ _ _ (by kernel_rfl) rfl rfl rfl ProofC.laidOutC (by kernel_rfl) rfl ⟨rfl, rfl, rfl, rfl, rfl, rfl, rfl⟩ rfl rfl (by kernel_rfl) (by kernel_rfl) Ybaf.func4 (by kernel_rfl)
    (of_decide_eq_true (by kernel_rfl)) (of_decide_eq_true (by kernel_rfl)) ProofC.stopsAre.symm rfl ProofC.stopKnobsAre.symm (by kernel_rfl)
    (by kernel_rfl) (by kernel_rfl) (by kernel_rfl) (by kernel_rfl) (by kernel_rfl) (by kernel_rfl) (by kernel_rfl) (by kernel_rfl) (by kernel_rfl) rfl (by kernel_rfl) rfl rfl
    rfl rfl
    rfl (by kernel_rfl) (by kernel_rfl) (by kernel_rfl) (by decide) (by kernel_rfl)
    (OpenClaim.moreEntering_of (by kernel_rfl) (by kernel_rfl) (by kernel_rfl) (by kernel_rfl) (by kernel_rfl) (by kernel_rfl) (by kernel_rfl) (by kernel_rfl) (by kernel_rfl) (by kernel_rfl))
    ⟨_, WideRow.started_initial, ProofC.quietAll _⟩
    (fun os started _ H enc _ => ProofC.lifted os started H enc)

end Go.Proofs.YbulkefkyFmt
