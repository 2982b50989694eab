/-
  declareClasses (4) over no record: one record without a name.
-/
import Derived.Test.YbulkefheFmtDeclare
namespace Go.Proofs.YbulkefheFmt
open Go.RowKit Go.Maps Go.WideMaps Go.Extern.Stop Go.Stop Go.Extern

theorem Rec.grown {w w' : World} {mb : Nat} {s : ByteArray} {b : Nat} {row : Option Nat} (h : Rec w mb s b) (hg : w.grownBy w' row) (hr : ∀ j, row = some j → j = mb) (hb : b ≠ mb) : Rec w' mb s b := by
  obtain ⟨m, hne, h1, h2⟩ := h
  have hn : ∀ i, i ≠ mb → some i ≠ row := fun i hi e => hi (hr i e.symm)
  exact ⟨m, hne, (hg.block b (Array.getElem?_eq_some_iff.1 h1).1 (hn b hb)).trans h1, (hg.block m (Array.getElem?_eq_some_iff.1 h2).1 (hn m hne)).trans h2⟩

set_option maxRecDepth 100000 in
set_option maxHeartbeats 1000000 in
theorem declare_none (a : Option Addr) (cap : Nat) (w : World) :
    Calls Ybaf.prog 4 #[.slice a 0 cap] w fun e w' => ∃ g p mb, e = .returned (.tuple #[.slice (some ⟨g, 0, none⟩) 1 1, .map (some mb), .nilIface]) ∧
      w'.cell? ⟨g, 0, none⟩ = some (.pointer (some ⟨p, 0, none⟩)) ∧ MapIs w' (fun _ => ⟨#[]⟩) mb 1 (fun _ => p) ∧ Rec w' mb ⟨#[]⟩ p ∧ Below w.heap.size w w' := by
  have hmm := @run_makeMap Ybaf.prog
  obtain ⟨w3, hrun, hm3, hg3⟩ := MapIs.store (nm := fun _ => ⟨#[]⟩) (MapIs.made (((w.alloc (.map #[] 0)).alloc (.cells #[.string ⟨#[]⟩, .slice none 0 0, .map (some w.heap.size)] 42)).alloc (.cells #[.pointer (some ⟨w.heap.size + 1, 0, none⟩)] 32)) (fun _ => ⟨#[]⟩) (fun _ => w.heap.size + 1))
    (Nat.zero_le _) (fun i hi => by omega) (by simp [maxLen]) (w.heap.size + 1)
  have hm4 : MapIs w3 (fun _ => ⟨#[]⟩) (w.heap.size + 3) 1 (fun _ => w.heap.size + 1) := by
    have e : (fun i => if i = 0 then w.heap.size + 1 else (fun _ => w.heap.size + 1) i) = (fun _ : Nat => w.heap.size + 1) := by funext i; split <;> rfl
    rw [e] at hm3
    simpa using hm3
  simp only [World.size_alloc] at hrun hg3
  clear hm3
  obtain ⟨W, hW⟩ : ∃ W, W = (((w.alloc (.map #[] 0)).alloc (.cells #[.string ⟨#[]⟩, .slice none 0 0, .map (some w.heap.size)] 42)).alloc (.cells #[.pointer (some ⟨w.heap.size + 1, 0, none⟩)] 32)).alloc (.map #[] 0) := ⟨_, rfl⟩
  have hWs : W.heap.size = w.heap.size + 4 := by rw [hW]; simp
  have hg3' : W.grownBy w3 (some (w.heap.size + 3)) := by rw [hW]; exact hg3
  have hcell : w3.cell? ⟨w.heap.size + 2, 0, none⟩ = some (.pointer (some ⟨w.heap.size + 1, 0, none⟩)) := by
    refine hg3'.cell ?_ (by simp)
    rw [hW]
    refine (World.grownBy_alloc _ _ none).cell ?_ (by simp)
    have h := cell_one_new ((w.alloc (.map #[] 0)).alloc (.cells #[.string ⟨#[]⟩, .slice none 0 0, .map (some w.heap.size)] 42)) (.pointer (some ⟨w.heap.size + 1, 0, none⟩)) 32 0 _ rfl
    simpa [Addr.add] using h
  have hrec : Rec w3 (w.heap.size + 3) ⟨#[]⟩ (w.heap.size + 1) := by
    have h0 := (((Rec.made w (w.heap.size + 3) ⟨#[]⟩ (by omega)).grown (World.grownBy_alloc _ (.cells #[.pointer (some ⟨w.heap.size + 1, 0, none⟩)] 32) none) (fun j h => by cases h) (by omega)).grown (World.grownBy_alloc _ (.map #[] 0) none) (fun j h => by cases h) (by omega))
    rw [← hW] at h0
    exact h0.grown hg3' (fun j h => by cases h; rfl) (by omega)
  have hbel : Below w.heap.size w w3 := by
    refine Below.grown ?_ hg3' (by omega) (fun j hj => by simp at hj; omega)
    rw [hW]
    exact ((((Below.refl _ _).alloc (Nat.le_refl _) _).alloc (by simp) _).alloc (by simp; omega) _).alloc (by simp; omega) _
  clear hg3' hWs hW hg3
  go_enter Ybaf.func4, Ybaf.ntmps4
  go_wp2_with (go_at_call 6; refine (newClass_any _ _).mono ?_; rintro e w' ⟨rfl, rfl⟩)
  go_ret3
  exact ⟨w.heap.size + 2, w.heap.size + 1, w.heap.size + 3, rfl, hcell, hm4, hrec, hbel⟩

end Go.Proofs.YbulkefheFmt
