/-
  What declareClasses has made after k rounds, said of worlds: the row of pointers, the map by name, the new records. No walk here.
-/
import Derived.Test.YbulkefheFmtStop
namespace Go.Proofs.YbulkefheFmt
open Go.RowKit Go.Maps Go.WideMaps

theorem law9 : Keyed Ybaf.prog 9 := string_keyed Ybaf.underlying9
theorem zero32 (w : World) : (zeroValue 32).run Ybaf.prog w = .ok (.pointer none) w := by kernel_rfl

def key (s : ByteArray) : Lit := .string s.data.toList
theorem key_inj {s t : ByteArray} (h : key s = key t) : s = t := by
  simp only [key, Lit.string.injEq] at h
  cases s; cases t
  congr
  exact Array.toList_inj.1 h
theorem key_is (s : ByteArray) : WideAt.IsKeyLit (key s) := trivial
theorem key_ok {s : ByteArray} (hs : s.size ≤ maxLen) : keyOf Ybaf.prog 9 (.string s) = some (key s) := keyOf_string_mk Ybaf.underlying9 hs

/-- How a pointer to a record reads in the ghost of the map: by its block. -/
def ptrElem (v : Value) : Option (DataW Unit × List MemPlace) :=
  match v with
  | .pointer none => some (.nil, [])
  | .pointer (some ⟨b, 0, none⟩) => some (.lit (.int .i64 b), [])
  | _ => none

theorem ptrElem_nil {v : Value} {ps : List MemPlace} (h : ptrElem v = some (.nil, ps)) : v = .pointer none := by
  unfold ptrElem at h
  split at h
  · rfl
  · simp at h
  · cases h
theorem ptrElem_lit {v : Value} {b : Nat} {ps : List MemPlace} (h : ptrElem v = some (.lit (.int .i64 b), ps)) : v = .pointer (some ⟨b, 0, none⟩) := by
  unfold ptrElem at h
  split at h
  · simp at h
  · simp at h
    have e := Int.ofNat.inj h.1
    rw [e]
  · cases h

/-- Block mb is a map of k entries: name i leads to the record in block c i; no other key is there. -/
def MapIs (w : World) (nm : Nat → ByteArray) (mb k : Nat) (c : Nat → Nat) : Prop :=
  ∃ D, w.ownsMap Ybaf.prog 9 ptrElem mb k D ∧ Maps.Tidy D ∧ Maps.size D = k ∧ (∀ i, i < k → D.atKey (key (nm i)) .nil = .lit (.int .i64 (c i))) ∧ (∀ s, Maps.has D (key s) = true ↔ ∃ i, i < k ∧ nm i = s)

theorem MapIs.kept {w w' : World} {nm : Nat → ByteArray} {mb k : Nat} {c : Nat → Nat} {row : Option Nat} (h : MapIs w nm mb k c) (hg : w.grownBy w' row) (hne : some mb ≠ row) : MapIs w' nm mb k c := by
  obtain ⟨D, h1, h2⟩ := h
  exact ⟨D, h1.kept hg hne, h2⟩
theorem MapIs.alloc {w : World} {nm : Nat → ByteArray} {mb k : Nat} {c : Nat → Nat} (h : MapIs w nm mb k c) (o : Obj) : MapIs (w.alloc o) nm mb k c := h.kept (World.grownBy_alloc w o none) (by simp)
theorem MapIs.drew {w : World} {nm : Nat → ByteArray} {mb k : Nat} {c : Nat → Nat} (h : MapIs w nm mb k c) : MapIs w.drew nm mb k c := h

theorem MapIs.made (w : World) (nm : Nat → ByteArray) (c : Nat → Nat) : MapIs (w.alloc (.map #[] 0)) nm w.heap.size 0 c :=
  ⟨.map [], World.ownsMap_made _ _ _ _, tidy_empty, rfl, fun i hi => by omega, fun s => by simp [Maps.has]⟩

theorem MapIs.isMap {w : World} {nm : Nat → ByteArray} {mb k : Nat} {c : Nat → Nat} (h : MapIs w nm mb k c) : ∃ es clock, w.heap[mb]? = some (.map es clock) := by
  obtain ⟨D, ⟨es, clock, hb, _⟩, _⟩ := h
  exact ⟨es, clock, hb⟩

theorem MapIs.len {w : World} {nm : Nat → ByteArray} {mb k : Nat} {c : Nat → Nat} (h : MapIs w nm mb k c) (ty : TypeId) : (Builtin.len_ #[27] ty #[.map (some mb)]).run Ybaf.prog w = .ok (.int .i64 k) w := by
  obtain ⟨D, h1, _, h3, _⟩ := h
  have := h1.len Ybaf.underlying27 ty
  rw [h3] at this
  exact this

theorem MapIs.miss {w : World} {nm : Nat → ByteArray} {mb k : Nat} {c : Nat → Nat} (h : MapIs w nm mb k c) {s : ByteArray} (hs : s.size ≤ maxLen) (hno : ∀ i, i < k → nm i ≠ s) :
    (Instr.lookup 27 (.map (some mb)) (.string s) true).run Ybaf.prog w = .ok (.tuple #[.pointer none, .bool false]) w := by
  obtain ⟨D, h1, _, _, _, h5⟩ := h
  have hh : Maps.has D (key s) = false := by
    cases e : Maps.has D (key s)
    · rfl
    · obtain ⟨i, hi, hn⟩ := (h5 s).1 e
      exact absurd hn (hno i hi)
  obtain ⟨v, ps, hrun, hv⟩ := h1.look_ok law9 Ybaf.underlying27 (zero32 w) (zd := .nil) (zp := []) rfl (key_ok hs)
  rw [Maps.atKey_of_not_has hh] at hv
  rw [hh, ptrElem_nil hv] at hrun
  exact hrun

theorem MapIs.hit {w : World} {nm : Nat → ByteArray} {mb k : Nat} {c : Nat → Nat} (h : MapIs w nm mb k c) {s : ByteArray} (hs : s.size ≤ maxLen) {i : Nat} (hi : i < k) (hn : nm i = s) :
    (Instr.lookup 27 (.map (some mb)) (.string s) true).run Ybaf.prog w = .ok (.tuple #[.pointer (some ⟨c i, 0, none⟩), .bool true]) w ∧
    (Instr.lookup 27 (.map (some mb)) (.string s) false).run Ybaf.prog w = .ok (.pointer (some ⟨c i, 0, none⟩)) w := by
  subst hn
  obtain ⟨D, h1, _, _, h4, h5⟩ := h
  have hh : Maps.has D (key (nm i)) = true := (h5 _).2 ⟨i, hi, rfl⟩
  constructor
  · obtain ⟨v, ps, hrun, hv⟩ := h1.look_ok law9 Ybaf.underlying27 (zero32 w) (zd := .nil) (zp := []) rfl (key_ok hs)
    rw [h4 i hi] at hv
    rw [hh, ptrElem_lit hv] at hrun
    exact hrun
  · obtain ⟨v, ps, hrun, hv⟩ := h1.lookup law9 Ybaf.underlying27 (zero32 w) (zd := .nil) (zp := []) rfl (key_ok hs)
    rw [h4 i hi] at hv
    rw [ptrElem_lit hv] at hrun
    exact hrun

/-- 'byName[s] = p', s new. -/
theorem MapIs.store {w : World} {nm : Nat → ByteArray} {mb k : Nat} {c : Nat → Nat} (h : MapIs w nm mb k c) (hs : (nm k).size ≤ maxLen) (hno : ∀ i, i < k → nm i ≠ nm k) (hk : k < maxLen) (p : Nat) :
    ∃ w', (Instr.mapUpdate 27 (.map (some mb)) (.string (nm k)) (.pointer (some ⟨p, 0, none⟩))).run Ybaf.prog w = .ok () w' ∧
      MapIs w' nm mb (k + 1) (fun i => if i = k then p else c i) ∧ w.grownBy w' (some mb) := by
  obtain ⟨D, h1, h2, h3, h4, h5⟩ := h
  have hh : Maps.has D (key (nm k)) = false := by
    cases e : Maps.has D (key (nm k))
    · rfl
    · obtain ⟨i, hi, hn⟩ := (h5 _).1 e
      exact absurd hn (hno i hi)
  obtain ⟨w', hrun, hown, hg⟩ := h1.update law9 Ybaf.underlying27 hk (key_ok hs) (val := .pointer (some ⟨p, 0, none⟩)) (d := .lit (.int .i64 p)) (ps := []) rfl
  refine ⟨w', hrun, ⟨_, hown, h2.put (key_is _) _, ?_, ?_, ?_⟩, hg⟩
  · rw [Maps.size_put h2, hh, h3]; rfl
  · intro i hi
    by_cases e : i = k
    · subst e
      rw [Maps.atKey_put_same h2.isMap (key_is _)]
      simp
    · rw [Maps.atKey_put_other (fun he => hno i (by omega) (key_inj he)), h4 i (by omega)]
      simp [e]
  · intro s
    by_cases e : s = nm k
    · subst e
      rw [Maps.has_put_same h2.isMap (key_is _)]
      simp only [true_iff]
      exact ⟨k, by omega, rfl⟩
    · rw [Maps.has_put_other (fun he => e (key_inj he)), h5]
      constructor
      · rintro ⟨i, hi, hn⟩; exact ⟨i, by omega, hn⟩
      · rintro ⟨i, hi, hn⟩
        refine ⟨i, ?_, hn⟩
        rcases Nat.lt_or_ge i k with h' | h'
        · exact h'
        · have : i = k := by omega
          subst this
          exact absurd hn.symm e

/-- Block b is a new record of name s: no attributes, an empty map in block m. -/
def Rec (w : World) (mb : Nat) (s : ByteArray) (b : Nat) : Prop :=
  ∃ m, m ≠ mb ∧ w.heap[b]? = some (.cells #[.string s, .slice none 0 0, .map (some m)] 42 (0, 0)) ∧ w.heap[m]? = some (.map #[] 0)

theorem Rec.kept {w w' : World} {mb : Nat} {s : ByteArray} {b : Nat} (h : Rec w mb s b) (hk : ∀ i, i < w.heap.size → i ≠ mb → (∀ cs fr, w.heap[i]? ≠ some (.cells cs 32 fr)) → w'.heap[i]? = w.heap[i]?) (hmb : ∃ es cl, w.heap[mb]? = some (.map es cl)) : Rec w' mb s b := by
  obtain ⟨m, hne, hb, hm⟩ := h
  obtain ⟨es, cl, hmb⟩ := hmb
  refine ⟨m, hne, ?_, ?_⟩
  · rw [hk b (Array.getElem?_eq_some_iff.1 hb).1 (fun e => by subst e; rw [hmb] at hb; simp at hb) (fun cs fr e => by rw [hb] at e; simp at e)]
    exact hb
  · rw [hk m (Array.getElem?_eq_some_iff.1 hm).1 hne (fun cs fr e => by rw [hm] at e; simp at e)]
    exact hm

/-- All that declareClasses has made after k rounds. -/
structure Decl (nm : Nat → ByteArray) (base mb : Nat) (w : World) (v : Value) (k : Nat) (c : Nat → Nat) : Prop where
  row : w.ownsRow base 32 1 v k ((List.range k).map fun i => .pointer (some ⟨c i, 0, none⟩))
  map : MapIs w nm mb k c
  recs : ∀ i, i < k → Rec w mb (nm i) (c i)

theorem range_map_snoc (k p : Nat) (c : Nat → Nat) :
    (List.range (k + 1)).map (fun i => Value.pointer (some ⟨if i = k then p else c i, 0, none⟩)) = (List.range k).map (fun i => Value.pointer (some ⟨c i, 0, none⟩)) ++ [.pointer (some ⟨p, 0, none⟩)] := by
  rw [List.range_succ, List.map_append]
  congr 1
  · refine List.map_congr_left fun i hi => ?_
    have : i ≠ k := by have := List.mem_range.1 hi; omega
    simp [this]
  · simp

theorem Rec.made (w : World) (mb : Nat) (s : ByteArray) (hmb : mb ≠ w.heap.size) :
    Rec ((w.alloc (.map #[] 0)).alloc (.cells #[.string s, .slice none 0 0, .map (some w.heap.size)] 42)) mb s (w.heap.size + 1) := by
  refine ⟨w.heap.size, hmb.symm, ?_, ?_⟩
  · have h := heap_alloc_new (w.alloc (.map #[] 0)) (.cells #[.string s, .slice none 0 0, .map (some w.heap.size)] 42)
    rw [World.size_alloc] at h
    exact h
  · rw [Below.heap_alloc _ _ _ (by simp)]
    exact heap_alloc_new _ _

theorem Decl.step {nm : Nat → ByteArray} {base mb g k n p : Nat} {c : Nat → Nat} {w w2 w3 w5 : World} {o : Obj}
    (hD : Decl nm base mb w (.slice (some ⟨g, 0, none⟩) k n) k c) (h2 : w.grownBy w2 none) (hrec : Rec w2 mb (nm k) p)
    (hm : MapIs w3 nm mb (k + 1) (fun i => if i = k then p else c i)) (h3 : w2.grownBy w3 (some mb))
    (hrow : w5.ownsRow base 32 1 (.slice (some ⟨g, 0, none⟩) (k + 1) n) (k + 1) ((List.range k).map (fun i => Value.pointer (some ⟨c i, 0, none⟩)) ++ [.pointer (some ⟨p, 0, none⟩)]))
    (h5 : (w3.alloc o).grownBy w5 (some g)) :
    Decl nm base mb w5 (.slice (some ⟨g, 0, none⟩) (k + 1) n) (k + 1) (fun i => if i = k then p else c i) := by
  obtain ⟨es, cl, hmb⟩ := hD.map.isMap
  obtain ⟨cur, hg⟩ : ∃ cur, w.heap[g]? = some (.cells cur 32 (0, 0)) := by
    rcases hD.row.2 with ⟨h', _⟩ | ⟨g', cap', cur, h', _, hg, _⟩
    · simp at h'
    · simp at h'
      obtain ⟨rfl, _⟩ := h'
      exact ⟨cur, hg⟩
  have hglt : g < w.heap.size := (Array.getElem?_eq_some_iff.1 hg).1
  have hmlt : mb < w.heap.size := (Array.getElem?_eq_some_iff.1 hmb).1
  have hne : g ≠ mb := fun e => by rw [e, hmb] at hg; simp at hg
  have s2 := h2.size
  have s3 := h3.size
  -- from w2 on a block that is neither the map nor the row stays
  have stay : ∀ i, i < w2.heap.size → i ≠ mb → i ≠ g → w5.heap[i]? = w2.heap[i]? := fun i hi h1 h4 => by
    rw [h5.block i (by simp; omega) (by simp [h4]), Below.heap_alloc _ _ _ (by omega), h3.block i hi (by simp [h1])]
  have hg2 : w2.heap[g]? = some (.cells cur 32 (0, 0)) := (h2.block g hglt (by simp)).trans hg
  have hmb2 : ∃ es cl, w2.heap[mb]? = some (.map es cl) := ⟨es, cl, (h2.block mb hmlt (by simp)).trans hmb⟩
  have carry : ∀ {s : ByteArray} {b : Nat}, Rec w2 mb s b → Rec w5 mb s b := fun h =>
    h.kept (fun i hi h1 h4 => stay i hi h1 (fun e => h4 cur (0, 0) (by rw [e]; exact hg2))) hmb2
  refine ⟨?_, ?_, ?_⟩
  · rw [range_map_snoc]
    exact hrow
  · exact (hm.alloc o).kept h5 (by simp; exact fun e => hne e.symm)
  · intro i hi
    by_cases e : i = k
    · subst e
      simp only [if_true]
      exact carry hrec
    · simp only [e, if_false]
      exact carry ((hD.recs i (by omega)).kept (fun j hj _ _ => h2.block j hj (by simp)) ⟨es, cl, hmb⟩)

theorem Decl.below {nm : Nat → ByteArray} {base mb g k n B : Nat} {c : Nat → Nat} {w0 w w2 w3 w5 : World} {o : Obj}
    (hD : Decl nm base mb w (.slice (some ⟨g, 0, none⟩) k n) k c) (hB : Below B w0 w) (hBs : B ≤ w.heap.size) (hBb : B ≤ base) (hBm : B ≤ mb) (h2 : w.grownBy w2 none) (h3 : w2.grownBy w3 (some mb)) (h5 : (w3.alloc o).grownBy w5 (some g)) : Below B w0 w5 := by
  have hbg : base ≤ g := by
    rcases hD.row.2 with ⟨h', _⟩ | ⟨g', cap', cur, h', hb, hg, _⟩
    · simp at h'
    · simp at h'
      obtain ⟨rfl, _⟩ := h'
      exact hb
  have s2 := h2.size
  have s3 := h3.size
  exact (((hB.grown h2 hBs (fun _ h => by simp at h)).grown h3 (by omega) (fun j h => by simp at h; omega)).alloc (by omega) o).grown h5 (by simp; omega) (fun j h => by simp at h; omega)

end Go.Proofs.YbulkefheFmt
