/-
  The walk of LawS6589CWhole (4), through ParseSide (6).
-/
import Derived.Test.YbulkefkyFmtStop
namespace Go.Proofs.YbulkefkyFmt
open Go.RowKit Go.Extern.Stop Go.Stop Go.Extern

theorem bytes_eq {s : ByteArray} {l : List UInt8} (hn : s.size = l.length) (h : ∀ i (hi : i < s.size) (hl : i < l.length), (s[i]'hi).toNat = (l[i]'hl).toNat) : s.toList = l := by
  rw [ByteArray.toList_eq]
  refine List.ext_getElem (by rw [← hn]; exact Array.length_toList) fun i h1 h2 => ?_
  have := h i (by omega) h2
  exact UInt8.toNat_inj.1 this

theorem is_seller {s : ByteArray} (hn : (s.size : Int) = 6) {p0 : 0 < s.size} {p1 : 1 < s.size} {p2 : 2 < s.size} {p3 : 3 < s.size} {p4 : 4 < s.size} {p5 : 5 < s.size}
    (h0 : ((s[0]'p0).toNat : Int) = 115) (h1 : ((s[1]'p1).toNat : Int) = 101) (h2 : ((s[2]'p2).toNat : Int) = 108) (h3 : ((s[3]'p3).toNat : Int) = 108) (h4 : ((s[4]'p4).toNat : Int) = 101) (h5 : (((s[5]'p5).toNat : Int) == 114) = true)
    (h : (s.toList == [115, 101, 108, 108, 101, 114]) = false) : False := by
  have h5' : ((s[5]'p5).toNat : Int) = 114 := by simpa using h5
  have e : s.toList = [115, 101, 108, 108, 101, 114] := by
    refine bytes_eq (by simp; omega) fun i hi hl => ?_
    match i, hi, hl with
    | 0, _, _ => simp; omega
    | 1, _, _ => simp; omega
    | 2, _, _ => simp; omega
    | 3, _, _ => simp; omega
    | 4, _, _ => simp; omega
    | 5, _, _ => simp; omega
  rw [e] at h
  simp at h

theorem is_buyer {s : ByteArray} (hn : (s.size : Int) = 5) {p0 : 0 < s.size} {p1 : 1 < s.size} {p2 : 2 < s.size} {p3 : 3 < s.size} {p4 : 4 < s.size}
    (h0 : ((s[0]'p0).toNat : Int) = 98) (h1 : ((s[1]'p1).toNat : Int) = 117) (h2 : ((s[2]'p2).toNat : Int) = 121) (h3 : ((s[3]'p3).toNat : Int) = 101) (h4 : (((s[4]'p4).toNat : Int) == 114) = true)
    (h : (s.toList == [98, 117, 121, 101, 114]) = false) : False := by
  have h4' : ((s[4]'p4).toNat : Int) = 114 := by simpa using h4
  have e : s.toList = [98, 117, 121, 101, 114] := by
    refine bytes_eq (by simp; omega) fun i hi hl => ?_
    match i, hi, hl with
    | 0, _, _ => simp; omega
    | 1, _, _ => simp; omega
    | 2, _, _ => simp; omega
    | 3, _, _ => simp; omega
    | 4, _, _ => simp; omega
  rw [e] at h
  simp at h

set_option maxRecDepth 100000 in
set_option maxHeartbeats 1000000 in
theorem lawC_big (s : ByteArray) (x : Int) (w : World) (hs : 1048576 < s.size) (hs2 : s.size ≤ 9223372036854775807) :
    Calls Ybaf.prog 4 #[.string s, .int .u8 x] w fun e w' => e = .returned (.bool true) ∧ Below w.heap.size w w' := by
  go_enter Ybaf.func4, Ybaf.ntmps4
  go_wp2
  go_ret
  exact ⟨rfl, Below.refl _ _⟩

set_option maxRecDepth 100000 in
set_option maxHeartbeats 1000000 in
theorem lawC_0 (s : ByteArray) (x : Int) (w : World) (hs : s.size ≤ 1048576) (x0 : 0 ≤ x) (x1 : x ≤ 255) (hx : x % 6 = 0) :
    Calls Ybaf.prog 4 #[.string s, .int .u8 x] w fun e w' => e = .returned (.bool true) ∧ Below w.heap.size w w' := by
  go_enter Ybaf.func4, Ybaf.ntmps4
  go_wp2_with fail
  refine (parse_seller _).mono ?_
  rintro e w1 ⟨rfl, rfl⟩
  go_wp2
  go_ret
  exact ⟨rfl, Below.refl _ _⟩

set_option maxRecDepth 100000 in
set_option maxHeartbeats 1000000 in
theorem lawC_1 (s : ByteArray) (x : Int) (w : World) (hs : s.size ≤ 1048576) (x0 : 0 ≤ x) (x1 : x ≤ 255) (hx : x % 6 = 1) :
    Calls Ybaf.prog 4 #[.string s, .int .u8 x] w fun e w' => e = .returned (.bool true) ∧ Below w.heap.size w w' := by
  go_enter Ybaf.func4, Ybaf.ntmps4
  go_wp2_with fail
  refine (parse_buyer _).mono ?_
  rintro e w1 ⟨rfl, rfl⟩
  go_wp2
  go_ret
  exact ⟨rfl, Below.refl _ _⟩

set_option maxRecDepth 100000 in
set_option maxHeartbeats 1000000 in
theorem lawC_2 (F : Interp) (s : ByteArray) (x : Int) (w : World) (hF : F.answers w.tape) (hs : s.size ≤ 1048576) (x0 : 0 ≤ x) (x1 : x ≤ 255) (hx : x % 6 = 2) :
    Calls Ybaf.prog 4 #[.string s, .int .u8 x] w fun e w' => e = .returned (.bool true) ∧ Below w.heap.size w w' := by
  go_enter Ybaf.func4, Ybaf.ntmps4
  go_wp2_with fail
  refine (parse_other F _ _ (by exact hF) (by rw [ByteArray.toList_eq]; rfl) (by rw [ByteArray.toList_eq]; rfl)).mono ?_
  rintro e w1 ⟨⟨a, rfl⟩, hb⟩
  go_wp2
  go_ret
  exact ⟨rfl, hb⟩

set_option maxRecDepth 100000 in
set_option maxHeartbeats 1000000 in
theorem lawC_3 (F : Interp) (s : ByteArray) (x : Int) (w : World) (hF : F.answers w.tape) (hs : s.size ≤ 1048576) (x0 : 0 ≤ x) (x1 : x ≤ 255) (hx : x % 6 = 3) :
    Calls Ybaf.prog 4 #[.string s, .int .u8 x] w fun e w' => e = .returned (.bool true) ∧ Below w.heap.size w w' := by
  go_enter Ybaf.func4, Ybaf.ntmps4
  go_wp2_with fail
  refine (parse_other F _ _ (by exact hF) (by rw [ByteArray.toList_eq]; rfl) (by rw [ByteArray.toList_eq]; rfl)).mono ?_
  rintro e w1 ⟨⟨a, rfl⟩, hb⟩
  go_wp2
  go_ret
  exact ⟨rfl, hb⟩

set_option maxRecDepth 100000 in
set_option maxHeartbeats 1000000 in
theorem lawC_s (x : Int) (w : World) (x0 : 0 ≤ x) (x1 : x ≤ 255) (hx : 4 ≤ x % 6) :
    Calls Ybaf.prog 4 #[.string ⟨#[115, 101, 108, 108, 101, 114]⟩, .int .u8 x] w fun e w' => e = .returned (.bool true) ∧ Below w.heap.size w w' := by
  go_enter Ybaf.func4, Ybaf.ntmps4
  go_wp2_with fail
  refine (parse_seller _).mono ?_
  rintro e w1 ⟨rfl, rfl⟩
  go_wp2
  go_ret
  exact ⟨rfl, Below.refl _ _⟩

set_option maxRecDepth 100000 in
set_option maxHeartbeats 1000000 in
theorem lawC_b (x : Int) (w : World) (x0 : 0 ≤ x) (x1 : x ≤ 255) (hx : 4 ≤ x % 6) :
    Calls Ybaf.prog 4 #[.string ⟨#[98, 117, 121, 101, 114]⟩, .int .u8 x] w fun e w' => e = .returned (.bool true) ∧ Below w.heap.size w w' := by
  go_enter Ybaf.func4, Ybaf.ntmps4
  go_wp2_with fail
  refine (parse_buyer _).mono ?_
  rintro e w1 ⟨rfl, rfl⟩
  go_wp2
  go_ret
  exact ⟨rfl, Below.refl _ _⟩

set_option maxRecDepth 100000 in
set_option maxHeartbeats 1000000 in
theorem lawC_o (F : Interp) (s : ByteArray) (x : Int) (w : World) (hF : F.answers w.tape) (hs : s.size ≤ 1048576) (x0 : 0 ≤ x) (x1 : x ≤ 255) (hx : 4 ≤ x % 6)
    (h1 : (s.toList == [115, 101, 108, 108, 101, 114]) = false) (h2 : (s.toList == [98, 117, 121, 101, 114]) = false) :
    Calls Ybaf.prog 4 #[.string s, .int .u8 x] w fun e w' => e = .returned (.bool true) ∧ Below w.heap.size w w' := by
  have H1 : Hid ((s.toList == [115, 101, 108, 108, 101, 114]) = false) := h1
  have H2 : Hid ((s.toList == [98, 117, 121, 101, 114]) = false) := h2
  clear h1 h2
  go_enter Ybaf.func4, Ybaf.ntmps4
  go_wp2_with fail
  refine (parse_other F _ _ (by exact hF) H1.out H2.out).mono ?_
  rintro e w1 ⟨⟨a, rfl⟩, hb⟩
  go_wp2
  all_goals
    first
    | (go_ret; exact ⟨rfl, hb⟩)
    | exact (is_seller (by assumption) (by assumption) (by assumption) (by assumption) (by assumption) (by assumption) (by assumption) H1.out).elim
    | exact (is_buyer (by assumption) (by assumption) (by assumption) (by assumption) (by assumption) (by assumption) H2.out).elim

end Go.Proofs.YbulkefkyFmt
