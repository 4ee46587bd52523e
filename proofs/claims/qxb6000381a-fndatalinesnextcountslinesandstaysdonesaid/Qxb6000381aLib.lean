/-
  THE LIBRARY's FUNCTIONS ON THE ROAD, by contracts over this seat's own translation: bytes.IndexByte at LF (21), bytes.Equal at two slices of one byte (25), bytes.HasSuffix (24) and bytes.TrimSuffix (22) at the suffix CR.
-/
import Derived.Test.Qxb6000381aProg
import Derived.Test.Qxb6000381aPl
import Derived.WalkKit
import Derived.Lib.BytesEntry
import Derived.Lib.IndexLaws
import Derived.Laws.BytesArg
import Derived.Lib.Bytes
namespace Go.Proofs.Qxb6000381a
open Go.RowKit

set_option maxHeartbeats 1000000 in
set_option maxRecDepth 100000 in
theorem index_raw (b o n c : Nat) (xs : List Int) (w : World) (hx : xs.length = n) (hc : ∀ i, i < n → w.cell? ⟨b, o + i, none⟩ = some (.int .u8 (xs.getD i 0))) :
    Calls Try.prog 21 #[.slice (some ⟨b, o, none⟩) n c, .int .u8 10] w fun e w' => e = .returned (.int .i64 (Lib.indexByte (Lib.bytesOf xs) 10)) ∧ w' = w := by
  go_enter Try.func21, Try.ntmps21
  go_wp2
  rw [run_callFunc_extern Try.func23 (by kernel_rfl) (by kernel_rfl) (by kernel_rfl) (e := Extern.BytealgIndexByte.indexByte) (by kernel_rfl), Lib.run_indexByteSlice w b o n c xs hx hc 10]
  simp only [Result.andThen]
  rw [Oper.upon_value]
  go_wp2
  go_ret
  exact ⟨rfl, rfl⟩

set_option maxHeartbeats 1000000 in
set_option maxRecDepth 100000 in
theorem index_nil (w : World) :
    Calls Try.prog 21 #[.slice none 0 0, .int .u8 10] w fun e w' => e = .returned (.int .i64 (-1)) ∧ w' = w := by
  go_enter Try.func21, Try.ntmps21
  go_wp2
  rw [run_callFunc_extern Try.func23 (by kernel_rfl) (by kernel_rfl) (by kernel_rfl) (e := Extern.BytealgIndexByte.indexByte) (by kernel_rfl), Lib.run_indexByteNil w 0 0 10]
  simp only [Result.andThen]
  rw [Oper.upon_value]
  go_wp2
  go_ret
  exact ⟨rfl, rfl⟩

theorem byte_iff (x : Int) (h : 0 ≤ x ∧ x < 256) (c : Nat) (hc : c < 256) : x.toNat.toUInt8 = c.toUInt8 ↔ x = c := by
  constructor
  · intro h
    have := congrArg UInt8.toNat h
    simp at this
    omega
  · rintro rfl; rfl

theorem bytesOf_at (xs : List Int) (i : Nat) (hi : i < xs.length) : (Lib.bytesOf xs)[i]? = some (xs.getD i 0).toNat.toUInt8 := by
  unfold Lib.bytesOf
  simp [List.getD, hi]

theorem range_at (xs : List Int) (hr : ∀ x ∈ xs, 0 ≤ x ∧ x < 256) (i : Nat) (hi : i < xs.length) : 0 ≤ xs.getD i 0 ∧ xs.getD i 0 < 256 := by
  have e : xs.getD i 0 = xs[i] := by simp [List.getD, hi]
  rw [e]
  exact hr _ (List.getElem_mem hi)

theorem idx_none (xs : List Int) (hr : ∀ x ∈ xs, 0 ≤ x ∧ x < 256) (h : ∀ i, i < xs.length → xs.getD i 0 ≠ 10) : Lib.indexByte (Lib.bytesOf xs) 10 = -1 := by
  have hge := Lib.indexByte_ge (Lib.bytesOf xs) 10
  by_cases hn : Lib.indexByte (Lib.bytesOf xs) 10 = -1
  · exact hn
  · obtain ⟨o, ho⟩ : ∃ o : Nat, Lib.indexByte (Lib.bytesOf xs) 10 = o := Int.eq_ofNat_of_zero_le (by omega)
    have h1 := (Lib.indexByte_some ho).1
    have hol : o < xs.length := by
      have := (List.getElem?_eq_some_iff.1 h1).1
      simpa [Lib.bytesOf] using this
    rw [bytesOf_at xs o hol, Option.some.injEq] at h1
    exact absurd ((byte_iff _ (range_at xs hr o hol) 10 (by omega)).1 h1) (h o hol)

theorem idx_hit (xs : List Int) (hr : ∀ x ∈ xs, 0 ≤ x ∧ x < 256) (e : Nat) (he : e < xs.length) (h10 : xs.getD e 0 = 10) (h : ∀ i, i < e → xs.getD i 0 ≠ 10) : Lib.indexByte (Lib.bytesOf xs) 10 = e := by
  have hge := Lib.indexByte_ge (Lib.bytesOf xs) 10
  by_cases hn : Lib.indexByte (Lib.bytesOf xs) 10 = -1
  · have := Lib.indexByte_none hn e
    rw [bytesOf_at xs e he, h10] at this
    exact absurd rfl this
  · obtain ⟨o, ho⟩ : ∃ o : Nat, Lib.indexByte (Lib.bytesOf xs) 10 = o := Int.eq_ofNat_of_zero_le (by omega)
    obtain ⟨h1, h2⟩ := Lib.indexByte_some ho
    have hol : o < xs.length := by
      have := (List.getElem?_eq_some_iff.1 h1).1
      simpa [Lib.bytesOf] using this
    rw [bytesOf_at xs o hol, Option.some.injEq] at h1
    have hx := (byte_iff _ (range_at xs hr o hol) 10 (by omega)).1 h1
    rw [ho]
    by_cases hlt : o < e
    · exact absurd hx (h o hlt)
    · by_cases hgt : e < o
      · have := h2 e hgt
        rw [bytesOf_at xs e he, h10] at this
        exact absurd rfl this
      · omega

/-- bytes.IndexByte(s, LF) where none stands. -/
theorem index_none (b o n c : Nat) (xs : List Int) (w : World) (hx : xs.length = n) (hc : ∀ i, i < n → w.cell? ⟨b, o + i, none⟩ = some (.int .u8 (xs.getD i 0))) (hr : ∀ x ∈ xs, 0 ≤ x ∧ x < 256) (h : ∀ i, i < n → xs.getD i 0 ≠ 10) :
    Calls Try.prog 21 #[.slice (some ⟨b, o, none⟩) n c, .int .u8 10] w fun e w' => e = .returned (.int .i64 (-1)) ∧ w' = w := by
  have h0 := index_raw b o n c xs w hx hc
  rw [idx_none xs hr (by rw [hx]; exact h)] at h0
  exact h0

/-- bytes.IndexByte(s, LF) where the first stands at e. -/
theorem index_hit (b o n c : Nat) (xs : List Int) (w : World) (hx : xs.length = n) (hc : ∀ i, i < n → w.cell? ⟨b, o + i, none⟩ = some (.int .u8 (xs.getD i 0))) (hr : ∀ x ∈ xs, 0 ≤ x ∧ x < 256)
    (k : Nat) (he : k < n) (h10 : xs.getD k 0 = 10) (h : ∀ i, i < k → xs.getD i 0 ≠ 10) :
    Calls Try.prog 21 #[.slice (some ⟨b, o, none⟩) n c, .int .u8 10] w fun e w' => e = .returned (.int .i64 k) ∧ w' = w := by
  have h0 := index_raw b o n c xs w hx hc
  rw [idx_hit xs hr k (by omega) h10 h] at h0
  exact h0

theorem str_eq (x y : Int) (hx : 0 ≤ x ∧ x < 256) (hy : 0 ≤ y ∧ y < 256) : ((strOfNums [x]).toList == (strOfNums [y]).toList) = (x == y) := by
  rw [Lib.strOfNums_toList, Lib.strOfNums_toList, Bool.eq_iff_iff]
  have h := byte_iff x hx y.toNat (by omega)
  simp only [Lib.bytesOf, List.map_cons, List.map_nil, beq_iff_eq, List.cons.injEq, and_true]
  rw [h]
  omega

set_option maxHeartbeats 1000000 in
set_option maxRecDepth 100000 in
theorem equal_one (b1 o1 c1 b2 o2 c2 : Nat) (x y : Int) (w : World) (hx : 0 ≤ x ∧ x < 256) (hy : 0 ≤ y ∧ y < 256) (h1 : w.cell? ⟨b1, o1, none⟩ = some (.int .u8 x)) (h2 : w.cell? ⟨b2, o2, none⟩ = some (.int .u8 y)) :
    Calls Try.prog 25 #[.slice (some ⟨b1, o1, none⟩) 1 c1, .slice (some ⟨b2, o2, none⟩) 1 c2] w fun e w' => e = .returned (.bool (x == y)) ∧ w' = w := by
  have e1 := run_convert_bytes_arg (P := Try.prog) w 22 5 Try.underlying22 Try.underlying5 b1 o1 1 c1 [x] rfl (fun i hi => by have : i = 0 := by omega
                                                                                                                              subst this; exact h1) 9 Try.underlying9
  have e2 := run_convert_bytes_arg (P := Try.prog) w 22 5 Try.underlying22 Try.underlying5 b2 o2 1 c2 [y] rfl (fun i hi => by have : i = 0 := by omega
                                                                                                                              subst this; exact h2) 9 Try.underlying9
  go_enter Try.func25, Try.ntmps25
  go_wp2
  go_ret
  exact ⟨by rw [← str_eq x y hx hy]; rfl, rfl⟩

set_option maxHeartbeats 1000000 in
set_option maxRecDepth 100000 in
/-- bytes.HasSuffix(s, CR), s of no byte. -/
theorem suffix_empty (a : Option Addr) (c b2 : Nat) (w : World) :
    Calls Try.prog 24 #[.slice a 0 c, .slice (some ⟨b2, 0, none⟩) 1 1] w fun e w' => e = .returned (.bool false) ∧ w' = w := by
  go_enter Try.func24, Try.ntmps24
  go_wp2
  go_ret
  exact ⟨rfl, rfl⟩

set_option maxHeartbeats 1000000 in
set_option maxRecDepth 100000 in
/-- bytes.HasSuffix(s, CR), s of l + 1 bytes, the last of them x. -/
theorem suffix_one (b o l c b2 : Nat) (x : Int) (w : World) (hl : l + 1 ≤ c) (hb : l ≤ 1048576) (hx : 0 ≤ x ∧ x < 256) (h1 : w.cell? ⟨b, o + l, none⟩ = some (.int .u8 x)) (h2 : w.cell? ⟨b2, 0, none⟩ = some (.int .u8 13)) :
    Calls Try.prog 24 #[.slice (some ⟨b, o, none⟩) (l + 1) c, .slice (some ⟨b2, 0, none⟩) 1 1] w fun e w' => e = .returned (.bool (x == 13)) ∧ w' = w := by
  have he := equal_one b (o + l) (c - l) b2 0 1 x 13 w hx (by omega) h1 h2
  go_enter Try.func24, Try.ntmps24
  go_wp2_with (go_at_call 25; refine he.mono ?_; rintro e w' ⟨rfl, hw⟩; have hw2 := hw.symm; subst hw2; clear hw)
  go_ret
  exact ⟨rfl, rfl⟩

set_option maxHeartbeats 1000000 in
set_option maxRecDepth 100000 in
/-- bytes.TrimSuffix(s, CR), s of no byte. -/
theorem trim_empty (a : Option Addr) (c b2 : Nat) (w : World) :
    Calls Try.prog 22 #[.slice a 0 c, .slice (some ⟨b2, 0, none⟩) 1 1] w fun e w' => e = .returned (.slice a 0 c) ∧ w' = w := by
  have h := suffix_empty a c b2 w
  go_enter Try.func22, Try.ntmps22
  go_wp2_with (go_at_call 24; refine h.mono ?_; rintro e w' ⟨rfl, hw⟩; have hw2 := hw.symm; subst hw2; clear hw)
  go_ret
  exact ⟨rfl, rfl⟩

set_option maxHeartbeats 1000000 in
set_option maxRecDepth 100000 in
/-- bytes.TrimSuffix(s, CR), s of l + 1 bytes, the last of them no CR. -/
theorem trim_no (b o l c b2 : Nat) (x : Int) (w : World) (hl : l + 1 ≤ c) (hb : l ≤ 1048576) (hx : 0 ≤ x ∧ x < 256) (h1 : w.cell? ⟨b, o + l, none⟩ = some (.int .u8 x)) (h2 : w.cell? ⟨b2, 0, none⟩ = some (.int .u8 13)) (hn : x ≠ 13) :
    Calls Try.prog 22 #[.slice (some ⟨b, o, none⟩) (l + 1) c, .slice (some ⟨b2, 0, none⟩) 1 1] w fun e w' => e = .returned (.slice (some ⟨b, o, none⟩) (l + 1) c) ∧ w' = w := by
  have h := suffix_one b o l c b2 x w hl hb hx h1 h2
  rw [show (x == 13) = false from beq_eq_false_iff_ne.2 hn] at h
  clear hn
  go_enter Try.func22, Try.ntmps22
  go_wp2_with (go_at_call 24; refine h.mono ?_; rintro e w' ⟨rfl, hw⟩; have hw2 := hw.symm; subst hw2; clear hw)
  go_ret
  exact ⟨rfl, rfl⟩

set_option maxHeartbeats 1000000 in
set_option maxRecDepth 100000 in
/-- bytes.TrimSuffix(s, CR), s of l + 1 bytes, the last of them CR. -/
theorem trim_yes (b o l c b2 : Nat) (w : World) (hl : l + 1 ≤ c) (hb : l ≤ 1048576) (h1 : w.cell? ⟨b, o + l, none⟩ = some (.int .u8 13)) (h2 : w.cell? ⟨b2, 0, none⟩ = some (.int .u8 13)) :
    Calls Try.prog 22 #[.slice (some ⟨b, o, none⟩) (l + 1) c, .slice (some ⟨b2, 0, none⟩) 1 1] w fun e w' => e = .returned (.slice (some ⟨b, o, none⟩) l c) ∧ w' = w := by
  have h := suffix_one b o l c b2 13 w hl hb (by omega) h1 h2
  rw [show ((13 : Int) == 13) = true from rfl] at h
  go_enter Try.func22, Try.ntmps22
  go_wp2_with (go_at_call 24; refine h.mono ?_; rintro e w' ⟨rfl, hw⟩; have hw2 := hw.symm; subst hw2; clear hw)
  go_ret
  exact ⟨rfl, rfl⟩

end Go.Proofs.Qxb6000381a
