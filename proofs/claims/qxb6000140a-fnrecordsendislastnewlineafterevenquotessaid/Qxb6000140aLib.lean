/-
  THE LIBRARY's TWO FUNCTIONS ON THE ROAD, by contracts over this seat's own translation: bytes.Count at the separator of the one byte 34 (function 42), bytes.LastIndexByte at the byte 10 (functions 43, 47).
-/
import Derived.Test.Qxb6000140aProg
import Derived.Test.Qxb6000140aPl
import Derived.WalkKit
import Derived.Shelf.Bytes.SlCountOne
namespace Go.Proofs.Qxb6000140a
open Go.RowKit

set_option maxHeartbeats 1000000 in
set_option maxRecDepth 100000 in
theorem count_raw (b o n c b2 d : Nat) (xs : List Int) (w : World) (hx : xs.length = n) (hc : ∀ i, i < n → w.cell? ⟨b, o + i, none⟩ = some (.int .u8 (xs.getD i 0))) (hc2 : w.cell? ⟨b2, 0, none⟩ = some (.int .u8 34)) :
    Calls Try.prog 42 #[.slice (some ⟨b, o, none⟩) n c, .slice (some ⟨b2, 0, none⟩) 1 d] w fun e w' => e = .returned (.int .i64 (Lib.countByte (Lib.bytesOf xs) 34)) ∧ w' = w := by
  go_enter Try.func42, Try.ntmps42
  go_wp2
  rw [run_callFunc_extern Try.func45 (by kernel_rfl) (by kernel_rfl) (by kernel_rfl) (e := Extern.BytealgCount.count) (by kernel_rfl), Lib.run_countSlice w b o n c xs hx hc 34]
  simp only [Result.andThen]
  rw [Oper.upon_value]
  go_wp2
  go_ret
  exact ⟨rfl, rfl⟩

set_option maxHeartbeats 1000000 in
set_option maxRecDepth 100000 in
theorem count_nil (b2 d : Nat) (w : World) (hc2 : w.cell? ⟨b2, 0, none⟩ = some (.int .u8 34)) :
    Calls Try.prog 42 #[.slice none 0 0, .slice (some ⟨b2, 0, none⟩) 1 d] w fun e w' => e = .returned (.int .i64 0) ∧ w' = w := by
  go_enter Try.func42, Try.ntmps42
  go_wp2
  rw [run_callFunc_extern Try.func45 (by kernel_rfl) (by kernel_rfl) (by kernel_rfl) (e := Extern.BytealgCount.count) (by kernel_rfl), Lib.run_countNil w 0 0 34]
  simp only [Result.andThen]
  rw [Oper.upon_value]
  go_wp2
  go_ret
  exact ⟨rfl, rfl⟩

theorem byte_eq (x : Int) (h0 : 0 ≤ x) (h1 : x < 256) : (x.toNat.toUInt8 == 34) = (x == 34) := by
  rw [Bool.eq_iff_iff]
  simp only [beq_iff_eq]
  constructor
  · intro h
    have := congrArg UInt8.toNat h
    simp at this
    omega
  · rintro rfl; rfl

theorem count_bytes (xs : List Int) (h : ∀ x ∈ xs, 0 ≤ x ∧ x < 256) : Lib.countByte (Lib.bytesOf xs) 34 = xs.count 34 := by
  unfold Lib.countByte Lib.bytesOf
  induction xs with
  | nil => rfl
  | cons x l ih =>
    have hx := h x (by simp)
    have e := byte_eq x hx.1 hx.2
    rw [List.map_cons, List.count_cons, List.count_cons, ih (fun y hy => h y (by simp [hy])), e]

/-- bytes.Count(s, sep), sep the one byte 34. -/
theorem count_any (b o n c b2 d : Nat) (xs : List Int) (w : World) (hx : xs.length = n) (hc : ∀ i, i < n → w.cell? ⟨b, o + i, none⟩ = some (.int .u8 (xs.getD i 0))) (hr : ∀ x ∈ xs, 0 ≤ x ∧ x < 256) (hc2 : w.cell? ⟨b2, 0, none⟩ = some (.int .u8 34)) :
    Calls Try.prog 42 #[.slice (some ⟨b, o, none⟩) n c, .slice (some ⟨b2, 0, none⟩) 1 d] w fun e w' => e = .returned (.int .i64 (xs.count 34 : Nat)) ∧ w' = w := by
  have h := count_raw b o n c b2 d xs w hx hc hc2
  rw [count_bytes xs hr] at h
  exact h

set_option maxHeartbeats 1000000 in
set_option maxRecDepth 100000 in
/-- internal/bytealg.LastIndexByte(s, LF). -/
theorem lastByte_any (b o n c : Nat) (xs : List Int) (w : World) (hm : n ≤ 1048576) (hc : ∀ i, i < n → w.cell? ⟨b, o + i, none⟩ = some (.int .u8 (xs.getD i 0))) :
    Calls Try.prog 47 #[.slice (some ⟨b, o, none⟩) n c, .int .u8 10] w fun e w' => e = .returned (.int .i64 (Pl.lastNl xs n)) ∧ w' = w := by
  go_enter Try.func47, Try.ntmps47
  go_wp2
  go_loop [5] (fun i => ∃ k : Nat, k ≤ n ∧ i = .int .i64 ((k : Int) - 1) ∧ Hid (Pl.lastNl xs n = Pl.lastNl xs k)) (fun i => (intOf i + 1).toNat)
  case atStart => exact ⟨n, Nat.le_refl _, rfl, rfl⟩
  case round =>
    obtain ⟨k, hk, rfl, hl⟩ := hrel
    cases k with
    | zero =>
      go_wp2
      go_ret
      exact ⟨by rw [hl.out]; rfl, rfl⟩
    | succ k =>
      have hcell := hc k (by omega)
      have e : ((k + 1 : Nat) : Int) - 1 = k := by omega
      rw [e]
      clear e
      by_cases hq : xs.getD k 0 = 10
      · have hb : (xs.getD k 0 == 10) = true := beq_iff_eq.2 hq
        have hfin : Hid (Pl.lastNl xs (k + 1) = k) := by show (if xs.getD k 0 = 10 then (k : Int) else Pl.lastNl xs k) = k; rw [if_pos hq]
        clear hq
        generalize xs.getD k 0 = z at *
        go_wp2
        go_ret
        exact ⟨by rw [hl.out, hfin.out]; rfl, rfl⟩
      · have hb : (xs.getD k 0 == 10) = false := beq_eq_false_iff_ne.2 hq
        have hfin : Hid (Pl.lastNl xs (k + 1) = Pl.lastNl xs k) := by show (if xs.getD k 0 = 10 then (k : Int) else Pl.lastNl xs k) = _; rw [if_neg hq]
        clear hq
        generalize xs.getD k 0 = z at *
        go_wp2
        go_round
        case rel => exact ⟨k, by omega, rfl, hl.out.trans hfin.out⟩
        case measure => simp [intOf]

set_option maxHeartbeats 1000000 in
set_option maxRecDepth 100000 in
theorem lastByte_nil (w : World) :
    Calls Try.prog 47 #[.slice none 0 0, .int .u8 10] w fun e w' => e = .returned (.int .i64 (-1)) ∧ w' = w := by
  go_enter Try.func47, Try.ntmps47
  go_wp2
  refine wp_loop_rounds 1 ?_
  rw [rounds_succ]
  go_wp2
  go_ret
  exact ⟨rfl, rfl⟩

set_option maxHeartbeats 1000000 in
/-- bytes.LastIndexByte(s, LF). -/
theorem last_any (b o n c : Nat) (xs : List Int) (w : World) (hm : n ≤ 1048576) (hc : ∀ i, i < n → w.cell? ⟨b, o + i, none⟩ = some (.int .u8 (xs.getD i 0))) :
    Calls Try.prog 43 #[.slice (some ⟨b, o, none⟩) n c, .int .u8 10] w fun e w' => e = .returned (.int .i64 (Pl.lastNl xs n)) ∧ w' = w := by
  have h := lastByte_any b o n c xs w hm hc
  clear hc
  go_enter Try.func43, Try.ntmps43
  go_wp2_with (go_at_call 47; refine h.mono ?_; rintro e w' ⟨rfl, rfl⟩)
  go_ret
  exact ⟨rfl, rfl⟩

set_option maxHeartbeats 1000000 in
theorem last_nil (w : World) :
    Calls Try.prog 43 #[.slice none 0 0, .int .u8 10] w fun e w' => e = .returned (.int .i64 (-1)) ∧ w' = w := by
  have h := lastByte_nil w
  go_enter Try.func43, Try.ntmps43
  go_wp2_with (go_at_call 47; refine h.mono ?_; rintro e w' ⟨rfl, rfl⟩)
  go_ret
  exact ⟨rfl, rfl⟩

end Go.Proofs.Qxb6000140a
