/-
  'invalidSeparator' (28) by its contract: -1, and no '_' stands first, last or ahead of another; or the index of a '_' ahead of which none does.
-/
import Derived.Test.Qxb6000773aLib
import Derived.Deep.RegionWith
namespace Go.Proofs.Qxb6000773a
open Go.RowKit

set_option maxHeartbeats 1000000 in
theorem lower_any (c : Int) (w : World) :
    Calls Try.prog 31 #[.int .i32 c] w fun e w' => e = .returned (.int .i32 (bits BinOp.or IntKind.i32 c 32)) ∧ w' = w := by
  go_enter Try.func31, Try.ntmps31
  go_wp2
  go_ret
  exact ⟨rfl, rfl⟩

theorem pw {P : Prop} (h : P) : Hid P := h
theorem ret_int {k : IntKind} {a b : Int} (h : a = b) : Ending.returned (.int k a) = .returned (.int k b) := by rw [h]

theorem cellA (w : World) (s : ByteArray) (hx : Bool) : ((w.alloc (.cells #[.string s] 9)).alloc (.cells #[.bool hx] 4)).cell? ⟨w.heap.size, 0, none⟩ = some (.string s) := by
  rw [World.cell?_alloc2_first]; rfl
theorem cellB (w : World) (s : ByteArray) (hx : Bool) : ((w.alloc (.cells #[.string s] 9)).alloc (.cells #[.bool hx] 4)).cell? ⟨w.heap.size + 1, 0, none⟩ = some (.bool hx) := by
  rw [World.cell?_alloc2_new]; rfl

set_option maxHeartbeats 4000000 in
set_option maxRecDepth 100000 in
theorem sep_A (s : ByteArray) (w : World) (hs : s.size ≤ 65536) (h2 : s.size ≤ 2) :
    Calls Try.prog 28 #[.string s] w fun e w' => ((e = .returned (.int .i64 (-1)) ∧ ∀ j, ¬ Bad s j) ∨ ∃ i : Nat, e = .returned (.int .i64 i) ∧ i < s.size ∧ bt s i = 95 ∧ ∀ j, j < i → ¬ Bad s j) ∧ Grown w w' := by
  go_enter Try.func28, Try.ntmps28
  go_wp2
  go_loop [34] (fun i => ∃ k : Nat, k ≤ s.size ∧ i = .int .i64 k ∧ Hid (∀ j, j < k → ¬ Bad s j)) (fun i => s.size - (intOf i).toNat)
  case atStart => exact ⟨0, Nat.zero_le _, rfl, fun j hj => by omega⟩
  case round =>
    obtain ⟨k, hk, rfl, HN⟩ := hrel
    by_cases hlt : k < s.size
    · have e1 := bt_eq s k hlt
      by_cases h95 : bt s k = 95
      · have H95 : Hid (bt s k = 95) := h95
        have hb : ((s[k].toNat : Int) != 95) = false := by rw [e1, h95]; rfl
        clear h95 e1
        cases k with
        | zero =>
          by_cases h1 : 1 < s.size
          · have hd := digit_any s 1 false w.heap.size (w.heap.size + 1) ((w.alloc (.cells #[.string s] 9)).alloc (.cells #[.bool false] 4)) h1 (cellA w s false) (cellB w s false)
            rw [show ((1 : Nat) : Int) = 1 from rfl] at hd
            generalize digB false _ = v at hd
            go_wp2_with (go_at_call 32; refine hd.mono ?_; rintro e w' ⟨rfl, hw⟩; have hw2 := hw.symm; subst hw2; clear hw)
            go_ret
            exact ⟨.inr ⟨0, rfl, hlt, H95.out, fun j hj => by omega⟩, (by repeat (first | exact Grown.refl _ | apply Grown.drew | apply Grown.alloc))⟩
          · go_wp2
            go_ret
            exact ⟨.inr ⟨0, rfl, hlt, H95.out, fun j hj => by omega⟩, (by repeat (first | exact Grown.refl _ | apply Grown.drew | apply Grown.alloc))⟩
        | succ k =>
          have hlk : k < s.size := by omega
          have hd := digit_any s k false w.heap.size (w.heap.size + 1) ((w.alloc (.cells #[.string s] 9)).alloc (.cells #[.bool false] 4)) hlk (cellA w s false) (cellB w s false)
          generalize digB false (s[k].toNat : Int) = v1 at hd
          have h1 : ¬ k + 1 + 1 < s.size := by omega
          cases v1 with
          | true =>
            go_wp2_with (go_at_call 32; refine hd.mono ?_; rintro e w' ⟨rfl, hw⟩; have hw2 := hw.symm; subst hw2; clear hw)
            go_ret
            exact ⟨.inr ⟨k + 1, ret_int (by omega), hlt, H95.out, HN.out⟩, (by repeat (first | exact Grown.refl _ | apply Grown.drew | apply Grown.alloc))⟩
          | false =>
            go_wp2_with (go_at_call 32; refine hd.mono ?_; rintro e w' ⟨rfl, hw⟩; have hw2 := hw.symm; subst hw2; clear hw)
            go_ret
            exact ⟨.inr ⟨k + 1, ret_int (by omega), hlt, H95.out, HN.out⟩, (by repeat (first | exact Grown.refl _ | apply Grown.drew | apply Grown.alloc))⟩
      · have hb : ((s[k].toNat : Int) != 95) = true := by rw [bne_iff_ne]; omega
        have HK : Hid (∀ j, j < k + 1 → ¬ Bad s j) := fun j hj c => by
          by_cases e : j = k
          · subst e; exact h95 c.2.1
          · exact HN.out j (by omega) c
        clear h95 e1
        go_wp2
        go_round
        case rel => exact ⟨k + 1, by omega, by go_num, HK⟩
        case measure => simp [intOf]; omega
    · have HF : Hid (∀ j, ¬ Bad s j) := fun j c => HN.out j (by have := c.1; omega) c
      go_wp2
      go_ret
      exact ⟨.inl ⟨rfl, HF.out⟩, (by repeat (first | exact Grown.refl _ | apply Grown.drew | apply Grown.alloc))⟩

set_option maxHeartbeats 4000000 in
set_option maxRecDepth 100000 in
theorem sep_B (s : ByteArray) (w : World) (hs : s.size ≤ 65536) (h2 : 2 < s.size) (h0 : ((s[0].toNat : Int) == 48) = false) :
    Calls Try.prog 28 #[.string s] w fun e w' => ((e = .returned (.int .i64 (-1)) ∧ ∀ j, ¬ Bad s j) ∨ ∃ i : Nat, e = .returned (.int .i64 i) ∧ i < s.size ∧ bt s i = 95 ∧ ∀ j, j < i → ¬ Bad s j) ∧ Grown w w' := by
  go_enter Try.func28, Try.ntmps28
  go_wp2
  clear h0
  go_loop [34] (fun i => ∃ k : Nat, k ≤ s.size ∧ i = .int .i64 k ∧ Hid (∀ j, j < k → ¬ Bad s j)) (fun i => s.size - (intOf i).toNat)
  case atStart => exact ⟨0, Nat.zero_le _, rfl, fun j hj => by omega⟩
  case round =>
    obtain ⟨k, hk, rfl, HN⟩ := hrel
    by_cases hlt : k < s.size
    · have e1 := bt_eq s k hlt
      by_cases h95 : bt s k = 95
      · have H95 : Hid (bt s k = 95) := h95
        have hb : ((s[k].toNat : Int) != 95) = false := by rw [e1, h95]; rfl
        clear h95 e1
        cases k with
        | zero =>
          by_cases h1 : 1 < s.size
          · have hd := digit_any s 1 false w.heap.size (w.heap.size + 1) ((w.alloc (.cells #[.string s] 9)).alloc (.cells #[.bool false] 4)) h1 (cellA w s false) (cellB w s false)
            rw [show ((1 : Nat) : Int) = 1 from rfl] at hd
            generalize digB false _ = v at hd
            go_wp2_with (go_at_call 32; refine hd.mono ?_; rintro e w' ⟨rfl, hw⟩; have hw2 := hw.symm; subst hw2; clear hw)
            go_ret
            exact ⟨.inr ⟨0, rfl, hlt, H95.out, fun j hj => by omega⟩, (by repeat (first | exact Grown.refl _ | apply Grown.drew | apply Grown.alloc))⟩
          · exact absurd h2 (by omega)
        | succ k =>
          have hlk : k < s.size := by omega
          have hd := digit_any s k false w.heap.size (w.heap.size + 1) ((w.alloc (.cells #[.string s] 9)).alloc (.cells #[.bool false] 4)) hlk (cellA w s false) (cellB w s false)
          generalize digB false (s[k].toNat : Int) = v1 at hd
          by_cases h1 : k + 1 + 1 < s.size
          · have hd2 := digit_any s (k + 1 + 1) false w.heap.size (w.heap.size + 1) ((w.alloc (.cells #[.string s] 9)).alloc (.cells #[.bool false] 4)) h1 (cellA w s false) (cellB w s false)
            rw [show ((k + 1 + 1 : Nat) : Int) = (k : Int) + 1 + 1 from by omega] at hd2
            have HV : Hid (digB false (s[k + 1 + 1].toNat : Int) = true → bt s (k + 1 + 1) ≠ 95) := fun h c => by
              rw [bt_eq s (k + 1 + 1) h1, c] at h
              rw [show ((95 : Nat) : Int) = 95 from rfl, digB_us] at h
              cases h
            generalize digB false (s[k + 1 + 1].toNat : Int) = v2 at hd2 HV
            cases v2 with
            | false =>
              cases v1 with
              | true =>
                go_wp2_with (go_at_call_of 32 (Value.int IntKind.i64 (k : Int)); refine hd.mono ?_; rintro e w' ⟨rfl, hw⟩; have hw2 := hw.symm; subst hw2; clear hw)
                refine hd2.mono ?_
                rintro e w' ⟨rfl, hw⟩
                have hw2 := hw.symm
                subst hw2
                clear hw
                go_wp2
                go_ret
                exact ⟨.inr ⟨k + 1, ret_int (by omega), hlt, H95.out, HN.out⟩, (by repeat (first | exact Grown.refl _ | apply Grown.drew | apply Grown.alloc))⟩
              | false =>
                go_wp2_with (go_at_call_of 32 (Value.int IntKind.i64 (k : Int)); refine hd.mono ?_; rintro e w' ⟨rfl, hw⟩; have hw2 := hw.symm; subst hw2; clear hw)
                refine hd2.mono ?_
                rintro e w' ⟨rfl, hw⟩
                have hw2 := hw.symm
                subst hw2
                clear hw
                go_wp2
                go_ret
                exact ⟨.inr ⟨k + 1, ret_int (by omega), hlt, H95.out, HN.out⟩, (by repeat (first | exact Grown.refl _ | apply Grown.drew | apply Grown.alloc))⟩
            | true =>
              cases v1 with
              | true =>
                have HK : Hid (∀ j, j < k + 1 + 1 → ¬ Bad s j) := fun j hj c => by
                  by_cases e : j = k + 1
                  · subst e; rcases c.2.2 with c | c | c <;> first | omega | exact HV.out rfl c
                  · exact HN.out j (by omega) c
                go_wp2_with (go_at_call_of 32 (Value.int IntKind.i64 (k : Int)); refine hd.mono ?_; rintro e w' ⟨rfl, hw⟩; have hw2 := hw.symm; subst hw2; clear hw)
                refine hd2.mono ?_
                rintro e w' ⟨rfl, hw⟩
                have hw2 := hw.symm
                subst hw2
                clear hw
                go_wp2
                go_round
                case rel => exact ⟨k + 1 + 1, by omega, by go_num, HK⟩
                case measure => simp [intOf]; omega
              | false =>
                go_wp2_with (go_at_call_of 32 (Value.int IntKind.i64 (k : Int)); refine hd.mono ?_; rintro e w' ⟨rfl, hw⟩; have hw2 := hw.symm; subst hw2; clear hw)
                refine hd2.mono ?_
                rintro e w' ⟨rfl, hw⟩
                have hw2 := hw.symm
                subst hw2
                clear hw
                go_wp2
                go_ret
                exact ⟨.inr ⟨k + 1, ret_int (by omega), hlt, H95.out, HN.out⟩, (by repeat (first | exact Grown.refl _ | apply Grown.drew | apply Grown.alloc))⟩
          · cases v1 with
            | true =>
              go_wp2_with (go_at_call 32; refine hd.mono ?_; rintro e w' ⟨rfl, hw⟩; have hw2 := hw.symm; subst hw2; clear hw)
              go_ret
              exact ⟨.inr ⟨k + 1, ret_int (by omega), hlt, H95.out, HN.out⟩, (by repeat (first | exact Grown.refl _ | apply Grown.drew | apply Grown.alloc))⟩
            | false =>
              go_wp2_with (go_at_call 32; refine hd.mono ?_; rintro e w' ⟨rfl, hw⟩; have hw2 := hw.symm; subst hw2; clear hw)
              go_ret
              exact ⟨.inr ⟨k + 1, ret_int (by omega), hlt, H95.out, HN.out⟩, (by repeat (first | exact Grown.refl _ | apply Grown.drew | apply Grown.alloc))⟩
      · have hb : ((s[k].toNat : Int) != 95) = true := by rw [bne_iff_ne]; omega
        have HK : Hid (∀ j, j < k + 1 → ¬ Bad s j) := fun j hj c => by
          by_cases e : j = k
          · subst e; exact h95 c.2.1
          · exact HN.out j (by omega) c
        clear h95 e1
        go_wp2
        go_round
        case rel => exact ⟨k + 1, by omega, by go_num, HK⟩
        case measure => simp [intOf]; omega
    · have HF : Hid (∀ j, ¬ Bad s j) := fun j c => HN.out j (by have := c.1; omega) c
      go_wp2
      go_ret
      exact ⟨.inl ⟨rfl, HF.out⟩, (by repeat (first | exact Grown.refl _ | apply Grown.drew | apply Grown.alloc))⟩

set_option maxHeartbeats 4000000 in
set_option maxRecDepth 100000 in
theorem sep_C (s : ByteArray) (w : World) (hs : s.size ≤ 65536) (h2 : 2 < s.size) (h0 : ((s[0].toNat : Int) == 48) = true) (hz : Lib.indexByte [120, 88, 111, 79, 98, 66] (((s[1].toNat : Int)).toNat.toUInt8) < 0) :
    Calls Try.prog 28 #[.string s] w fun e w' => ((e = .returned (.int .i64 (-1)) ∧ ∀ j, ¬ Bad s j) ∨ ∃ i : Nat, e = .returned (.int .i64 i) ∧ i < s.size ∧ bt s i = 95 ∧ ∀ j, j < i → ¬ Bad s j) ∧ Grown w w' := by
  have hi := index30 ⟨#[120, 88, 111, 79, 98, 66]⟩ (s[1].toNat : Int) (w.alloc (.cells #[.string s] 9))
  rw [show (⟨#[120, 88, 111, 79, 98, 66]⟩ : ByteArray).data.toList = [120, 88, 111, 79, 98, 66] from rfl] at hi
  generalize Lib.indexByte _ _ = z at hi hz
  go_enter Try.func28, Try.ntmps28
  go_wp2_with (first | (go_at_call 30; refine hi.mono ?_; rintro e w' ⟨rfl, hw⟩; have hw2 := hw.symm; subst hw2; clear hw) | go_in)
  clear hi h0
  go_loop [34] (fun i => ∃ k : Nat, k ≤ s.size ∧ i = .int .i64 k ∧ Hid (∀ j, j < k → ¬ Bad s j)) (fun i => s.size - (intOf i).toNat)
  case atStart => exact ⟨0, Nat.zero_le _, rfl, fun j hj => by omega⟩
  case round =>
    obtain ⟨k, hk, rfl, HN⟩ := hrel
    by_cases hlt : k < s.size
    · have e1 := bt_eq s k hlt
      by_cases h95 : bt s k = 95
      · have H95 : Hid (bt s k = 95) := h95
        have hb : ((s[k].toNat : Int) != 95) = false := by rw [e1, h95]; rfl
        clear h95 e1
        cases k with
        | zero =>
          by_cases h1 : 1 < s.size
          · have hd := digit_any s 1 false w.heap.size (w.heap.size + 1) ((w.alloc (.cells #[.string s] 9)).alloc (.cells #[.bool false] 4)) h1 (cellA w s false) (cellB w s false)
            rw [show ((1 : Nat) : Int) = 1 from rfl] at hd
            generalize digB false _ = v at hd
            go_wp2_with (go_at_call 32; refine hd.mono ?_; rintro e w' ⟨rfl, hw⟩; have hw2 := hw.symm; subst hw2; clear hw)
            go_ret
            exact ⟨.inr ⟨0, rfl, hlt, H95.out, fun j hj => by omega⟩, (by repeat (first | exact Grown.refl _ | apply Grown.drew | apply Grown.alloc))⟩
          · exact absurd h2 (by omega)
        | succ k =>
          have hlk : k < s.size := by omega
          have hd := digit_any s k false w.heap.size (w.heap.size + 1) ((w.alloc (.cells #[.string s] 9)).alloc (.cells #[.bool false] 4)) hlk (cellA w s false) (cellB w s false)
          generalize digB false (s[k].toNat : Int) = v1 at hd
          by_cases h1 : k + 1 + 1 < s.size
          · have hd2 := digit_any s (k + 1 + 1) false w.heap.size (w.heap.size + 1) ((w.alloc (.cells #[.string s] 9)).alloc (.cells #[.bool false] 4)) h1 (cellA w s false) (cellB w s false)
            rw [show ((k + 1 + 1 : Nat) : Int) = (k : Int) + 1 + 1 from by omega] at hd2
            have HV : Hid (digB false (s[k + 1 + 1].toNat : Int) = true → bt s (k + 1 + 1) ≠ 95) := fun h c => by
              rw [bt_eq s (k + 1 + 1) h1, c] at h
              rw [show ((95 : Nat) : Int) = 95 from rfl, digB_us] at h
              cases h
            generalize digB false (s[k + 1 + 1].toNat : Int) = v2 at hd2 HV
            cases v2 with
            | false =>
              cases v1 with
              | true =>
                go_wp2_with (go_at_call_of 32 (Value.int IntKind.i64 (k : Int)); refine hd.mono ?_; rintro e w' ⟨rfl, hw⟩; have hw2 := hw.symm; subst hw2; clear hw)
                refine hd2.mono ?_
                rintro e w' ⟨rfl, hw⟩
                have hw2 := hw.symm
                subst hw2
                clear hw
                go_wp2
                go_ret
                exact ⟨.inr ⟨k + 1, ret_int (by omega), hlt, H95.out, HN.out⟩, (by repeat (first | exact Grown.refl _ | apply Grown.drew | apply Grown.alloc))⟩
              | false =>
                go_wp2_with (go_at_call_of 32 (Value.int IntKind.i64 (k : Int)); refine hd.mono ?_; rintro e w' ⟨rfl, hw⟩; have hw2 := hw.symm; subst hw2; clear hw)
                refine hd2.mono ?_
                rintro e w' ⟨rfl, hw⟩
                have hw2 := hw.symm
                subst hw2
                clear hw
                go_wp2
                go_ret
                exact ⟨.inr ⟨k + 1, ret_int (by omega), hlt, H95.out, HN.out⟩, (by repeat (first | exact Grown.refl _ | apply Grown.drew | apply Grown.alloc))⟩
            | true =>
              cases v1 with
              | true =>
                have HK : Hid (∀ j, j < k + 1 + 1 → ¬ Bad s j) := fun j hj c => by
                  by_cases e : j = k + 1
                  · subst e; rcases c.2.2 with c | c | c <;> first | omega | exact HV.out rfl c
                  · exact HN.out j (by omega) c
                go_wp2_with (go_at_call_of 32 (Value.int IntKind.i64 (k : Int)); refine hd.mono ?_; rintro e w' ⟨rfl, hw⟩; have hw2 := hw.symm; subst hw2; clear hw)
                refine hd2.mono ?_
                rintro e w' ⟨rfl, hw⟩
                have hw2 := hw.symm
                subst hw2
                clear hw
                go_wp2
                go_round
                case rel => exact ⟨k + 1 + 1, by omega, by go_num, HK⟩
                case measure => simp [intOf]; omega
              | false =>
                go_wp2_with (go_at_call_of 32 (Value.int IntKind.i64 (k : Int)); refine hd.mono ?_; rintro e w' ⟨rfl, hw⟩; have hw2 := hw.symm; subst hw2; clear hw)
                refine hd2.mono ?_
                rintro e w' ⟨rfl, hw⟩
                have hw2 := hw.symm
                subst hw2
                clear hw
                go_wp2
                go_ret
                exact ⟨.inr ⟨k + 1, ret_int (by omega), hlt, H95.out, HN.out⟩, (by repeat (first | exact Grown.refl _ | apply Grown.drew | apply Grown.alloc))⟩
          · cases v1 with
            | true =>
              go_wp2_with (go_at_call 32; refine hd.mono ?_; rintro e w' ⟨rfl, hw⟩; have hw2 := hw.symm; subst hw2; clear hw)
              go_ret
              exact ⟨.inr ⟨k + 1, ret_int (by omega), hlt, H95.out, HN.out⟩, (by repeat (first | exact Grown.refl _ | apply Grown.drew | apply Grown.alloc))⟩
            | false =>
              go_wp2_with (go_at_call 32; refine hd.mono ?_; rintro e w' ⟨rfl, hw⟩; have hw2 := hw.symm; subst hw2; clear hw)
              go_ret
              exact ⟨.inr ⟨k + 1, ret_int (by omega), hlt, H95.out, HN.out⟩, (by repeat (first | exact Grown.refl _ | apply Grown.drew | apply Grown.alloc))⟩
      · have hb : ((s[k].toNat : Int) != 95) = true := by rw [bne_iff_ne]; omega
        have HK : Hid (∀ j, j < k + 1 → ¬ Bad s j) := fun j hj c => by
          by_cases e : j = k
          · subst e; exact h95 c.2.1
          · exact HN.out j (by omega) c
        clear h95 e1
        go_wp2
        go_round
        case rel => exact ⟨k + 1, by omega, by go_num, HK⟩
        case measure => simp [intOf]; omega
    · have HF : Hid (∀ j, ¬ Bad s j) := fun j c => HN.out j (by have := c.1; omega) c
      go_wp2
      go_ret
      exact ⟨.inl ⟨rfl, HF.out⟩, (by repeat (first | exact Grown.refl _ | apply Grown.drew | apply Grown.alloc))⟩

set_option maxHeartbeats 4000000 in
set_option maxRecDepth 100000 in
theorem sep_D (s : ByteArray) (w : World) (hs : s.size ≤ 65536) (h2 : 2 < s.size) (h0 : ((s[0].toNat : Int) == 48) = true) (hz : 0 ≤ Lib.indexByte [120, 88, 111, 79, 98, 66] (((s[1].toNat : Int)).toNat.toUInt8)) :
    Calls Try.prog 28 #[.string s] w fun e w' => ((e = .returned (.int .i64 (-1)) ∧ ∀ j, ¬ Bad s j) ∨ ∃ i : Nat, e = .returned (.int .i64 i) ∧ i < s.size ∧ bt s i = 95 ∧ ∀ j, j < i → ¬ Bad s j) ∧ Grown w w' := by
  have hi := index30 ⟨#[120, 88, 111, 79, 98, 66]⟩ (s[1].toNat : Int) (w.alloc (.cells #[.string s] 9))
  rw [show (⟨#[120, 88, 111, 79, 98, 66]⟩ : ByteArray).data.toList = [120, 88, 111, 79, 98, 66] from rfl] at hi
  generalize Lib.indexByte _ _ = z at hi hz
  go_enter Try.func28, Try.ntmps28
  go_wp2_with (first | (go_at_call 30; refine hi.mono ?_; rintro e w' ⟨rfl, hw⟩; have hw2 := hw.symm; subst hw2; clear hw) | (go_at_call 31; refine (lower_any _ _).mono ?_; rintro e w' ⟨rfl, hw⟩; have hw2 := hw.symm; subst hw2; clear hw))
  clear hi h0
  generalize (bits BinOp.or IntKind.i32 (wrap32 (s[1].toNat : Int)) 32 == 120) = hx
  go_loop [34] (fun i => ∃ k : Nat, k ≤ s.size ∧ i = .int .i64 k ∧ Hid (∀ j, j < k → ¬ Bad s j)) (fun i => s.size - (intOf i).toNat)
  case atStart => exact ⟨0, Nat.zero_le _, rfl, fun j hj => by omega⟩
  case round =>
    obtain ⟨k, hk, rfl, HN⟩ := hrel
    by_cases hlt : k < s.size
    · have e1 := bt_eq s k hlt
      by_cases h95 : bt s k = 95
      · have H95 : Hid (bt s k = 95) := h95
        have hb : ((s[k].toNat : Int) != 95) = false := by rw [e1, h95]; rfl
        clear h95 e1
        cases k with
        | zero =>
          by_cases h1 : 1 < s.size
          · have hd := digit_any s 1 hx w.heap.size (w.heap.size + 1) ((w.alloc (.cells #[.string s] 9)).alloc (.cells #[.bool hx] 4)) h1 (cellA w s hx) (cellB w s hx)
            rw [show ((1 : Nat) : Int) = 1 from rfl] at hd
            generalize digB hx _ = v at hd
            go_wp2_with (go_at_call 32; refine hd.mono ?_; rintro e w' ⟨rfl, hw⟩; have hw2 := hw.symm; subst hw2; clear hw)
            go_ret
            exact ⟨.inr ⟨0, rfl, hlt, H95.out, fun j hj => by omega⟩, (by repeat (first | exact Grown.refl _ | apply Grown.drew | apply Grown.alloc))⟩
          · exact absurd h2 (by omega)
        | succ k =>
          have hlk : k < s.size := by omega
          have hd := digit_any s k hx w.heap.size (w.heap.size + 1) ((w.alloc (.cells #[.string s] 9)).alloc (.cells #[.bool hx] 4)) hlk (cellA w s hx) (cellB w s hx)
          generalize digB hx (s[k].toNat : Int) = v1 at hd
          by_cases h1 : k + 1 + 1 < s.size
          · have hd2 := digit_any s (k + 1 + 1) hx w.heap.size (w.heap.size + 1) ((w.alloc (.cells #[.string s] 9)).alloc (.cells #[.bool hx] 4)) h1 (cellA w s hx) (cellB w s hx)
            rw [show ((k + 1 + 1 : Nat) : Int) = (k : Int) + 1 + 1 from by omega] at hd2
            have HV : Hid (digB hx (s[k + 1 + 1].toNat : Int) = true → bt s (k + 1 + 1) ≠ 95) := fun h c => by
              rw [bt_eq s (k + 1 + 1) h1, c] at h
              rw [show ((95 : Nat) : Int) = 95 from rfl, digB_us] at h
              cases h
            generalize digB hx (s[k + 1 + 1].toNat : Int) = v2 at hd2 HV
            cases v2 with
            | false =>
              cases v1 with
              | true =>
                go_wp2_with (go_at_call_of 32 (Value.int IntKind.i64 (k : Int)); refine hd.mono ?_; rintro e w' ⟨rfl, hw⟩; have hw2 := hw.symm; subst hw2; clear hw)
                refine hd2.mono ?_
                rintro e w' ⟨rfl, hw⟩
                have hw2 := hw.symm
                subst hw2
                clear hw
                go_wp2
                go_ret
                exact ⟨.inr ⟨k + 1, ret_int (by omega), hlt, H95.out, HN.out⟩, (by repeat (first | exact Grown.refl _ | apply Grown.drew | apply Grown.alloc))⟩
              | false =>
                by_cases hk2 : k = 1
                · have t : ((k : Int) + 1 == 2) = true := beq_iff_eq.2 (by omega)
                  have HK2 := pw hk2
                  clear hk2
                  go_wp2_with (go_at_call_of 32 (Value.int IntKind.i64 (k : Int)); refine hd.mono ?_; rintro e w' ⟨rfl, hw⟩; have hw2 := hw.symm; subst hw2; clear hw)
                  refine hd2.mono ?_
                  rintro e w' ⟨rfl, hw⟩
                  have hw2 := hw.symm
                  subst hw2
                  clear hw
                  go_wp2
                  go_ret
                  exact ⟨.inr ⟨k + 1, ret_int (by omega), hlt, H95.out, HN.out⟩, (by repeat (first | exact Grown.refl _ | apply Grown.drew | apply Grown.alloc))⟩
                · have t : ((k : Int) + 1 == 2) = false := beq_eq_false_iff_ne.2 (by omega)
                  go_wp2_with (go_at_call_of 32 (Value.int IntKind.i64 (k : Int)); refine hd.mono ?_; rintro e w' ⟨rfl, hw⟩; have hw2 := hw.symm; subst hw2; clear hw)
                  refine hd2.mono ?_
                  rintro e w' ⟨rfl, hw⟩
                  have hw2 := hw.symm
                  subst hw2
                  clear hw
                  go_wp2
                  go_ret
                  exact ⟨.inr ⟨k + 1, ret_int (by omega), hlt, H95.out, HN.out⟩, (by repeat (first | exact Grown.refl _ | apply Grown.drew | apply Grown.alloc))⟩
            | true =>
              cases v1 with
              | true =>
                have HK : Hid (∀ j, j < k + 1 + 1 → ¬ Bad s j) := fun j hj c => by
                  by_cases e : j = k + 1
                  · subst e; rcases c.2.2 with c | c | c <;> first | omega | exact HV.out rfl c
                  · exact HN.out j (by omega) c
                go_wp2_with (go_at_call_of 32 (Value.int IntKind.i64 (k : Int)); refine hd.mono ?_; rintro e w' ⟨rfl, hw⟩; have hw2 := hw.symm; subst hw2; clear hw)
                refine hd2.mono ?_
                rintro e w' ⟨rfl, hw⟩
                have hw2 := hw.symm
                subst hw2
                clear hw
                go_wp2
                go_round
                case rel => exact ⟨k + 1 + 1, by omega, by go_num, HK⟩
                case measure => simp [intOf]; omega
              | false =>
                by_cases hk2 : k = 1
                · have t : ((k : Int) + 1 == 2) = true := beq_iff_eq.2 (by omega)
                  have HK2 := pw hk2
                  clear hk2
                  have HK : Hid (∀ j, j < k + 1 + 1 → ¬ Bad s j) := fun j hj c => by
                    by_cases e : j = k + 1
                    · subst e; rcases c.2.2 with c | c | c <;> first | omega | exact HV.out rfl c
                    · exact HN.out j (by omega) c
                  go_wp2_with (go_at_call_of 32 (Value.int IntKind.i64 (k : Int)); refine hd.mono ?_; rintro e w' ⟨rfl, hw⟩; have hw2 := hw.symm; subst hw2; clear hw)
                  refine hd2.mono ?_
                  rintro e w' ⟨rfl, hw⟩
                  have hw2 := hw.symm
                  subst hw2
                  clear hw
                  go_wp2
                  go_round
                  case rel => exact ⟨k + 1 + 1, by omega, by go_num, HK⟩
                  case measure => simp [intOf]; omega
                · have t : ((k : Int) + 1 == 2) = false := beq_eq_false_iff_ne.2 (by omega)
                  go_wp2_with (go_at_call_of 32 (Value.int IntKind.i64 (k : Int)); refine hd.mono ?_; rintro e w' ⟨rfl, hw⟩; have hw2 := hw.symm; subst hw2; clear hw)
                  refine hd2.mono ?_
                  rintro e w' ⟨rfl, hw⟩
                  have hw2 := hw.symm
                  subst hw2
                  clear hw
                  go_wp2
                  go_ret
                  exact ⟨.inr ⟨k + 1, ret_int (by omega), hlt, H95.out, HN.out⟩, (by repeat (first | exact Grown.refl _ | apply Grown.drew | apply Grown.alloc))⟩
          · cases v1 with
            | true =>
              go_wp2_with (go_at_call 32; refine hd.mono ?_; rintro e w' ⟨rfl, hw⟩; have hw2 := hw.symm; subst hw2; clear hw)
              go_ret
              exact ⟨.inr ⟨k + 1, ret_int (by omega), hlt, H95.out, HN.out⟩, (by repeat (first | exact Grown.refl _ | apply Grown.drew | apply Grown.alloc))⟩
            | false =>
              by_cases hk2 : k = 1
              · have t : ((k : Int) + 1 == 2) = true := beq_iff_eq.2 (by omega)
                have HK2 := pw hk2
                clear hk2
                go_wp2_with (go_at_call 32; refine hd.mono ?_; rintro e w' ⟨rfl, hw⟩; have hw2 := hw.symm; subst hw2; clear hw)
                go_ret
                exact ⟨.inr ⟨k + 1, ret_int (by omega), hlt, H95.out, HN.out⟩, (by repeat (first | exact Grown.refl _ | apply Grown.drew | apply Grown.alloc))⟩
              · have t : ((k : Int) + 1 == 2) = false := beq_eq_false_iff_ne.2 (by omega)
                go_wp2_with (go_at_call 32; refine hd.mono ?_; rintro e w' ⟨rfl, hw⟩; have hw2 := hw.symm; subst hw2; clear hw)
                go_ret
                exact ⟨.inr ⟨k + 1, ret_int (by omega), hlt, H95.out, HN.out⟩, (by repeat (first | exact Grown.refl _ | apply Grown.drew | apply Grown.alloc))⟩
      · have hb : ((s[k].toNat : Int) != 95) = true := by rw [bne_iff_ne]; omega
        have HK : Hid (∀ j, j < k + 1 → ¬ Bad s j) := fun j hj c => by
          by_cases e : j = k
          · subst e; exact h95 c.2.1
          · exact HN.out j (by omega) c
        clear h95 e1
        go_wp2
        go_round
        case rel => exact ⟨k + 1, by omega, by go_num, HK⟩
        case measure => simp [intOf]; omega
    · have HF : Hid (∀ j, ¬ Bad s j) := fun j c => HN.out j (by have := c.1; omega) c
      go_wp2
      go_ret
      exact ⟨.inl ⟨rfl, HF.out⟩, (by repeat (first | exact Grown.refl _ | apply Grown.drew | apply Grown.alloc))⟩

/-- invalidSeparator. -/
theorem sep_any (s : ByteArray) (w : World) (hs : s.size ≤ 65536) :
    Calls Try.prog 28 #[.string s] w fun e w' => ((e = .returned (.int .i64 (-1)) ∧ ∀ j, ¬ Bad s j) ∨ ∃ i : Nat, e = .returned (.int .i64 i) ∧ i < s.size ∧ bt s i = 95 ∧ ∀ j, j < i → ¬ Bad s j) ∧ Grown w w' := by
  by_cases h2 : 2 < s.size
  · cases h0 : ((s[0].toNat : Int) == 48) with
    | false => exact sep_B s w hs h2 h0
    | true =>
      by_cases hz : 0 ≤ Lib.indexByte [120, 88, 111, 79, 98, 66] (((s[1].toNat : Int)).toNat.toUInt8)
      · exact sep_D s w hs h2 h0 hz
      · exact sep_C s w hs h2 h0 (by omega)
  · exact sep_A s w hs (by omega)

end Go.Proofs.Qxb6000773a
