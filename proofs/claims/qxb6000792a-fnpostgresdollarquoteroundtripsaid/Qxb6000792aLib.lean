/-
  THE SMALL FUNCTIONS ON THE ROAD, by contracts: isDig (20), isDigit (32), nameByte (19), postgresNameByte (33), the bound (23), indexOf (21).
-/
import Derived.Test.Qxb6000792aProg
import Derived.WalkKit
import Derived.Below
import Derived.WalkSpells
import Derived.Lib.IndexBytes
namespace Go.Proofs.Qxb6000792a
open Go.RowKit

set_option maxHeartbeats 1000000 in
theorem dig20 (c : Int) (w : World) :
    Calls Try.prog 20 #[.int .u8 c] w fun e w' => e = .returned (.bool (decide (48 ≤ c ∧ c ≤ 57))) ∧ w' = w := by
  by_cases h1 : 48 ≤ c
  · by_cases h2 : c ≤ 57
    · rw [decide_eq_true (And.intro h1 h2)]
      go_enter Try.func20, Try.ntmps20
      go_wp2
      go_ret
      exact ⟨rfl, rfl⟩
    · rw [decide_eq_false (fun c => h2 c.2)]
      go_enter Try.func20, Try.ntmps20
      go_wp2
      go_ret
      exact ⟨rfl, rfl⟩
  · rw [decide_eq_false (fun c => h1 c.1)]
    go_enter Try.func20, Try.ntmps20
    go_wp2
    go_ret
    exact ⟨rfl, rfl⟩

set_option maxHeartbeats 1000000 in
theorem dig32 (c : Int) (w : World) :
    Calls Try.prog 32 #[.int .u8 c] w fun e w' => e = .returned (.bool (decide (48 ≤ c ∧ c ≤ 57))) ∧ w' = w := by
  by_cases h1 : 48 ≤ c
  · by_cases h2 : c ≤ 57
    · rw [decide_eq_true (And.intro h1 h2)]
      go_enter Try.func32, Try.ntmps32
      go_wp2
      go_ret
      exact ⟨rfl, rfl⟩
    · rw [decide_eq_false (fun c => h2 c.2)]
      go_enter Try.func32, Try.ntmps32
      go_wp2
      go_ret
      exact ⟨rfl, rfl⟩
  · rw [decide_eq_false (fun c => h1 c.1)]
    go_enter Try.func32, Try.ntmps32
    go_wp2
    go_ret
    exact ⟨rfl, rfl⟩

/-- A byte of a tag: a letter, a digit, '_' or a byte past ASCII. -/
def nmB (c : Int) : Bool := decide (48 ≤ c ∧ c ≤ 57 ∨ 65 ≤ c ∧ c ≤ 90 ∨ c = 95 ∨ 97 ≤ c ∧ c ≤ 122 ∨ 128 ≤ c)

theorem nmB_iff (c : Int) : nmB c = true ↔ (48 ≤ c ∧ c ≤ 57 ∨ 65 ≤ c ∧ c ≤ 90 ∨ c = 95 ∨ 97 ≤ c ∧ c ≤ 122 ∨ 128 ≤ c) := by
  unfold nmB
  exact decide_eq_true_iff

theorem nmB_no (c : Int) (h : ¬ (48 ≤ c ∧ c ≤ 57 ∨ 65 ≤ c ∧ c ≤ 90 ∨ c = 95 ∨ 97 ≤ c ∧ c ≤ 122 ∨ 128 ≤ c)) : nmB c = false := by
  unfold nmB
  exact decide_eq_false h

/-- The ranges that the tests of 'nameByte' part. -/
theorem ranges (c : Int) : c < 48 ∨ (48 ≤ c ∧ c ≤ 57) ∨ (57 < c ∧ c < 65) ∨ (65 ≤ c ∧ c ≤ 90) ∨ (90 < c ∧ c < 95) ∨ c = 95 ∨ c = 96 ∨ (97 ≤ c ∧ c ≤ 122) ∨ (122 < c ∧ c < 128) ∨ 128 ≤ c := by omega

set_option maxHeartbeats 2000000 in
/-- nameByte. -/
theorem name_any (c : Int) (w : World) :
    Calls Try.prog 19 #[.int .u8 c] w fun e w' => e = .returned (.bool (nmB c)) ∧ w' = w := by
  rcases ranges c with h | ⟨h, h'⟩ | ⟨h, h'⟩ | ⟨h, h'⟩ | ⟨h, h'⟩ | rfl | rfl | ⟨h, h'⟩ | ⟨h, h'⟩ | h
  · -- c < 48
    rw [nmB_no c (by omega)]
    have hd := dig20 c w
    rw [decide_eq_false (by omega : ¬ (48 ≤ c ∧ c ≤ 57))] at hd
    have t : (c == 95) = false := beq_eq_false_iff_ne.2 (by omega)
    go_enter Try.func19, Try.ntmps19
    go_wp2_with (go_at_call 20; refine hd.mono ?_; rintro e w' ⟨rfl, hw⟩; have hw2 := hw.symm; subst hw2; clear hw)
    go_ret
    exact ⟨by show Ending.returned (.bool (decide (128 ≤ c))) = _; rw [decide_eq_false (by omega)], rfl⟩
  · -- 48..57
    rw [show nmB c = true from (nmB_iff c).2 (by omega)]
    have hd := dig20 c w
    rw [decide_eq_true (by omega : 48 ≤ c ∧ c ≤ 57)] at hd
    go_enter Try.func19, Try.ntmps19
    go_wp2_with (go_at_call 20; refine hd.mono ?_; rintro e w' ⟨rfl, hw⟩; have hw2 := hw.symm; subst hw2; clear hw)
    go_ret
    exact ⟨rfl, rfl⟩
  · -- 58..64
    rw [nmB_no c (by omega)]
    have hd := dig20 c w
    rw [decide_eq_false (by omega : ¬ (48 ≤ c ∧ c ≤ 57))] at hd
    have t : (c == 95) = false := beq_eq_false_iff_ne.2 (by omega)
    go_enter Try.func19, Try.ntmps19
    go_wp2_with (go_at_call 20; refine hd.mono ?_; rintro e w' ⟨rfl, hw⟩; have hw2 := hw.symm; subst hw2; clear hw)
    go_ret
    exact ⟨by show Ending.returned (.bool (decide (128 ≤ c))) = _; rw [decide_eq_false (by omega)], rfl⟩
  · -- 65..90
    rw [show nmB c = true from (nmB_iff c).2 (by omega)]
    go_enter Try.func19, Try.ntmps19
    go_wp2
    go_ret
    exact ⟨rfl, rfl⟩
  · -- 91..94
    rw [nmB_no c (by omega)]
    have hd := dig20 c w
    rw [decide_eq_false (by omega : ¬ (48 ≤ c ∧ c ≤ 57))] at hd
    have t : (c == 95) = false := beq_eq_false_iff_ne.2 (by omega)
    go_enter Try.func19, Try.ntmps19
    go_wp2_with (go_at_call 20; refine hd.mono ?_; rintro e w' ⟨rfl, hw⟩; have hw2 := hw.symm; subst hw2; clear hw)
    go_ret
    exact ⟨by show Ending.returned (.bool (decide (128 ≤ c))) = _; rw [decide_eq_false (by omega)], rfl⟩
  · -- 95
    rw [show nmB 95 = true from (nmB_iff 95).2 (by omega)]
    have hd := dig20 95 w
    rw [decide_eq_false (by omega : ¬ (48 ≤ (95 : Int) ∧ (95 : Int) ≤ 57))] at hd
    go_enter Try.func19, Try.ntmps19
    go_wp2_with (go_at_call 20; refine hd.mono ?_; rintro e w' ⟨rfl, hw⟩; have hw2 := hw.symm; subst hw2; clear hw)
    go_ret
    exact ⟨rfl, rfl⟩
  · -- 96
    rw [nmB_no 96 (by omega)]
    have hd := dig20 96 w
    rw [decide_eq_false (by omega : ¬ (48 ≤ (96 : Int) ∧ (96 : Int) ≤ 57))] at hd
    go_enter Try.func19, Try.ntmps19
    go_wp2_with (go_at_call 20; refine hd.mono ?_; rintro e w' ⟨rfl, hw⟩; have hw2 := hw.symm; subst hw2; clear hw)
    go_ret
    exact ⟨rfl, rfl⟩
  · -- 97..122
    rw [show nmB c = true from (nmB_iff c).2 (by omega)]
    go_enter Try.func19, Try.ntmps19
    go_wp2
    go_ret
    exact ⟨rfl, rfl⟩
  · -- 123..127
    rw [nmB_no c (by omega)]
    have hd := dig20 c w
    rw [decide_eq_false (by omega : ¬ (48 ≤ c ∧ c ≤ 57))] at hd
    have t : (c == 95) = false := beq_eq_false_iff_ne.2 (by omega)
    go_enter Try.func19, Try.ntmps19
    go_wp2_with (go_at_call 20; refine hd.mono ?_; rintro e w' ⟨rfl, hw⟩; have hw2 := hw.symm; subst hw2; clear hw)
    go_ret
    exact ⟨by show Ending.returned (.bool (decide (128 ≤ c))) = _; rw [decide_eq_false (by omega)], rfl⟩
  · -- 128..
    rw [show nmB c = true from (nmB_iff c).2 (by omega)]
    have hd := dig20 c w
    rw [decide_eq_false (by omega : ¬ (48 ≤ c ∧ c ≤ 57))] at hd
    have t : (c == 95) = false := beq_eq_false_iff_ne.2 (by omega)
    go_enter Try.func19, Try.ntmps19
    go_wp2_with (go_at_call 20; refine hd.mono ?_; rintro e w' ⟨rfl, hw⟩; have hw2 := hw.symm; subst hw2; clear hw)
    go_ret
    exact ⟨rfl, rfl⟩

theorem or_table : ∀ n : Fin 256, (48 ≤ n.val ∧ n.val ≤ 57 → bits BinOp.or IntKind.u8 ((n.val : Nat) : Int) 32 = ((n.val : Nat) : Int)) ∧ (65 ≤ n.val ∧ n.val ≤ 90 → bits BinOp.or IntKind.u8 ((n.val : Nat) : Int) 32 = ((n.val : Nat) : Int) + 32) ∧
    (97 ≤ n.val ∧ n.val ≤ 122 → bits BinOp.or IntKind.u8 ((n.val : Nat) : Int) 32 = ((n.val : Nat) : Int)) ∧ (n.val = 95 → bits BinOp.or IntKind.u8 ((n.val : Nat) : Int) 32 = 127) ∧ (128 ≤ n.val → 122 < bits BinOp.or IntKind.u8 ((n.val : Nat) : Int) 32) := by
  decide +kernel

theorem or_tab (n : Nat) (hn : n < 256) : (48 ≤ n ∧ n ≤ 57 → bits BinOp.or IntKind.u8 (n : Int) 32 = (n : Int)) ∧ (65 ≤ n ∧ n ≤ 90 → bits BinOp.or IntKind.u8 (n : Int) 32 = (n : Int) + 32) ∧
    (97 ≤ n ∧ n ≤ 122 → bits BinOp.or IntKind.u8 (n : Int) 32 = (n : Int)) ∧ (n = 95 → bits BinOp.or IntKind.u8 (n : Int) 32 = 127) ∧ (128 ≤ n → 122 < bits BinOp.or IntKind.u8 (n : Int) 32) := or_table ⟨n, hn⟩

set_option maxHeartbeats 2000000 in
/-- postgresNameByte at a byte of a tag. -/
theorem pname_yes (n : Nat) (hn : n < 256) (hb : nmB (n : Int) = true) (w : World) :
    Calls Try.prog 33 #[.int .u8 (n : Int)] w fun e w' => e = .returned (.bool true) ∧ w' = w := by
  have tab := or_tab n hn
  have hd := dig32 (n : Int) w
  rw [nmB_iff] at hb
  rcases hb with h | h | h | h | h
  · have hor := tab.1 (by omega)
    rw [decide_eq_true (by omega : 48 ≤ (n : Int) ∧ (n : Int) ≤ 57)] at hd
    clear tab
    obtain ⟨h, h'⟩ := h
    go_enter Try.func33, Try.ntmps33
    go_wp2_with (go_at_call 32; refine hd.mono ?_; rintro e w' ⟨rfl, hw⟩; have hw2 := hw.symm; subst hw2; clear hw)
    go_ret
    exact ⟨rfl, rfl⟩
  · have hor := tab.2.1 (by omega)
    clear tab hd
    obtain ⟨h, h'⟩ := h
    go_enter Try.func33, Try.ntmps33
    go_wp2
    go_ret
    exact ⟨rfl, rfl⟩
  · have hor := tab.2.2.2.1 (by omega)
    obtain rfl : n = 95 := by omega
    clear tab h
    rw [show ((95 : Nat) : Int) = 95 from rfl] at *
    rw [decide_eq_false (by omega : ¬ (48 ≤ (95 : Int) ∧ (95 : Int) ≤ 57))] at hd
    go_enter Try.func33, Try.ntmps33
    go_wp2_with (go_at_call 32; refine hd.mono ?_; rintro e w' ⟨rfl, hw⟩; have hw2 := hw.symm; subst hw2; clear hw)
    go_ret
    exact ⟨rfl, rfl⟩
  · have hor := tab.2.2.1 (by omega)
    clear tab hd
    obtain ⟨h, h'⟩ := h
    go_enter Try.func33, Try.ntmps33
    go_wp2
    go_ret
    exact ⟨rfl, rfl⟩
  · have hor := tab.2.2.2.2 (by omega)
    rw [decide_eq_false (by omega : ¬ (48 ≤ (n : Int) ∧ (n : Int) ≤ 57))] at hd
    clear tab
    have t1 : ((n : Int) == 95) = false := beq_eq_false_iff_ne.2 (by omega)
    have t2 : ((n : Int) == 36) = false := beq_eq_false_iff_ne.2 (by omega)
    have hor2 : ¬ bits BinOp.or IntKind.u8 (n : Int) 32 ≤ 122 := by omega
    go_enter Try.func33, Try.ntmps33
    go_wp2_with (go_at_call 32; refine hd.mono ?_; rintro e w' ⟨rfl, hw⟩; have hw2 := hw.symm; subst hw2; clear hw)
    go_ret
    exact ⟨rfl, rfl⟩

set_option maxHeartbeats 1000000 in
/-- The bound: the three lengths sum to at most 1<<20. -/
theorem bound_yes (a b c : ByteArray) (w : World) (h : a.size + b.size + c.size ≤ 1048576) :
    Calls Try.prog 23 #[.string a, .string b, .string c] w fun e w' => e = .returned (.bool true) ∧ w' = w := by
  go_enter Try.func23, Try.ntmps23
  go_wp2
  go_ret
  exact ⟨rfl, rfl⟩

set_option maxHeartbeats 1000000 in
theorem bound_no (a b c : ByteArray) (w : World) (ha : a.size ≤ maxLen) (hb : b.size ≤ maxLen) (hc : c.size ≤ maxLen) (h : 1048576 < a.size + b.size + c.size) :
    Calls Try.prog 23 #[.string a, .string b, .string c] w fun e w' => e = .returned (.bool false) ∧ w' = w := by
  unfold maxLen at ha hb hc
  go_enter Try.func23, Try.ntmps23
  go_wp2
  all_goals (go_ret; exact ⟨rfl, rfl⟩)

set_option maxHeartbeats 1000000 in
set_option maxRecDepth 100000 in
/-- indexOf. -/
theorem indexOf_any (s sub : ByteArray) (w : World) (hs : s.size ≤ 16777216) (hb : sub.size ≤ 16777216) (h2 : 2 ≤ sub.size) :
    Calls Try.prog 21 #[.string s, .string sub] w fun e w' => e = .returned (.int .i64 (Lib.indexB s sub)) ∧ w' = w := by
  go_enter Try.func21, Try.ntmps21
  go_wp2
  go_loop [6] (fun i => ∃ k : Nat, k ≤ s.size ∧ i = .int .i64 k ∧ Hid (Lib.NoOccB s sub k)) (fun i => s.size + 1 - (intOf i).toNat)
  case atStart => exact ⟨0, Nat.zero_le _, rfl, Lib.NoOcc.zero _ _⟩
  case round =>
    obtain ⟨k, hk, rfl, HN⟩ := hrel
    by_cases hlt : k + sub.size ≤ s.size
    · cases hp : ((s.extract k (k + sub.size)).toList == sub.toList) with
      | true =>
        have HF : Hid (Lib.indexB s sub = k) := Lib.hit s sub k HN.out hlt hp
        go_wp2
        go_ret
        exact ⟨by rw [HF.out]; rfl, rfl⟩
      | false =>
        have HK : Hid (Lib.NoOccB s sub (k + 1)) := Lib.miss_piece s sub k HN.out hlt hp
        go_wp2
        go_round
        case rel => exact ⟨k + 1, by omega, by go_num, HK⟩
        case measure => simp [intOf]; omega
    · have HF : Hid (Lib.indexB s sub = -1) := Lib.index_past (by intro e; rw [Lib.size_eq sub, e] at h2; simp at h2) HN.out (by rw [← Lib.size_eq, ← Lib.size_eq]; omega)
      go_wp2
      go_ret
      exact ⟨by rw [HF.out]; rfl, rfl⟩

end Go.Proofs.Qxb6000792a
