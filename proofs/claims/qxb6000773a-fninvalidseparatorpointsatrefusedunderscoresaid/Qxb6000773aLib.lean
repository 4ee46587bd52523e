/-
  THE SMALL FUNCTIONS ON THE ROAD, by contracts: the bound (17), strings.IndexByte at the six letters of a base (30, 37), isDecimal (33), isHex (34), hasUnderscore (20), firstPlainlyBadUnderscore (19).
-/
import Derived.Test.Qxb6000773aProg
import Derived.WalkKit
import Derived.Below
import Derived.Lib.Bytealg
namespace Go.Proofs.Qxb6000773a
open Go.RowKit

set_option maxHeartbeats 1000000 in
theorem bound_any (s : ByteArray) (w : World) :
    Calls Try.prog 17 #[.string s] w fun e w' => e = .returned (.bool (decide (s.size ≤ 1048576))) ∧ w' = w := by
  by_cases h : s.size ≤ 1048576
  · have hd : decide (s.size ≤ 1048576) = true := decide_eq_true h
    rw [hd]
    clear hd
    have h' : ¬ ((1048576 : Int) < (s.size : Int)) := by omega
    go_enter Try.func17, Try.ntmps17
    go_wp2
    go_ret
    exact ⟨rfl, rfl⟩
  · have hd : decide (s.size ≤ 1048576) = false := decide_eq_false h
    rw [hd]
    clear hd
    have h' : (1048576 : Int) < (s.size : Int) := by omega
    go_enter Try.func17, Try.ntmps17
    go_wp2
    go_ret
    exact ⟨rfl, rfl⟩

set_option maxHeartbeats 1000000 in
set_option maxRecDepth 100000 in
theorem index37 (s : ByteArray) (c : Int) (w : World) :
    Calls Try.prog 37 #[.string s, .int .u8 c] w fun e w' => e = .returned (.int .i64 (Lib.indexByte s.data.toList c.toNat.toUInt8)) ∧ w' = w := by
  go_enter Try.func37, Try.ntmps37
  go_wp2
  rw [run_callFunc_extern Try.func39 (by kernel_rfl) (by kernel_rfl) (by kernel_rfl) (e := Extern.BytealgIndexByte.indexByte) (by kernel_rfl), Lib.run_indexByteString]
  simp only [Result.andThen]
  rw [Oper.upon_value]
  go_wp2
  go_ret
  exact ⟨rfl, rfl⟩

set_option maxHeartbeats 1000000 in
set_option maxRecDepth 100000 in
theorem index30 (s : ByteArray) (c : Int) (w : World) :
    Calls Try.prog 30 #[.string s, .int .u8 c] w fun e w' => e = .returned (.int .i64 (Lib.indexByte s.data.toList c.toNat.toUInt8)) ∧ w' = w := by
  have h := index37 s c w
  go_enter Try.func30, Try.ntmps30
  go_wp2_with (go_at_call 37; refine h.mono ?_; rintro e w' ⟨rfl, hw⟩; have hw2 := hw.symm; subst hw2; clear hw)
  go_ret
  exact ⟨rfl, rfl⟩

set_option maxHeartbeats 1000000 in
theorem dec_any (c : Int) (w : World) :
    Calls Try.prog 33 #[.int .i32 c] w fun e w' => e = .returned (.bool (decide (48 ≤ c ∧ c ≤ 57))) ∧ w' = w := by
  by_cases h1 : 48 ≤ c
  · by_cases h2 : c ≤ 57
    · rw [decide_eq_true (And.intro h1 h2)]
      go_enter Try.func33, Try.ntmps33
      go_wp2
      go_ret
      exact ⟨rfl, rfl⟩
    · rw [decide_eq_false (fun c => h2 c.2)]
      go_enter Try.func33, Try.ntmps33
      go_wp2
      go_ret
      exact ⟨rfl, rfl⟩
  · rw [decide_eq_false (fun c => h1 c.1)]
    go_enter Try.func33, Try.ntmps33
    go_wp2
    go_ret
    exact ⟨rfl, rfl⟩

/-- What 'isHex' answers. -/
def hexB (c : Int) : Bool := decide (48 ≤ c ∧ c ≤ 57) || (decide (97 ≤ bits BinOp.or IntKind.i32 c 32) && decide (bits BinOp.or IntKind.i32 c 32 ≤ 102))

/-- What the closure 'digit' answers at a byte c. -/
def digB (hx : Bool) (c : Int) : Bool := decide (48 ≤ c ∧ c ≤ 57) || (hx && hexB c)

theorem hexB_us : hexB 95 = false := by kernel_rfl

theorem digB_us (hx : Bool) : digB hx 95 = false := by
  unfold digB
  rw [hexB_us]
  cases hx <;> rfl

set_option maxHeartbeats 1000000 in
theorem hex_any (c : Int) (w : World) :
    Calls Try.prog 34 #[.int .i32 c] w fun e w' => e = .returned (.bool (hexB c)) ∧ w' = w := by
  have hd := dec_any c w
  by_cases h : 48 ≤ c ∧ c ≤ 57
  · rw [decide_eq_true h] at hd
    have e : hexB c = true := by simp only [hexB, decide_eq_true h, Bool.true_or]
    rw [e]
    go_enter Try.func34, Try.ntmps34
    go_wp2_with (first | (go_at_call 33; refine hd.mono ?_; rintro e w' ⟨rfl, hw⟩; have hw2 := hw.symm; subst hw2; clear hw) | go_in)
    go_ret
    exact ⟨rfl, rfl⟩
  · rw [decide_eq_false h] at hd
    by_cases h1 : 97 ≤ bits BinOp.or IntKind.i32 c 32
    · by_cases h2 : bits BinOp.or IntKind.i32 c 32 ≤ 102
      · have e : hexB c = true := by simp only [hexB, decide_eq_false h, decide_eq_true h1, decide_eq_true h2, Bool.false_or, Bool.true_and]
        rw [e]
        go_enter Try.func34, Try.ntmps34
        go_wp2_with (first | (go_at_call 33; refine hd.mono ?_; rintro e w' ⟨rfl, hw⟩; have hw2 := hw.symm; subst hw2; clear hw) | go_in)
        go_ret
        exact ⟨rfl, rfl⟩
      · have e : hexB c = false := by simp only [hexB, decide_eq_false h, decide_eq_true h1, decide_eq_false h2, Bool.false_or, Bool.true_and]
        rw [e]
        go_enter Try.func34, Try.ntmps34
        go_wp2_with (first | (go_at_call 33; refine hd.mono ?_; rintro e w' ⟨rfl, hw⟩; have hw2 := hw.symm; subst hw2; clear hw) | go_in)
        go_ret
        exact ⟨by show Ending.returned (.bool (decide (bits BinOp.or IntKind.i32 c 32 ≤ 102))) = _; rw [decide_eq_false (by omega)], rfl⟩
    · have e : hexB c = false := by simp only [hexB, decide_eq_false h, decide_eq_false h1, Bool.false_or, Bool.false_and]
      rw [e]
      go_enter Try.func34, Try.ntmps34
      go_wp2_with (first | (go_at_call 33; refine hd.mono ?_; rintro e w' ⟨rfl, hw⟩; have hw2 := hw.symm; subst hw2; clear hw) | go_in)
      go_ret
      exact ⟨rfl, rfl⟩

set_option maxHeartbeats 1000000 in
/-- The closure 'digit' (32) at the index k: its own argument first, then what it captured: lit's box, hex's box. -/
theorem digit_any (s : ByteArray) (k : Nat) (hx : Bool) (b1 b2 : Nat) (w : World) (hk : k < s.size) (h1 : w.cell? ⟨b1, 0, none⟩ = some (.string s)) (h2 : w.cell? ⟨b2, 0, none⟩ = some (.bool hx)) :
    Calls Try.prog 32 #[.int .i64 k, .pointer (some ⟨b1, 0, none⟩), .pointer (some ⟨b2, 0, none⟩)] w fun e w' => e = .returned (.bool (digB hx (s[k].toNat : Int))) ∧ w' = w := by
  have hwr : wrap32 (s[k].toNat : Int) = (s[k].toNat : Int) := by
    have := s[k].toNat_lt
    unfold wrap32
    omega
  rw [← hwr]
  clear hwr
  have hd := dec_any (wrap32 (s[k].toNat : Int)) w
  have hh := hex_any (wrap32 (s[k].toNat : Int)) w
  by_cases h : 48 ≤ wrap32 (s[k].toNat : Int) ∧ wrap32 (s[k].toNat : Int) ≤ 57
  · rw [decide_eq_true h] at hd
    have e : digB hx (wrap32 (s[k].toNat : Int)) = true := by simp only [digB, decide_eq_true h, Bool.true_or]
    rw [e]
    clear e h
    go_enter Try.func32, Try.ntmps32
    go_wp2_with (go_at_call 33; refine hd.mono ?_; rintro e w' ⟨rfl, hw⟩; have hw2 := hw.symm; subst hw2; clear hw)
    go_ret
    exact ⟨rfl, rfl⟩
  · rw [decide_eq_false h] at hd
    cases hx with
    | false =>
      have e : digB false (wrap32 (s[k].toNat : Int)) = false := by simp only [digB, decide_eq_false h, Bool.false_or, Bool.false_and]
      rw [e]
      clear e h
      go_enter Try.func32, Try.ntmps32
      go_wp2_with (go_at_call 33; refine hd.mono ?_; rintro e w' ⟨rfl, hw⟩; have hw2 := hw.symm; subst hw2; clear hw)
      go_ret
      exact ⟨rfl, rfl⟩
    | true =>
      have e : digB true (wrap32 (s[k].toNat : Int)) = hexB (wrap32 (s[k].toNat : Int)) := by simp only [digB, decide_eq_false h, Bool.false_or, Bool.true_and]
      rw [e]
      clear e h
      go_enter Try.func32, Try.ntmps32
      go_wp2_with (first | (go_at_call 33; refine hd.mono ?_; rintro e w' ⟨rfl, hw⟩; have hw2 := hw.symm; subst hw2; clear hw) | (go_at_call 34; refine hh.mono ?_; rintro e w' ⟨rfl, hw⟩; have hw2 := hw.symm; subst hw2; clear hw))
      go_ret
      exact ⟨rfl, rfl⟩

set_option maxHeartbeats 1000000 in
set_option maxRecDepth 100000 in
/-- hasUnderscore: no '_' in s, or one. -/
theorem has_any (s : ByteArray) (w : World) (hs : s.size ≤ 1048576) :
    Calls Try.prog 20 #[.string s] w fun e w' => (e = .returned (.bool true) ∨ (e = .returned (.bool false) ∧ ∀ j (h : j < s.size), s[j].toNat ≠ 95)) ∧ w' = w := by
  go_enter Try.func20, Try.ntmps20
  go_wp2
  go_loop [3] (fun i => ∃ k : Nat, k ≤ s.size ∧ i = .int .i64 k ∧ Hid (∀ j (h : j < s.size), j < k → s[j].toNat ≠ 95)) (fun i => s.size - (intOf i).toNat)
  case atStart => exact ⟨0, Nat.zero_le _, rfl, fun j h hj => by omega⟩
  case round =>
    obtain ⟨k, hk, rfl, HN⟩ := hrel
    by_cases hlt : k < s.size
    · by_cases h95 : s[k].toNat = 95
      · have hb : ((s[k].toNat : Int) == 95) = true := beq_iff_eq.2 (by omega)
        clear h95
        go_wp2
        go_ret
        exact ⟨.inl rfl, rfl⟩
      · have hb : ((s[k].toNat : Int) == 95) = false := beq_eq_false_iff_ne.2 (by omega)
        have HN2 : Hid (∀ j (h : j < s.size), j < k + 1 → s[j].toNat ≠ 95) := fun j h hj => by
          by_cases e : j = k
          · subst e; exact h95
          · exact HN.out j h (by omega)
        clear h95
        go_wp2
        go_round
        case rel => exact ⟨k + 1, by omega, by go_num, HN2⟩
        case measure => simp [intOf]; omega
    · have HF : Hid (∀ j (h : j < s.size), s[j].toNat ≠ 95) := fun j h => HN.out j h (by omega)
      go_wp2
      go_ret
      exact ⟨.inr ⟨rfl, HF.out⟩, rfl⟩

/-- The byte at j; 0 where there is none. -/
def bt (s : ByteArray) (j : Nat) : Nat := if h : j < s.size then s[j].toNat else 0

theorem bt_eq (s : ByteArray) (j : Nat) (h : j < s.size) : s[j].toNat = bt s j := by
  unfold bt
  rw [dif_pos h]

/-- A '_' that stands first, last or ahead of another. -/
def Bad (s : ByteArray) (j : Nat) : Prop := j < s.size ∧ bt s j = 95 ∧ (j = 0 ∨ j + 1 = s.size ∨ bt s (j + 1) = 95)

set_option maxHeartbeats 1000000 in
set_option maxRecDepth 100000 in
/-- firstPlainlyBadUnderscore. -/
theorem first_any (s : ByteArray) (w : World) (hs : s.size ≤ 1048576) :
    Calls Try.prog 19 #[.string s] w fun e w' => ((e = .returned (.int .i64 (-1)) ∧ ∀ j, ¬ Bad s j) ∨ ∃ p : Nat, e = .returned (.int .i64 p) ∧ Bad s p) ∧ w' = w := by
  go_enter Try.func19, Try.ntmps19
  go_wp2
  go_loop [4] (fun i => ∃ k : Nat, k ≤ s.size ∧ i = .int .i64 k ∧ Hid (∀ j, j < k → ¬ Bad s j)) (fun i => s.size - (intOf i).toNat)
  case atStart => exact ⟨0, Nat.zero_le _, rfl, fun j hj => by omega⟩
  case round =>
    obtain ⟨k, hk, rfl, HN⟩ := hrel
    by_cases hlt : k < s.size
    · have hstep : ¬ Bad s k → Hid (∀ j, j < k + 1 → ¬ Bad s j) := fun hb j hj => by
        by_cases e : j = k
        · subst e; exact hb
        · exact HN.out j (by omega)
      have HS : Hid (¬ Bad s k → Hid (∀ j, j < k + 1 → ¬ Bad s j)) := hstep
      clear hstep
      have e1 := bt_eq s k hlt
      by_cases h95 : bt s k = 95
      · have hb : ((s[k].toNat : Int) != 95) = false := by rw [e1, h95]; rfl
        by_cases h0 : k = 0
        · have HB : Hid (Bad s k) := ⟨hlt, h95, .inl h0⟩
          have hk0 : ((k : Int) == 0) = true := beq_iff_eq.2 (by omega)
          clear h95 e1 h0
          go_wp2
          go_ret
          exact ⟨.inr ⟨k, rfl, HB.out⟩, rfl⟩
        · have hk0 : ((k : Int) == 0) = false := beq_eq_false_iff_ne.2 (by omega)
          by_cases hl : k + 1 = s.size
          · have HB : Hid (Bad s k) := ⟨hlt, h95, .inr (.inl hl)⟩
            have hkl : ((k : Int) == (s.size : Int) - 1) = true := beq_iff_eq.2 (by omega)
            clear h95 e1 h0 hl
            go_wp2
            go_ret
            exact ⟨.inr ⟨k, rfl, HB.out⟩, rfl⟩
          · have hkl : ((k : Int) == (s.size : Int) - 1) = false := beq_eq_false_iff_ne.2 (by omega)
            have hlt2 : k + 1 < s.size := by omega
            have e2 := bt_eq s (k + 1) hlt2
            by_cases hn : bt s (k + 1) = 95
            · have HB : Hid (Bad s k) := ⟨hlt, h95, .inr (.inr hn)⟩
              have hb2 : ((s[k + 1].toNat : Int) == 95) = true := by rw [e2, hn]; rfl
              clear h95 e1 h0 hl e2 hn
              go_wp2
              go_ret
              exact ⟨.inr ⟨k, rfl, HB.out⟩, rfl⟩
            · have hb2 : ((s[k + 1].toNat : Int) == 95) = false := beq_eq_false_iff_ne.2 (by omega)
              have HK : Hid (∀ j, j < k + 1 → ¬ Bad s j) := HS.out (fun c => by rcases c.2.2 with c | c | c <;> omega)
              clear h95 e1 h0 hl e2 hn HS
              go_wp2
              go_round
              case rel => exact ⟨k + 1, by omega, by go_num, HK⟩
              case measure => simp [intOf]; omega
      · have hb : ((s[k].toNat : Int) != 95) = true := by rw [bne_iff_ne]; omega
        have HK : Hid (∀ j, j < k + 1 → ¬ Bad s j) := HS.out (fun c => h95 c.2.1)
        clear h95 e1 HS
        go_wp2
        go_round
        case rel => exact ⟨k + 1, by omega, by go_num, HK⟩
        case measure => simp [intOf]; omega
    · have HF : Hid (∀ j, ¬ Bad s j) := fun j c => HN.out j (by have := c.1; omega) c
      go_wp2
      go_ret
      exact ⟨.inl ⟨rfl, HF.out⟩, rfl⟩

end Go.Proofs.Qxb6000773a
