/-
  'cloneBytes' (8), the bounds (12, 16), 'sameBytes' (14), 'countNewlines' (15), 'afterLastNewline' (17) by contracts.
-/
import Derived.Test.Qxb6000381aProg
import Derived.WalkKit
import Derived.Below
import Derived.Lib.LazyBuf
import Derived.Test.Qxb6000381aPl
import Derived.Deep.QuietTactic
import Derived.BigQuiet
namespace Go.Proofs.Qxb6000381a
open Go.RowKit

theorem info5 : (Try.prog.info? 5).map (fun i => (i.zero, i.size, i.bytes)) = some (some (.int .u8 0), 1, 1) := by kernel_rfl

theorem addr_add (b o i : Nat) : (⟨b, o, none⟩ : Addr).add i = ⟨b, o + i, none⟩ := by unfold Addr.add; split <;> simp_all

theorem q22 (w : World) (a : Option Addr) (n c : Nat) : (binOp .eql 22 (.slice a n c) (.slice none 0 0)).run Try.prog w = .ok (.bool a.isNone) w := run_eql_slice_nil w 22 5 a n c Try.underlying22

set_option maxHeartbeats 1000000 in
theorem copy_nil (w : World) :
    Calls Try.prog 8 #[.slice none 0 0] w fun e w' => e = .returned (.slice none 0 0) ∧ w' = w := by
  have q := fun (w : World) => q22 w none 0 0
  go_enter Try.func8, Try.ntmps8
  go_wp2
  go_ret
  exact ⟨rfl, rfl⟩

set_option maxHeartbeats 1000000 in
set_option maxRecDepth 100000 in
theorem copy_any (x : Addr) (n c : Nat) (xs : List Int) (w : World) (hm : n ≤ 1048576) (hc0 : ∀ i, i < n → w.cell? (x.add i) = some (.int .u8 (xs.getD i 0))) :
    Calls Try.prog 8 #[.slice (some x) n c] w fun e w' => e = .returned (.slice (some ⟨w.heap.size, 0, none⟩) n n) ∧ Below w.heap.size w w' ∧ w.heap.size < w'.heap.size ∧ ∀ i, i < n → w'.cell? ⟨w.heap.size, i, none⟩ = some (.int .u8 (xs.getD i 0)) := by
  obtain ⟨b, o, spot⟩ := x
  have hsp : 0 < n → spot = none := fun h => by simpa [Addr.add] using World.cell?_spot (hc0 0 h)
  have hc : spot = none → ∀ i, i < n → w.cell? ⟨b, o + i, none⟩ = some (.int .u8 (xs.getD i 0)) := fun e i hi => by subst e; have h := hc0 i hi; rwa [addr_add] at h
  have hbb : 0 < n → b < w.heap.size := fun h => World.block_lt_of_cell? w _ (hc (hsp h) 0 h)
  clear hc0
  have q := fun (w : World) => q22 w (some ⟨b, o, spot⟩) n c
  obtain ⟨i0, hi, hz0, hz1, hz2⟩ := info_parts info5
  go_enter Try.func8, Try.ntmps8
  go_wp2_with (at_make; refine wpList_make_full _ rfl _ _ 22 rfl w.heap.size 5 i0 (.int .u8 0) 1 Try.underlying22 hi hz0 hz1 .i64 .i64 _ _ n rfl rfl rfl rfl (by rw [hz2]; omega) (by unfold maxLen; omega) (Nat.le_refl _) ?_; intro w1 hown hgrow)
  have hL0 := hown.1
  have hb0 : Below w.heap.size w w1 := (Below.refl _ _).grown hgrow (Nat.le_refl _) (fun k h => by cases h)
  have hs0 := hown.lt w.heap.size rfl
  generalize (madeCells (Value.int IntKind.u8 0).cells (n * 1)).toList = L0 at *
  clear hgrow q
  go_loopw [4] (fun i wr => ∃ (k : Nat) (L : List Value), k ≤ n ∧ i = .int .i64 k ∧ wr.ownsRow w.heap.size 5 1 (.slice (some ⟨w.heap.size, 0, none⟩) n n) n L ∧ Below w.heap.size w wr ∧ ∀ j, j < k → L[j]? = some (.int .u8 (xs.getD j 0))) (fun i _ => n - (intOf i).toNat)
  case atStart => exact ⟨0, L0, Nat.zero_le _, rfl, hown, hb0, fun j hj => by omega⟩
  case round =>
    clear hown hb0 hs0 hL0
    obtain ⟨k, L, hk, rfl, hown, hbel, hL⟩ := hrel
    have hlen := hown.1
    have hsz := (hown.lt w.heap.size rfl).2
    by_cases hlt : k < n
    · have hspn := hsp (by omega)
      subst hspn
      have hcw : wr.cell? ⟨b, o + k, none⟩ = some (.int .u8 (xs.getD k 0)) := (hbel.cell (by exact hbb (by omega))).trans (hc rfl k hlt)
      have hfz := hown.frozenAt k
      have hcl : ∃ v, wr.cell? ⟨w.heap.size, k, none⟩ = some v := ⟨_, (hown.cellAt k (by omega)).trans (List.getElem?_eq_getElem (by omega))⟩
      obtain ⟨v, hcl⟩ := hcl
      have hst := hown.stored k (.int .u8 (xs.getD k 0))
      have hbel2 : Below w.heap.size w (wr.setCell ⟨w.heap.size, k, none⟩ (.int .u8 (xs.getD k 0))) := hbel.setCell (Nat.le_refl _) _
      have hL2 : ∀ j, j < k + 1 → (L.set k (.int .u8 (xs.getD k 0)))[j]? = some (.int .u8 (xs.getD j 0)) := by
        intro j hj
        by_cases e : j = k
        · subst e; rw [List.getElem?_set_self (by omega)]
        · rw [List.getElem?_set_ne (by omega)]; exact hL j (by omega)
      have HS : Hid ((wr.setCell ⟨w.heap.size, k, none⟩ (.int .u8 (xs.getD k 0))).ownsRow w.heap.size 5 1 (.slice (some ⟨w.heap.size, 0, none⟩) n n) n (L.set k (.int .u8 (xs.getD k 0))) ∧ Below w.heap.size w (wr.setCell ⟨w.heap.size, k, none⟩ (.int .u8 (xs.getD k 0))) ∧ ∀ j, j < k + 1 → (L.set k (.int .u8 (xs.getD k 0)))[j]? = some (.int .u8 (xs.getD j 0))) := ⟨hst.1, hbel2, hL2⟩
      clear hst hbel2 hL2 hL hown hbel hc hsp
      generalize xs.getD k 0 = z at *
      go_wp2
      go_roundw
      case rel => exact ⟨k + 1, _, by omega, by go_num, HS.out.1, HS.out.2.1, HS.out.2.2⟩
      case measure => simp [intOf]; omega
    · have hkn : k = n := by omega
      subst hkn
      go_wp2
      go_ret
      refine ⟨rfl, hbel, hsz, fun i hi => ?_⟩
      rw [hown.cellAt i (by omega)]
      exact hL i hi

set_option maxHeartbeats 1000000 in
theorem bound12 (a : Option Addr) (n c : Nat) (l : Int) (w : World) :
    Calls Try.prog 12 #[.slice a n c, .int .i64 l] w fun e w' => e = .returned (.bool (decide (n ≤ 1048576))) ∧ w' = w := by
  by_cases h : n ≤ 1048576
  · have hd : decide (n ≤ 1048576) = true := decide_eq_true h
    rw [hd]
    clear hd
    have h' : ¬ ((1048576 : Int) < (n : Int)) := by omega
    go_enter Try.func12, Try.ntmps12
    go_wp2
    go_ret
    exact ⟨rfl, rfl⟩
  · have hd : decide (n ≤ 1048576) = false := decide_eq_false h
    rw [hd]
    clear hd
    have h' : (1048576 : Int) < (n : Int) := by omega
    go_enter Try.func12, Try.ntmps12
    go_wp2
    go_ret
    exact ⟨rfl, rfl⟩

set_option maxHeartbeats 1000000 in
theorem bound16 (a : Option Addr) (n c : Nat) (l : Int) (w : World) :
    Calls Try.prog 16 #[.slice a n c, .int .i64 l] w fun e w' => e = .returned (.bool (decide (n ≤ 1048576))) ∧ w' = w := by
  by_cases h : n ≤ 1048576
  · have hd : decide (n ≤ 1048576) = true := decide_eq_true h
    rw [hd]
    clear hd
    have h' : ¬ ((1048576 : Int) < (n : Int)) := by omega
    go_enter Try.func16, Try.ntmps16
    go_wp2
    go_ret
    exact ⟨rfl, rfl⟩
  · have hd : decide (n ≤ 1048576) = false := decide_eq_false h
    rw [hd]
    clear hd
    have h' : (1048576 : Int) < (n : Int) := by omega
    go_enter Try.func16, Try.ntmps16
    go_wp2
    go_ret
    exact ⟨rfl, rfl⟩

set_option maxHeartbeats 1000000 in
set_option maxRecDepth 100000 in
/-- countNewlines. -/
theorem count_any (b o n c : Nat) (xs : List Int) (w : World) (hm : n ≤ 1048576) (hc : ∀ i, i < n → w.cell? ⟨b, o + i, none⟩ = some (.int .u8 (xs.getD i 0))) :
    Calls Try.prog 15 #[.slice (some ⟨b, o, none⟩) n c] w fun e w' => e = .returned (.int .i64 (Pl.cnt xs n)) ∧ w' = w := by
  go_enter Try.func15, Try.ntmps15
  go_wp2
  go_loop [3, 4] (fun s i => ∃ k : Nat, k ≤ n ∧ i = .int .i64 k ∧ s = .int .i64 (Pl.cnt xs k)) (fun _ i => n - (intOf i).toNat)
  case atStart => exact ⟨0, Nat.zero_le _, rfl, rfl⟩
  case round =>
    obtain ⟨k, hk, rfl, rfl⟩ := hrel
    have hle := Pl.cnt_le xs k
    by_cases hlt : k < n
    · have hcw := hc k hlt
      clear hc
      by_cases h10 : xs.getD k 0 = 10
      · have HE : Hid (Pl.cnt xs (k + 1) = Pl.cnt xs k + 1) := Pl.cnt_hit xs k h10
        rw [h10] at hcw
        clear h10
        generalize Pl.cnt xs k = q at *
        go_wp2
        go_round
        case rel => exact ⟨k + 1, by omega, by go_num, by rw [HE.out]; go_num⟩
        case measure => simp [intOf]; omega
      · have HE : Hid (Pl.cnt xs (k + 1) = Pl.cnt xs k) := Pl.cnt_miss xs k h10
        have hb : (xs.getD k 0 == 10) = false := beq_eq_false_iff_ne.2 h10
        clear h10
        generalize xs.getD k 0 = z at *
        generalize Pl.cnt xs k = q at *
        go_wp2
        go_round
        case rel => exact ⟨k + 1, by omega, by go_num, by rw [HE.out]⟩
        case measure => simp [intOf]; omega
    · have hkn : k = n := by omega
      subst hkn
      go_wp2
      go_ret
      exact ⟨rfl, rfl⟩

set_option maxHeartbeats 1000000 in
set_option maxRecDepth 100000 in
theorem count_nil (w : World) :
    Calls Try.prog 15 #[.slice none 0 0] w fun e w' => e = .returned (.int .i64 0) ∧ w' = w := by
  go_enter Try.func15, Try.ntmps15
  go_wp2
  refine wp_loop_rounds 1 ?_
  rw [rounds_succ]
  go_wp2
  go_ret
  exact ⟨rfl, rfl⟩

set_option maxHeartbeats 1000000 in
set_option maxRecDepth 100000 in
/-- afterLastNewline. -/
theorem after_any (b o n c : Nat) (xs : List Int) (w : World) (hm : n ≤ 1048576) (hc : ∀ i, i < n → w.cell? ⟨b, o + i, none⟩ = some (.int .u8 (xs.getD i 0))) :
    Calls Try.prog 17 #[.slice (some ⟨b, o, none⟩) n c] w fun e w' => e = .returned (.int .i64 (Pl.aft xs n)) ∧ w' = w := by
  go_enter Try.func17, Try.ntmps17
  go_wp2
  go_loop [3, 4] (fun s i => ∃ k : Nat, k ≤ n ∧ i = .int .i64 k ∧ s = .int .i64 (Pl.aft xs k)) (fun _ i => n - (intOf i).toNat)
  case atStart => exact ⟨0, Nat.zero_le _, rfl, rfl⟩
  case round =>
    obtain ⟨k, hk, rfl, rfl⟩ := hrel
    by_cases hlt : k < n
    · have hcw := hc k hlt
      clear hc
      by_cases h10 : xs.getD k 0 = 10
      · have HE : Hid (Pl.aft xs (k + 1) = k + 1) := Pl.aft_hit xs k h10
        rw [h10] at hcw
        clear h10
        generalize Pl.aft xs k = q at *
        go_wp2
        go_round
        case rel => exact ⟨k + 1, by omega, by go_num, by rw [HE.out]; go_num⟩
        case measure => simp [intOf]; omega
      · have HE : Hid (Pl.aft xs (k + 1) = Pl.aft xs k) := Pl.aft_miss xs k h10
        have hb : (xs.getD k 0 == 10) = false := beq_eq_false_iff_ne.2 h10
        clear h10
        generalize xs.getD k 0 = z at *
        generalize Pl.aft xs k = q at *
        go_wp2
        go_round
        case rel => exact ⟨k + 1, by omega, by go_num, by rw [HE.out]⟩
        case measure => simp [intOf]; omega
    · have hkn : k = n := by omega
      subst hkn
      go_wp2
      go_ret
      exact ⟨rfl, rfl⟩

set_option maxHeartbeats 1000000 in
set_option maxRecDepth 100000 in
theorem after_nil (w : World) :
    Calls Try.prog 17 #[.slice none 0 0] w fun e w' => e = .returned (.int .i64 0) ∧ w' = w := by
  go_enter Try.func17, Try.ntmps17
  go_wp2
  refine wp_loop_rounds 1 ?_
  rw [rounds_succ]
  go_wp2
  go_ret
  exact ⟨rfl, rfl⟩

set_option maxHeartbeats 1000000 in
set_option maxRecDepth 100000 in
/-- sameBytes at two slices of no byte, wherever they lie. -/
theorem same_empty (a1 a2 : Option Addr) (c1 c2 : Nat) (w : World) :
    Calls Try.prog 14 #[.slice a1 0 c1, .slice a2 0 c2] w fun e w' => e = .returned (.bool true) ∧ w' = w := by
  go_enter Try.func14, Try.ntmps14
  go_wp2
  refine wp_loop_rounds 1 ?_
  rw [rounds_succ]
  go_wp2
  go_ret
  exact ⟨rfl, rfl⟩

theorem below_drewN (w : World) (B q : Nat) : Below B w (w.drewN q) := ⟨rfl, rfl, rfl, Nat.le_refl _, fun _ _ => rfl⟩

set_option maxHeartbeats 1000000 in
set_option maxRecDepth 100000 in
/-- sameBytes at two slices that hold the same bytes. -/
theorem same_any (b1 o1 c1 b2 o2 c2 n : Nat) (xs : List Int) (w : World) (hm : n ≤ 1048576) (h1 : ∀ i, i < n → w.cell? ⟨b1, o1 + i, none⟩ = some (.int .u8 (xs.getD i 0))) (h2 : ∀ i, i < n → w.cell? ⟨b2, o2 + i, none⟩ = some (.int .u8 (xs.getD i 0))) :
    Calls Try.prog 14 #[.slice (some ⟨b1, o1, none⟩) n c1, .slice (some ⟨b2, o2, none⟩) n c2] w fun e w' => e = .returned (.bool true) ∧ Below w.heap.size w w' := by
  go_enter Try.func14, Try.ntmps14
  go_wp2
  go_loopw [5] (fun i wr => ∃ k : Nat, k ≤ n ∧ i = .int .i64 k ∧ ∃ q, wr = w.drewN q) (fun i _ => n - (intOf i).toNat)
  case atStart => exact ⟨0, Nat.zero_le _, rfl, 0, rfl⟩
  case round =>
    obtain ⟨k, hk, rfl, q, rfl⟩ := hrel
    by_cases hlt : k < n
    · have hc1 := h1 k hlt
      have hc2 := h2 k hlt
      have hI : (k : Int) < (n : Int) := by omega
      clear h1 h2
      generalize xs.getD k 0 = z at *
      go_wp2
      go_quiet (fail)
      go_wp2
      go_roundw
      case rel => exact ⟨k + 1, by omega, by go_num, _, rfl⟩
      case measure => simp [intOf]; omega
    · have hkn : k = n := by omega
      subst hkn
      go_wp2
      go_ret
      exact ⟨rfl, below_drewN _ _ _⟩

end Go.Proofs.Qxb6000381a
