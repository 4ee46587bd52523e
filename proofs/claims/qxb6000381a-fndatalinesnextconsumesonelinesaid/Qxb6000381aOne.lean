/-
  THE WALK OF 'FnDataLinesNextConsumesOneLine' (5).
-/
import Derived.Test.Qxb6000381aNext
namespace Go.Proofs.Qxb6000381a
open Go.RowKit

theorem pw {P : Prop} (h : P) : Hid P := h

set_option maxHeartbeats 1000000 in
theorem one_big (a : Option Addr) (n c : Nat) (l : Int) (w : World) (h : 1048576 < n) :
    Calls Try.prog 5 #[.slice a n c, .int .i64 l] w fun e w' => e = .returned (.bool true) ∧ Below w.heap.size w w' := by
  have hb := bound12 a n c l w
  rw [decide_eq_false (by omega : ¬ n ≤ 1048576)] at hb
  go_enter Try.func5, Try.ntmps5
  go_wp2_with (go_at_call 12; refine hb.mono ?_; rintro e w' ⟨rfl, hw⟩; have hw2 := hw.symm; subst hw2; clear hw)
  go_ret
  exact ⟨rfl, Below.refl _ _⟩

set_option maxHeartbeats 1000000 in
set_option maxRecDepth 100000 in
theorem one_nil (l : Int) (w : World) :
    Calls Try.prog 5 #[.slice none 0 0, .int .i64 l] w fun e w' => e = .returned (.bool true) ∧ Below w.heap.size w w' := by
  have hb := bound12 none 0 0 l w
  rw [decide_eq_true (by omega : 0 ≤ 1048576)] at hb
  have hcp := copy_nil w
  have hz := zznext_nil l w
  have q := fun (w : World) => q22 w none 0 0
  go_enter Try.func5, Try.ntmps5
  go_wp2_with (first | (go_at_call 12; refine hb.mono ?_; rintro e w' ⟨rfl, hw⟩; have hw2 := hw.symm; subst hw2; clear hw) | (go_at_call 8; refine hcp.mono ?_; rintro e w' ⟨rfl, hw⟩; have hw2 := hw.symm; subst hw2; clear hw))
  refine wp_loop_rounds 1 ?_
  rw [rounds_succ]
  go_wp2_with (go_at_call 13; refine hz.mono ?_; rintro e w1 ⟨rfl, hb1⟩)
  have hs := same_empty none none 0 0 w1
  have hn := count_nil w1
  go_wp2_with (first | (go_at_call 14; refine hs.mono ?_; rintro e w' ⟨rfl, hw⟩; have hw2 := hw.symm; subst hw2; clear hw) | (go_at_call 15; refine hn.mono ?_; rintro e w' ⟨rfl, hw⟩; have hw2 := hw.symm; subst hw2; clear hw))
  go_ret
  exact ⟨rfl, hb1⟩

set_option maxHeartbeats 4000000 in
set_option maxRecDepth 100000 in
theorem one_any (x : Addr) (n c : Nat) (l0 : Int) (xs : List Int) (w : World) (hm : n ≤ 1048576) (hx : xs.length = n) (hc : ∀ i, i < n → w.cell? (x.add i) = some (.int .u8 (xs.getD i 0))) (hr : ∀ x ∈ xs, 0 ≤ x ∧ x < 256) :
    Calls Try.prog 5 #[.slice (some x) n c, .int .i64 l0] w fun e w' => e = .returned (.bool true) ∧ Below w.heap.size w w' := by
  have hb := bound12 (some x) n c l0 w
  rw [decide_eq_true hm] at hb
  have hcp := copy_any x n c xs w hm hc
  have HX : Hid (xs.length = n) := hx
  clear hc hx
  go_enter Try.func5, Try.ntmps5
  go_wp2_with (first | (go_at_call 12; refine hb.mono ?_; rintro e w' ⟨rfl, hw⟩; have hw2 := hw.symm; subst hw2; clear hw) | (go_at_call 8; refine hcp.mono ?_; rintro e w1 ⟨rfl, hb1, hs1, hc1⟩))
  clear hb hcp
  go_loopw [5, 6, 7] (fun rs ln i wr => ∃ (p q m k : Nat) (l : Int), rs = .slice (some ⟨w.heap.size, q, none⟩) m m ∧ ln = .int .i64 l ∧ i = .int .i64 k ∧ k ≤ p ∧ Hid (p + m = n) ∧ Hid (0 < m → q = p) ∧ Below w1.heap.size w1 wr) (fun _ _ i _ => n + 1 - (intOf i).toNat)
  case atStart => exact ⟨0, 0, n, 0, l0, rfl, rfl, rfl, Nat.le_refl _, Nat.zero_add _, fun _ => rfl, Below.refl _ _⟩
  case round =>
    obtain ⟨p, q, m, k, l, rfl, rfl, rfl, hkp, Hpm, Hq, hbel⟩ := hrel
    have hBw : w.heap.size < wr.heap.size := Nat.lt_of_lt_of_le hs1 hbel.size
    have hcw : ∀ i, i < m → wr.cell? ⟨w.heap.size, q + i, none⟩ = some (.int .u8 ((xs.drop p).getD i 0)) := fun i hi => by
      have e1 := Hq.out (by omega)
      have e2 := Hpm.out
      subst e1
      rw [Pl.getD_drop, hbel.cell (by exact hs1)]
      exact hc1 (q + i) (by omega)
    have hyl : (xs.drop p).length = m := by have := HX.out; have := Hpm.out; simp; omega
    have hyr : ∀ x ∈ xs.drop p, 0 ≤ x ∧ x < 256 := fun x hx => hr x (List.mem_of_mem_drop hx)
    have hkn : k ≤ n := by have := Hpm.out; omega
    have hmn : m ≤ n := by have := Hpm.out; omega
    generalize xs.drop p = ys at *
    rcases Pl.first_nl ys m with hno | ⟨e, hem, h10, hbef⟩
    · have hz := zznext_none w.heap.size q m l ys wr (fun _ => hBw) hyl hcw hyr hno
      have HN : Hid (Pl.cnt ys m = 0) := Pl.cnt_none ys m hno
      have qn := fun (w : World) => q22 w none 0 0
      clear hno
      go_wp2_with (go_at_call 13; refine hz.mono ?_; rintro e w2 ⟨rfl, hb2⟩)
      have hc2 : ∀ i, i < m → w2.cell? ⟨w.heap.size, q + i, none⟩ = some (.int .u8 (ys.getD i 0)) := fun i hi => (hb2.cell (by exact hBw)).trans (hcw i hi)
      have hs := same_any w.heap.size q m w.heap.size q m m ys w2 (by omega) hc2 hc2
      clear hz
      go_wp2_with (go_at_call 14; refine hs.mono ?_; rintro e w3 ⟨rfl, hb3⟩)
      have hB2 : w.heap.size < w2.heap.size := Nat.lt_of_lt_of_le hBw hb2.size
      have hcn := count_any w.heap.size q m m ys w3 (by omega) (fun i hi => (hb3.cell (by exact hB2)).trans (hc2 i hi))
      rw [HN.out] at hcn
      clear hs
      go_wp2_with (go_at_call 15; refine hcn.mono ?_; rintro e w' ⟨rfl, hw⟩; have hw2 := hw.symm; subst hw2; clear hw)
      go_ret
      refine ⟨rfl, hb1.trans ((hbel.mono (by omega)).trans ((hb2.mono (by omega)).trans (hb3.mono (by omega))))⟩
    · obtain ⟨r, rfl⟩ : ∃ r, m = e + 1 + r := ⟨m - (e + 1), by omega⟩
      have HC : Hid (∀ i, i < e → ys.getD i 0 ≠ 10) := hbef
      by_cases hr0 : 0 < r
      · cases e with
        | zero =>
          rw [Nat.zero_add] at *
          have hz := next_no_more w.heap.size q r l ys wr (by omega) hr0 hBw hyl hcw hyr h10 hbef
          have H10 : Hid (ys.getD (0) 0 = 10) := h10
          clear hbef h10 hyr hyl
          have t3 : (wrap64 (l + 1) != wrap64 (l + 1)) = false := by simp
          go_wp2_with (go_at_call 13; refine hz.mono ?_; rintro en w2 ⟨rfl, hb2⟩)
          have hB2 : w.heap.size < w2.heap.size := Nat.lt_of_lt_of_le hBw hb2.size
          have hc2 : ∀ i, i < 1 + r → w2.cell? ⟨w.heap.size, q + i, none⟩ = some (.int .u8 (ys.getD i 0)) := fun i hi => (hb2.cell (by exact hBw)).trans (hcw i hi)
          have hs := same_any w.heap.size q (1 + r) w.heap.size q (1 + r) (0) ys w2 (by omega) (fun i hi => hc2 i (by omega)) (fun i hi => hc2 i (by omega))
          clear hz hcw
          go_wp2_with (go_at_call 14; refine hs.mono ?_; rintro en w3 ⟨rfl, hb3⟩)
          have hB3 : w.heap.size < w3.heap.size := Nat.lt_of_lt_of_le hB2 hb3.size
          have hc3 : ∀ i, i < 1 + r → w3.cell? ⟨w.heap.size, q + i, none⟩ = some (.int .u8 (ys.getD i 0)) := fun i hi => (hb3.cell (by exact hB2)).trans (hc2 i hi)
          have hcn := count_any w.heap.size q (0) (1 + r) ys w3 (by omega) (fun i hi => hc3 i (by omega))
          rw [Pl.cnt_none ys (0) (fun i hi => HC.out i (by omega))] at hcn
          have k10 : w3.cell? ⟨w.heap.size, q, none⟩ = some (.int .u8 10) := by have h := hc3 0 (by omega); rw [Nat.add_zero, H10.out] at h; exact h
          have hs2 := same_any w.heap.size (q + (0 + 1)) r w.heap.size (q + (0 + 1)) r r (ys.drop (0 + 1)) w3 (by omega) (fun i hi => by rw [Pl.getD_drop, Nat.add_assoc]; exact hc3 (0 + 1 + i) (by omega)) (fun i hi => by rw [Pl.getD_drop, Nat.add_assoc]; exact hc3 (0 + 1 + i) (by omega))
          clear hs hc2 hc3
          go_wp2_with (go_at_call 15; refine hcn.mono ?_; rintro en w' ⟨rfl, hw⟩; have hw2 := hw.symm; subst hw2; clear hw)
          go_wp2_with (go_at_call 14; refine hs2.mono ?_; rintro en w4 ⟨rfl, hb4⟩)
          go_roundw
          case rel => exact ⟨p + (0 + 1), q + (0 + 1), r, k + 1, wrap64 (l + 1), rfl, rfl, by go_num, by omega, pw (by have := Hpm.out; omega), pw (fun _ => by have := Hq.out (by omega); omega), hbel.trans ((hb2.mono hbel.size).trans ((hb3.mono (Nat.le_trans hbel.size hb2.size)).trans (hb4.mono (Nat.le_trans hbel.size (Nat.le_trans hb2.size hb3.size)))))⟩
          case measure => simp [intOf]; omega
        | succ e =>
          by_cases h13 : ys.getD e 0 = 13
          · have hz := next_cr_more w.heap.size q e r l ys wr (by omega) hr0 hBw hyl hcw hyr h10 hbef h13
            have H10 : Hid (ys.getD (e + 1) 0 = 10) := h10
            have H13 : Hid (ys.getD e 0 = 13) := h13
            clear hbef h10 hyr hyl h13
            have t1 : ((e : Int) + 1 + 1 != (e : Int) + 1) = true := by rw [bne_iff_ne]; omega
            have t2 : ((e : Int) + 1 + 1 != (e : Int) + 2) = false := by rw [bne_eq_false_iff_eq]; omega
            have t4 : ((e : Int) + 1 + 1 == (e : Int) + 2) = true := by rw [beq_iff_eq]; omega
            have t5 : ((e : Int) + 1 + 1 == (e : Int) + 1) = false := by rw [beq_eq_false_iff_ne]; omega
            have t3 : (wrap64 (l + 1) != wrap64 (l + 1)) = false := by simp
            go_wp2_with (go_at_call 13; refine hz.mono ?_; rintro en w2 ⟨rfl, hb2⟩)
            have hB2 : w.heap.size < w2.heap.size := Nat.lt_of_lt_of_le hBw hb2.size
            have hc2 : ∀ i, i < e + 1 + 1 + r → w2.cell? ⟨w.heap.size, q + i, none⟩ = some (.int .u8 (ys.getD i 0)) := fun i hi => (hb2.cell (by exact hBw)).trans (hcw i hi)
            have hs := same_any w.heap.size q (e + 1 + 1 + r) w.heap.size q (e + 1 + 1 + r) (e) ys w2 (by omega) (fun i hi => hc2 i (by omega)) (fun i hi => hc2 i (by omega))
            clear hz hcw
            go_wp2_with (go_at_call 14; refine hs.mono ?_; rintro en w3 ⟨rfl, hb3⟩)
            have hB3 : w.heap.size < w3.heap.size := Nat.lt_of_lt_of_le hB2 hb3.size
            have hc3 : ∀ i, i < e + 1 + 1 + r → w3.cell? ⟨w.heap.size, q + i, none⟩ = some (.int .u8 (ys.getD i 0)) := fun i hi => (hb3.cell (by exact hB2)).trans (hc2 i hi)
            have hcn := count_any w.heap.size q (e) (e + 1 + 1 + r) ys w3 (by omega) (fun i hi => hc3 i (by omega))
            rw [Pl.cnt_none ys (e) (fun i hi => HC.out i (by omega))] at hcn
            have k10 : w3.cell? ⟨w.heap.size, q + (e + 1), none⟩ = some (.int .u8 10) := by rw [hc3 (e + 1) (by omega), H10.out]
            have k13 : w3.cell? ⟨w.heap.size, q + e, none⟩ = some (.int .u8 13) := by rw [hc3 e (by omega), H13.out]
            have hs2 := same_any w.heap.size (q + (e + 1 + 1)) r w.heap.size (q + (e + 1 + 1)) r r (ys.drop (e + 1 + 1)) w3 (by omega) (fun i hi => by rw [Pl.getD_drop, Nat.add_assoc]; exact hc3 (e + 1 + 1 + i) (by omega)) (fun i hi => by rw [Pl.getD_drop, Nat.add_assoc]; exact hc3 (e + 1 + 1 + i) (by omega))
            clear hs hc2 hc3
            go_wp2_with (go_at_call 15; refine hcn.mono ?_; rintro en w' ⟨rfl, hw⟩; have hw2 := hw.symm; subst hw2; clear hw)
            go_wp2_with (go_at_call 14; refine hs2.mono ?_; rintro en w4 ⟨rfl, hb4⟩)
            go_roundw
            case rel => exact ⟨p + (e + 1 + 1), q + (e + 1 + 1), r, k + 1, wrap64 (l + 1), rfl, rfl, by go_num, by omega, pw (by have := Hpm.out; omega), pw (fun _ => by have := Hq.out (by omega); omega), hbel.trans ((hb2.mono hbel.size).trans ((hb3.mono (Nat.le_trans hbel.size hb2.size)).trans (hb4.mono (Nat.le_trans hbel.size (Nat.le_trans hb2.size hb3.size)))))⟩
            case measure => simp [intOf]; omega
          · have hz := next_lf_more w.heap.size q e r l ys wr (by omega) hr0 hBw hyl hcw hyr h10 hbef h13
            have H10 : Hid (ys.getD (e + 1) 0 = 10) := h10
            have H13 : Hid (ys.getD e 0 ≠ 13) := h13
            clear hbef h10 hyr hyl h13
            have t1 : ((e : Int) + 1 + 1 != (e : Int) + 1 + 1) = false := by rw [bne_eq_false_iff_eq]
            have t4 : ((e : Int) + 1 + 1 == (e : Int) + 1 + 2) = false := by rw [beq_eq_false_iff_ne]; omega
            have t5 : ((e : Int) + 1 + 1 == (e : Int) + 1 + 1) = true := by rw [beq_iff_eq]
            have t3 : (wrap64 (l + 1) != wrap64 (l + 1)) = false := by simp
            go_wp2_with (go_at_call 13; refine hz.mono ?_; rintro en w2 ⟨rfl, hb2⟩)
            have hB2 : w.heap.size < w2.heap.size := Nat.lt_of_lt_of_le hBw hb2.size
            have hc2 : ∀ i, i < e + 1 + 1 + r → w2.cell? ⟨w.heap.size, q + i, none⟩ = some (.int .u8 (ys.getD i 0)) := fun i hi => (hb2.cell (by exact hBw)).trans (hcw i hi)
            have hs := same_any w.heap.size q (e + 1 + 1 + r) w.heap.size q (e + 1 + 1 + r) (e + 1) ys w2 (by omega) (fun i hi => hc2 i (by omega)) (fun i hi => hc2 i (by omega))
            clear hz hcw
            go_wp2_with (go_at_call 14; refine hs.mono ?_; rintro en w3 ⟨rfl, hb3⟩)
            have hB3 : w.heap.size < w3.heap.size := Nat.lt_of_lt_of_le hB2 hb3.size
            have hc3 : ∀ i, i < e + 1 + 1 + r → w3.cell? ⟨w.heap.size, q + i, none⟩ = some (.int .u8 (ys.getD i 0)) := fun i hi => (hb3.cell (by exact hB2)).trans (hc2 i hi)
            have hcn := count_any w.heap.size q (e + 1) (e + 1 + 1 + r) ys w3 (by omega) (fun i hi => hc3 i (by omega))
            rw [Pl.cnt_none ys (e + 1) (fun i hi => HC.out i (by omega))] at hcn
            have k10 : w3.cell? ⟨w.heap.size, q + (e + 1), none⟩ = some (.int .u8 10) := by rw [hc3 (e + 1) (by omega), H10.out]
            have k13 : w3.cell? ⟨w.heap.size, q + e, none⟩ = some (.int .u8 (ys.getD e 0)) := hc3 e (by omega)
            have t6 : (ys.getD e 0 == 13) = false := beq_eq_false_iff_ne.2 H13.out
            have hs2 := same_any w.heap.size (q + (e + 1 + 1)) r w.heap.size (q + (e + 1 + 1)) r r (ys.drop (e + 1 + 1)) w3 (by omega) (fun i hi => by rw [Pl.getD_drop, Nat.add_assoc]; exact hc3 (e + 1 + 1 + i) (by omega)) (fun i hi => by rw [Pl.getD_drop, Nat.add_assoc]; exact hc3 (e + 1 + 1 + i) (by omega))
            clear hs hc2 hc3
            generalize ys.getD e 0 = z at *
            go_wp2_with (go_at_call 15; refine hcn.mono ?_; rintro en w' ⟨rfl, hw⟩; have hw2 := hw.symm; subst hw2; clear hw)
            go_wp2_with (go_at_call 14; refine hs2.mono ?_; rintro en w4 ⟨rfl, hb4⟩)
            go_roundw
            case rel => exact ⟨p + (e + 1 + 1), q + (e + 1 + 1), r, k + 1, wrap64 (l + 1), rfl, rfl, by go_num, by omega, pw (by have := Hpm.out; omega), pw (fun _ => by have := Hq.out (by omega); omega), hbel.trans ((hb2.mono hbel.size).trans ((hb3.mono (Nat.le_trans hbel.size hb2.size)).trans (hb4.mono (Nat.le_trans hbel.size (Nat.le_trans hb2.size hb3.size)))))⟩
            case measure => simp [intOf]; omega
      · obtain rfl : r = 0 := by omega
        clear hr0
        rw [Nat.add_zero] at *
        cases e with
        | zero =>
          rw [Nat.zero_add] at *
          have hz := next_no_last w.heap.size q l ys wr hBw hyl hcw hyr h10 hbef
          have H10 : Hid (ys.getD (0) 0 = 10) := h10
          clear hbef h10 hyr hyl
          have t3 : (wrap64 (l + 1) != wrap64 (l + 1)) = false := by simp
          go_wp2_with (go_at_call 13; refine hz.mono ?_; rintro en w2 ⟨rfl, hb2⟩)
          have hB2 : w.heap.size < w2.heap.size := Nat.lt_of_lt_of_le hBw hb2.size
          have hc2 : ∀ i, i < 1 → w2.cell? ⟨w.heap.size, q + i, none⟩ = some (.int .u8 (ys.getD i 0)) := fun i hi => (hb2.cell (by exact hBw)).trans (hcw i hi)
          have hs := same_any w.heap.size q (1) w.heap.size q (1) (0) ys w2 (by omega) (fun i hi => hc2 i (by omega)) (fun i hi => hc2 i (by omega))
          clear hz hcw
          go_wp2_with (go_at_call 14; refine hs.mono ?_; rintro en w3 ⟨rfl, hb3⟩)
          have hB3 : w.heap.size < w3.heap.size := Nat.lt_of_lt_of_le hB2 hb3.size
          have hc3 : ∀ i, i < 1 → w3.cell? ⟨w.heap.size, q + i, none⟩ = some (.int .u8 (ys.getD i 0)) := fun i hi => (hb3.cell (by exact hB2)).trans (hc2 i hi)
          have hcn := count_any w.heap.size q (0) (1) ys w3 (by omega) (fun i hi => hc3 i (by omega))
          rw [Pl.cnt_none ys (0) (fun i hi => HC.out i (by omega))] at hcn
          have k10 : w3.cell? ⟨w.heap.size, q, none⟩ = some (.int .u8 10) := by have h := hc3 0 (by omega); rw [Nat.add_zero, H10.out] at h; exact h
          have hs2 := same_empty (some ⟨w.heap.size, q, none⟩) (some ⟨w.heap.size, q, none⟩) 0 0 w3
          clear hs hc2 hc3
          go_wp2_with (go_at_call 15; refine hcn.mono ?_; rintro en w' ⟨rfl, hw⟩; have hw2 := hw.symm; subst hw2; clear hw)
          go_wp2_with (go_at_call 14; refine hs2.mono ?_; rintro en w' ⟨rfl, hw⟩; have hw2 := hw.symm; subst hw2; clear hw)
          go_roundw
          case rel => exact ⟨p + (0 + 1), q, 0, k + 1, wrap64 (l + 1), rfl, rfl, by go_num, by omega, pw (by have := Hpm.out; omega), pw (fun h => absurd h (by omega)), hbel.trans ((hb2.mono hbel.size).trans (hb3.mono (Nat.le_trans hbel.size hb2.size)))⟩
          case measure => simp [intOf]; omega
        | succ e =>
          by_cases h13 : ys.getD e 0 = 13
          · have hz := next_cr_last w.heap.size q e l ys wr (by omega) hBw hyl hcw hyr h10 hbef h13
            have H10 : Hid (ys.getD (e + 1) 0 = 10) := h10
            have H13 : Hid (ys.getD e 0 = 13) := h13
            clear hbef h10 hyr hyl h13
            have t1 : ((e : Int) + 1 + 1 != (e : Int) + 1) = true := by rw [bne_iff_ne]; omega
            have t2 : ((e : Int) + 1 + 1 != (e : Int) + 2) = false := by rw [bne_eq_false_iff_eq]; omega
            have t4 : ((e : Int) + 1 + 1 == (e : Int) + 2) = true := by rw [beq_iff_eq]; omega
            have t5 : ((e : Int) + 1 + 1 == (e : Int) + 1) = false := by rw [beq_eq_false_iff_ne]; omega
            have t3 : (wrap64 (l + 1) != wrap64 (l + 1)) = false := by simp
            go_wp2_with (go_at_call 13; refine hz.mono ?_; rintro en w2 ⟨rfl, hb2⟩)
            have hB2 : w.heap.size < w2.heap.size := Nat.lt_of_lt_of_le hBw hb2.size
            have hc2 : ∀ i, i < e + 1 + 1 → w2.cell? ⟨w.heap.size, q + i, none⟩ = some (.int .u8 (ys.getD i 0)) := fun i hi => (hb2.cell (by exact hBw)).trans (hcw i hi)
            have hs := same_any w.heap.size q (e + 1 + 1) w.heap.size q (e + 1 + 1) (e) ys w2 (by omega) (fun i hi => hc2 i (by omega)) (fun i hi => hc2 i (by omega))
            clear hz hcw
            go_wp2_with (go_at_call 14; refine hs.mono ?_; rintro en w3 ⟨rfl, hb3⟩)
            have hB3 : w.heap.size < w3.heap.size := Nat.lt_of_lt_of_le hB2 hb3.size
            have hc3 : ∀ i, i < e + 1 + 1 → w3.cell? ⟨w.heap.size, q + i, none⟩ = some (.int .u8 (ys.getD i 0)) := fun i hi => (hb3.cell (by exact hB2)).trans (hc2 i hi)
            have hcn := count_any w.heap.size q (e) (e + 1 + 1) ys w3 (by omega) (fun i hi => hc3 i (by omega))
            rw [Pl.cnt_none ys (e) (fun i hi => HC.out i (by omega))] at hcn
            have k10 : w3.cell? ⟨w.heap.size, q + (e + 1), none⟩ = some (.int .u8 10) := by rw [hc3 (e + 1) (by omega), H10.out]
            have k13 : w3.cell? ⟨w.heap.size, q + e, none⟩ = some (.int .u8 13) := by rw [hc3 e (by omega), H13.out]
            have hs2 := same_empty (some ⟨w.heap.size, q, none⟩) (some ⟨w.heap.size, q, none⟩) 0 0 w3
            clear hs hc2 hc3
            go_wp2_with (go_at_call 15; refine hcn.mono ?_; rintro en w' ⟨rfl, hw⟩; have hw2 := hw.symm; subst hw2; clear hw)
            go_wp2_with (go_at_call 14; refine hs2.mono ?_; rintro en w' ⟨rfl, hw⟩; have hw2 := hw.symm; subst hw2; clear hw)
            go_roundw
            case rel => exact ⟨p + (e + 1 + 1), q, 0, k + 1, wrap64 (l + 1), rfl, rfl, by go_num, by omega, pw (by have := Hpm.out; omega), pw (fun h => absurd h (by omega)), hbel.trans ((hb2.mono hbel.size).trans (hb3.mono (Nat.le_trans hbel.size hb2.size)))⟩
            case measure => simp [intOf]; omega
          · have hz := next_lf_last w.heap.size q e l ys wr (by omega) hBw hyl hcw hyr h10 hbef h13
            have H10 : Hid (ys.getD (e + 1) 0 = 10) := h10
            have H13 : Hid (ys.getD e 0 ≠ 13) := h13
            clear hbef h10 hyr hyl h13
            have t1 : ((e : Int) + 1 + 1 != (e : Int) + 1 + 1) = false := by rw [bne_eq_false_iff_eq]
            have t4 : ((e : Int) + 1 + 1 == (e : Int) + 1 + 2) = false := by rw [beq_eq_false_iff_ne]; omega
            have t5 : ((e : Int) + 1 + 1 == (e : Int) + 1 + 1) = true := by rw [beq_iff_eq]
            have t3 : (wrap64 (l + 1) != wrap64 (l + 1)) = false := by simp
            go_wp2_with (go_at_call 13; refine hz.mono ?_; rintro en w2 ⟨rfl, hb2⟩)
            have hB2 : w.heap.size < w2.heap.size := Nat.lt_of_lt_of_le hBw hb2.size
            have hc2 : ∀ i, i < e + 1 + 1 → w2.cell? ⟨w.heap.size, q + i, none⟩ = some (.int .u8 (ys.getD i 0)) := fun i hi => (hb2.cell (by exact hBw)).trans (hcw i hi)
            have hs := same_any w.heap.size q (e + 1 + 1) w.heap.size q (e + 1 + 1) (e + 1) ys w2 (by omega) (fun i hi => hc2 i (by omega)) (fun i hi => hc2 i (by omega))
            clear hz hcw
            go_wp2_with (go_at_call 14; refine hs.mono ?_; rintro en w3 ⟨rfl, hb3⟩)
            have hB3 : w.heap.size < w3.heap.size := Nat.lt_of_lt_of_le hB2 hb3.size
            have hc3 : ∀ i, i < e + 1 + 1 → w3.cell? ⟨w.heap.size, q + i, none⟩ = some (.int .u8 (ys.getD i 0)) := fun i hi => (hb3.cell (by exact hB2)).trans (hc2 i hi)
            have hcn := count_any w.heap.size q (e + 1) (e + 1 + 1) ys w3 (by omega) (fun i hi => hc3 i (by omega))
            rw [Pl.cnt_none ys (e + 1) (fun i hi => HC.out i (by omega))] at hcn
            have k10 : w3.cell? ⟨w.heap.size, q + (e + 1), none⟩ = some (.int .u8 10) := by rw [hc3 (e + 1) (by omega), H10.out]
            have k13 : w3.cell? ⟨w.heap.size, q + e, none⟩ = some (.int .u8 (ys.getD e 0)) := hc3 e (by omega)
            have t6 : (ys.getD e 0 == 13) = false := beq_eq_false_iff_ne.2 H13.out
            have hs2 := same_empty (some ⟨w.heap.size, q, none⟩) (some ⟨w.heap.size, q, none⟩) 0 0 w3
            clear hs hc2 hc3
            generalize ys.getD e 0 = z at *
            go_wp2_with (go_at_call 15; refine hcn.mono ?_; rintro en w' ⟨rfl, hw⟩; have hw2 := hw.symm; subst hw2; clear hw)
            go_wp2_with (go_at_call 14; refine hs2.mono ?_; rintro en w' ⟨rfl, hw⟩; have hw2 := hw.symm; subst hw2; clear hw)
            go_roundw
            case rel => exact ⟨p + (e + 1 + 1), q, 0, k + 1, wrap64 (l + 1), rfl, rfl, by go_num, by omega, pw (by have := Hpm.out; omega), pw (fun h => absurd h (by omega)), hbel.trans ((hb2.mono hbel.size).trans (hb3.mono (Nat.le_trans hbel.size hb2.size)))⟩
            case measure => simp [intOf]; omega

end Go.Proofs.Qxb6000381a
