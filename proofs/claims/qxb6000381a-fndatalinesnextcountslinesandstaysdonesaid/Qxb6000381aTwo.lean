/-
  THE WALK OF 'FnDataLinesNextCountsLinesAndStaysDone' (6).
-/
import Derived.Test.Qxb6000381aNext
namespace Go.Proofs.Qxb6000381a
open Go.RowKit

theorem wrap_self (l : Int) (h : (Lit.int .i64 l).wf = true) : wrap64 l = l := by
  have h1 : IntKind.i64.min = -9223372036854775808 := rfl
  have h2 : IntKind.i64.max = 9223372036854775807 := rfl
  simp only [Lit.wf, Bool.and_eq_true, decide_eq_true_eq] at h
  unfold wrap64
  omega

theorem wrap_step (a : Int) : wrap64 (wrap64 a + 1) = wrap64 (a + 1) := by
  unfold wrap64
  omega

/-- ZZDataLinesNext where a line feed stands in rest: whatever line it gives. -/
theorem next_hit (b o k r : Nat) (l : Int) (ys : List Int) (w : World) (hm : k + 1 + r ≤ 1048576) (hbb : b < w.heap.size) (hx : ys.length = k + 1 + r) (hc : ∀ i, i < k + 1 + r → w.cell? ⟨b, o + i, none⟩ = some (.int .u8 (ys.getD i 0))) (hr : ∀ x ∈ ys, 0 ≤ x ∧ x < 256)
    (h10 : ys.getD k 0 = 10) (hn : ∀ i, i < k → ys.getD i 0 ≠ 10) :
    Calls Try.prog 13 #[.slice (some ⟨b, o, none⟩) (k + 1 + r) (k + 1 + r), .int .i64 l] w fun e w' => ∃ v q, e = .returned (.tuple #[v, .bool true, .slice (some ⟨b, q, none⟩) r r, .int .i64 (wrap64 (l + 1))]) ∧ (0 < r → q = o + (k + 1)) ∧ Below w.heap.size w w' := by
  by_cases hr0 : 0 < r
  · cases k with
    | zero =>
      rw [Nat.zero_add] at *
      exact (next_no_more b o r l ys w hm hr0 hbb hx hc hr h10 hn).mono fun e w' h => ⟨_, _, h.1, fun _ => rfl, h.2⟩
    | succ k =>
      by_cases h13 : ys.getD k 0 = 13
      · exact (next_cr_more b o k r l ys w hm hr0 hbb hx hc hr h10 hn h13).mono fun e w' h => ⟨_, _, h.1, fun _ => rfl, h.2⟩
      · exact (next_lf_more b o k r l ys w hm hr0 hbb hx hc hr h10 hn h13).mono fun e w' h => ⟨_, _, h.1, fun _ => rfl, h.2⟩
  · obtain rfl : r = 0 := by omega
    rw [Nat.add_zero] at *
    cases k with
    | zero =>
      rw [Nat.zero_add] at *
      exact (next_no_last b o l ys w hbb hx hc hr h10 hn).mono fun e w' h => ⟨_, _, h.1, fun h => absurd h (by omega), h.2⟩
    | succ k =>
      by_cases h13 : ys.getD k 0 = 13
      · exact (next_cr_last b o k l ys w hm hbb hx hc hr h10 hn h13).mono fun e w' h => ⟨_, _, h.1, fun h => absurd h (by omega), h.2⟩
      · exact (next_lf_last b o k l ys w hm hbb hx hc hr h10 hn h13).mono fun e w' h => ⟨_, _, h.1, fun h => absurd h (by omega), h.2⟩

theorem pw2 {P : Prop} (h : P) : Hid P := h

theorem n22 (w : World) (a : Option Addr) (n c : Nat) : (binOp .neq 22 (.slice a n c) (.slice none 0 0)).run Try.prog w = .ok (.bool (!a.isNone)) w := run_neq_slice_nil w 22 5 a n c Try.underlying22

set_option maxHeartbeats 1000000 in
theorem two_big (a : Option Addr) (n c : Nat) (l : Int) (w : World) (h : 1048576 < n) :
    Calls Try.prog 6 #[.slice a n c, .int .i64 l] w fun e w' => e = .returned (.bool true) ∧ Below w.heap.size w w' := by
  have hb := bound16 a n c l w
  rw [decide_eq_false (by omega : ¬ n ≤ 1048576)] at hb
  go_enter Try.func6, Try.ntmps6
  go_wp2_with (go_at_call 16; refine hb.mono ?_; rintro e w' ⟨rfl, hw⟩; have hw2 := hw.symm; subst hw2; clear hw)
  go_ret
  exact ⟨rfl, Below.refl _ _⟩

set_option maxHeartbeats 1000000 in
set_option maxRecDepth 100000 in
theorem two_nil (l : Int) (w : World) (hl : (Lit.int .i64 l).wf = true) :
    Calls Try.prog 6 #[.slice none 0 0, .int .i64 l] w fun e w' => e = .returned (.bool true) ∧ Below w.heap.size w w' := by
  have hb := bound16 none 0 0 l w
  rw [decide_eq_true (by omega : 0 ≤ 1048576)] at hb
  have hcp := copy_nil w
  have hz := zznext_nil l w
  have q := fun (w : World) => n22 w none 0 0
  have hw0 := wrap_self l hl
  clear hl
  go_enter Try.func6, Try.ntmps6
  go_wp2_with (first | (go_at_call 16; refine hb.mono ?_; rintro e w' ⟨rfl, hw⟩; have hw2 := hw.symm; subst hw2; clear hw) | (go_at_call 8; refine hcp.mono ?_; rintro e w' ⟨rfl, hw⟩; have hw2 := hw.symm; subst hw2; clear hw))
  refine wp_loop_rounds 1 ?_
  rw [rounds_succ]
  go_wp2_with (go_at_call 13; refine hz.mono ?_; rintro e w1 ⟨rfl, hb1⟩)
  have hz2 := zznext_nil l w1
  clear hz
  go_wp2_with (go_at_call 13; refine hz2.mono ?_; rintro e w2 ⟨rfl, hb2⟩)
  have hs := same_empty none none 0 0 w2
  have hn := count_nil w2
  have ha := after_nil w2
  clear hz2
  go_wp2_with (first | (go_at_call 14; refine hs.mono ?_; rintro e w' ⟨rfl, hw⟩; have hw2 := hw.symm; subst hw2; clear hw) | (go_at_call 15; refine hn.mono ?_; rintro e w' ⟨rfl, hw⟩; have hw2 := hw.symm; subst hw2; clear hw) | (go_at_call 17; refine ha.mono ?_; rintro e w' ⟨rfl, hw⟩; have hw2 := hw.symm; subst hw2; clear hw))
  go_ret
  exact ⟨rfl, hb1.trans (hb2.mono hb1.size)⟩

set_option maxHeartbeats 4000000 in
set_option maxRecDepth 100000 in
theorem two_any (x : Addr) (n c : Nat) (l0 : Int) (xs : List Int) (w : World) (hm : n ≤ 1048576) (hx : xs.length = n) (hc : ∀ i, i < n → w.cell? (x.add i) = some (.int .u8 (xs.getD i 0))) (hr : ∀ x ∈ xs, 0 ≤ x ∧ x < 256) (hl : (Lit.int .i64 l0).wf = true) :
    Calls Try.prog 6 #[.slice (some x) n c, .int .i64 l0] w fun e w' => e = .returned (.bool true) ∧ Below w.heap.size w w' := by
  have hb := bound16 (some x) n c l0 w
  rw [decide_eq_true hm] at hb
  have hcp := copy_any x n c xs w hm hc
  have HX : Hid (xs.length = n) := hx
  have HW : Hid (wrap64 l0 = l0) := wrap_self l0 hl
  clear hc hx hl
  go_enter Try.func6, Try.ntmps6
  go_wp2_with (first | (go_at_call 16; refine hb.mono ?_; rintro e w' ⟨rfl, hw⟩; have hw2 := hw.symm; subst hw2; clear hw) | (go_at_call 8; refine hcp.mono ?_; rintro e w1 ⟨rfl, hb1, hs1, hc1⟩))
  clear hb hcp
  go_loopw [5, 6, 7, 8] (fun rs ln cn i wr => ∃ (p q m k d : Nat) (l : Int), rs = .slice (some ⟨w.heap.size, q, none⟩) m m ∧ ln = .int .i64 l ∧ cn = .int .i64 d ∧ i = .int .i64 k ∧ k ≤ p ∧ d ≤ p ∧ Hid (p + m = n) ∧ Hid (0 < m → q = p) ∧ Hid (Pl.cnt xs p = d) ∧ Hid (Pl.aft xs p = p) ∧ Hid (l = wrap64 (l0 + d)) ∧ Below w1.heap.size w1 wr) (fun _ _ _ i _ => n + 1 - (intOf i).toNat)
  case atStart => exact ⟨0, 0, n, 0, 0, l0, rfl, rfl, rfl, rfl, Nat.le_refl _, Nat.le_refl _, Nat.zero_add _, fun _ => rfl, rfl, rfl, pw2 (by rw [show l0 + ((0 : Nat) : Int) = l0 from by omega, HW.out]), Below.refl _ _⟩
  case round =>
    obtain ⟨p, q, m, k, d, l, rfl, rfl, rfl, rfl, hkp, hdp, Hpm, Hq, Hd, Ha, Hl, hbel⟩ := hrel
    have hBw : w.heap.size < wr.heap.size := Nat.lt_of_lt_of_le hs1 hbel.size
    have hcw : ∀ i, i < m → wr.cell? ⟨w.heap.size, q + i, none⟩ = some (.int .u8 ((xs.drop p).getD i 0)) := fun i hi => by
      have e1 := Hq.out (by omega)
      have e2 := Hpm.out
      subst e1
      rw [Pl.getD_drop, hbel.cell (by exact hs1)]
      exact hc1 (q + i) (by omega)
    have hyl : (xs.drop p).length = m := by have := HX.out; have := Hpm.out; simp; omega
    have hyr : ∀ x ∈ xs.drop p, 0 ≤ x ∧ x < 256 := fun x hx => hr x (List.mem_of_mem_drop hx)
    have hkn : k ≤ n := by have := Hpm.out; omega
    have hmn : m ≤ n := by have := Hpm.out; omega
    have hpn : p ≤ n := by have := Hpm.out; omega
    rcases Pl.first_nl (xs.drop p) m with hno | ⟨e, hem, h10, hbef⟩
    · have egap : ∀ i, i < m → xs.getD (p + i) 0 ≠ 10 := fun i hi => by rw [← Pl.getD_drop]; exact hno i hi
      have HCN : Hid (Pl.cnt xs (p + m) = d) := by rw [Pl.cnt_gap _ _ _ egap, Hd.out]; rfl
      have HAN : Hid (Pl.aft xs (p + m) = p) := by rw [Pl.aft_gap _ _ _ egap, Ha.out]; rfl
      obtain rfl : n = p + m := Hpm.out.symm
      clear egap
      by_cases hm0 : 0 < m
      · have hz := zznext_none w.heap.size q m l (xs.drop p) wr (fun _ => hBw) hyl hcw hyr hno
        have qn := fun (w : World) => n22 w none 0 0
        have t1 : (l != wrap64 (l0 + (d : Int))) = false := by rw [Hl.out]; simp
        go_wp2_with (go_at_call 13; refine hz.mono ?_; rintro en w2 ⟨rfl, hb2⟩)
        have hB2 : w.heap.size < w2.heap.size := Nat.lt_of_lt_of_le hBw hb2.size
        have hc2 : ∀ i, i < m → w2.cell? ⟨w.heap.size, q + i, none⟩ = some (.int .u8 ((xs.drop p).getD i 0)) := fun i hi => (hb2.cell (by exact hBw)).trans (hcw i hi)
        have hz2 := zznext_none w.heap.size q m l (xs.drop p) w2 (fun _ => hB2) hyl hc2 hyr hno
        clear hz
        go_wp2_with (go_at_call 13; refine hz2.mono ?_; rintro en w3 ⟨rfl, hb3⟩)
        have hB3 : w.heap.size < w3.heap.size := Nat.lt_of_lt_of_le hB2 hb3.size
        have hc3 : ∀ i, i < m → w3.cell? ⟨w.heap.size, q + i, none⟩ = some (.int .u8 ((xs.drop p).getD i 0)) := fun i hi => (hb3.cell (by exact hB2)).trans (hc2 i hi)
        have hs := same_any w.heap.size q m w.heap.size q m m (xs.drop p) w3 (by omega) hc3 hc3
        clear hz2 hcw hc2
        go_wp2_with (go_at_call 14; refine hs.mono ?_; rintro en w4 ⟨rfl, hb4⟩)
        have hB4 : w.heap.size < w4.heap.size := Nat.lt_of_lt_of_le hB3 hb4.size
        have hbel4 : Below w1.heap.size w1 w4 := hbel.trans ((hb2.mono hbel.size).trans ((hb3.mono (Nat.le_trans hbel.size hb2.size)).trans (hb4.mono (Nat.le_trans hbel.size (Nat.le_trans hb2.size hb3.size)))))
        have hx4 : ∀ i, i < p + m → w4.cell? ⟨w.heap.size, 0 + i, none⟩ = some (.int .u8 (xs.getD i 0)) := fun i hi => by rw [Nat.zero_add]; exact (hbel4.cell (by exact hs1)).trans (hc1 i hi)
        have hcn := count_any w.heap.size 0 (p + m) (p + m) xs w4 (by omega) hx4
        rw [HCN.out] at hcn
        clear hs
        go_wp2_with (go_at_call 15; refine hcn.mono ?_; rintro en w' ⟨rfl, hw⟩; have hw2 := hw.symm; subst hw2; clear hw)
        have hq4 := Hq.out hm0
        have hs2 := same_any w.heap.size q m w.heap.size p m m (xs.drop p) w4 (by omega) (fun i hi => (hb4.cell (by exact hB3)).trans (hc3 i hi)) (fun i hi => by have h := (hb4.cell (by exact hB3)).trans (hc3 i hi); rw [hq4] at h; exact h)
        clear hq4 hc3 hcn
        go_wp2_with (go_at_call 14; refine hs2.mono ?_; rintro en w5 ⟨rfl, hb5⟩)
        have haf := after_any w.heap.size 0 (p + m) (p + m) xs w5 (by omega) (fun i hi => (hb5.cell (by exact hB4)).trans (hx4 i hi))
        rw [HAN.out] at haf
        clear hs2 hx4
        go_wp2_with (go_at_call 17; refine haf.mono ?_; rintro en w' ⟨rfl, hw⟩; have hw2 := hw.symm; subst hw2; clear hw)
        go_ret
        exact ⟨rfl, hb1.trans ((hbel4.trans (hb5.mono (Nat.le_trans hbel4.size (Nat.le_refl _)))).mono (Nat.le_of_lt hs1))⟩
      · obtain rfl : m = 0 := by omega
        clear hm0
        rw [Nat.add_zero] at *
        have hz := zznext_none w.heap.size q 0 l (xs.drop p) wr (fun _ => hBw) hyl hcw hyr hno
        have qn := fun (w : World) => n22 w none 0 0
        have t1 : (l != wrap64 (l0 + (d : Int))) = false := by rw [Hl.out]; simp
        go_wp2_with (go_at_call 13; refine hz.mono ?_; rintro en w2 ⟨rfl, hb2⟩)
        have hB2 : w.heap.size < w2.heap.size := Nat.lt_of_lt_of_le hBw hb2.size
        have hc2 : ∀ i, i < 0 → w2.cell? ⟨w.heap.size, q + i, none⟩ = some (.int .u8 ((xs.drop p).getD i 0)) := fun i hi => (hb2.cell (by exact hBw)).trans (hcw i hi)
        have hz2 := zznext_none w.heap.size q 0 l (xs.drop p) w2 (fun _ => hB2) hyl hc2 hyr hno
        clear hz
        go_wp2_with (go_at_call 13; refine hz2.mono ?_; rintro en w3 ⟨rfl, hb3⟩)
        have hB3 : w.heap.size < w3.heap.size := Nat.lt_of_lt_of_le hB2 hb3.size
        have hc3 : ∀ i, i < 0 → w3.cell? ⟨w.heap.size, q + i, none⟩ = some (.int .u8 ((xs.drop p).getD i 0)) := fun i hi => (hb3.cell (by exact hB2)).trans (hc2 i hi)
        have hs := same_any w.heap.size q 0 w.heap.size q 0 0 (xs.drop p) w3 (by omega) hc3 hc3
        clear hz2 hcw hc2
        go_wp2_with (go_at_call 14; refine hs.mono ?_; rintro en w4 ⟨rfl, hb4⟩)
        have hB4 : w.heap.size < w4.heap.size := Nat.lt_of_lt_of_le hB3 hb4.size
        have hbel4 : Below w1.heap.size w1 w4 := hbel.trans ((hb2.mono hbel.size).trans ((hb3.mono (Nat.le_trans hbel.size hb2.size)).trans (hb4.mono (Nat.le_trans hbel.size (Nat.le_trans hb2.size hb3.size)))))
        have hx4 : ∀ i, i < p → w4.cell? ⟨w.heap.size, 0 + i, none⟩ = some (.int .u8 (xs.getD i 0)) := fun i hi => by rw [Nat.zero_add]; exact (hbel4.cell (by exact hs1)).trans (hc1 i hi)
        have hcn := count_any w.heap.size 0 (p) (p) xs w4 (by omega) hx4
        rw [HCN.out] at hcn
        clear hs
        go_wp2_with (go_at_call 15; refine hcn.mono ?_; rintro en w' ⟨rfl, hw⟩; have hw2 := hw.symm; subst hw2; clear hw)
        have hs2 := same_empty (some ⟨w.heap.size, q, none⟩) (some ⟨w.heap.size, 0, none⟩) 0 0 w4
        have haf := after_any w.heap.size 0 p p xs w4 (by omega) hx4
        rw [HAN.out] at haf
        clear hc3 hcn hx4
        go_wp2_with (first | (go_at_call 14; refine hs2.mono ?_; rintro en w' ⟨rfl, hw⟩; have hw2 := hw.symm; subst hw2; clear hw) | (go_at_call 17; refine haf.mono ?_; rintro en w' ⟨rfl, hw⟩; have hw2 := hw.symm; subst hw2; clear hw))
        go_ret
        exact ⟨rfl, hb1.trans (hbel4.mono (Nat.le_of_lt hs1))⟩
    · obtain ⟨r, rfl⟩ : ∃ r, m = e + 1 + r := ⟨m - (e + 1), by omega⟩
      have hz := next_hit w.heap.size q e r l (xs.drop p) wr (by omega) hBw hyl hcw hyr h10 hbef
      have e10 : xs.getD (p + e) 0 = 10 := by rw [← Pl.getD_drop]; exact h10
      have egap : ∀ i, i < e → xs.getD (p + i) 0 ≠ 10 := fun i hi => by rw [← Pl.getD_drop]; exact hbef i hi
      have Hd2 : Hid (Pl.cnt xs (p + (e + 1)) = d + 1) := by rw [← Nat.add_assoc, Pl.cnt_hit _ _ e10, Pl.cnt_gap _ _ _ egap, Hd.out]; rfl
      have Ha2 : Hid (Pl.aft xs (p + (e + 1)) = p + (e + 1)) := by rw [← Nat.add_assoc, Pl.aft_hit _ _ e10]; rfl
      have Hl2 : Hid (wrap64 (l + 1) = wrap64 (l0 + ((d + 1 : Nat) : Int))) := by
        show _ = _
        rw [Hl.out, wrap_step]
        congr 1
        omega
      clear hyl hcw hyr h10 hbef e10 egap
      go_wp2_with (go_at_call 13; refine hz.mono ?_; rintro en w2 ⟨v, q2, rfl, hq2, hb2⟩; have Hq2 := pw2 hq2; clear hq2)
      go_roundw
      case rel => exact ⟨p + (e + 1), q2, r, k + 1, d + 1, wrap64 (l + 1), rfl, rfl, by go_num, by go_num, by omega, by omega, pw2 (by have := Hpm.out; omega), pw2 (fun h => by have h1 := Hq2.out h; have h2 := Hq.out (by omega); omega), Hd2, Ha2, Hl2, hbel.trans (hb2.mono hbel.size)⟩
      case measure => simp [intOf]; omega

end Go.Proofs.Qxb6000381a
