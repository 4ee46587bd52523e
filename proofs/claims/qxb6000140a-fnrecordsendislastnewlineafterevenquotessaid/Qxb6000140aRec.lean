/-
  'recordsEnd' (function 40), 'reCopy' (29), the bound (28) by contracts.
-/
import Derived.Test.Qxb6000140aLib
import Derived.Below
namespace Go.Proofs.Qxb6000140a
open Go.RowKit

theorem new_cell (w : World) (v : Value) (t : TypeId) : (w.alloc (.cells #[v] t)).cell? ⟨w.heap.size, 0, none⟩ = some v := by
  rw [World.cell?_alloc_at] <;> rfl

theorem piece_getD (xs : List Int) (i m j : Nat) (hj : j < m) : ((xs.drop i).take m).getD j 0 = xs.getD (i + j) 0 := by
  simp [List.getD, hj, List.getElem?_drop]

set_option maxHeartbeats 1000000 in
set_option maxRecDepth 100000 in
theorem recordsEnd_any (b o n : Nat) (xs : List Int) (w : World) (hm : n ≤ 1048576) (hbb : b < w.heap.size) (hx : xs.length = n) (hc : ∀ i, i < n → w.cell? ⟨b, o + i, none⟩ = some (.int .u8 (xs.getD i 0))) (hr : ∀ x ∈ xs, 0 ≤ x ∧ x < 256) :
    Calls Try.prog 40 #[.slice (some ⟨b, o, none⟩) n n] w fun e w' => e = .returned (.int .i64 (Pl.endTo xs n)) ∧ Below w.heap.size w w' := by
  have hq0 := count_any b o n n w.heap.size 1 xs (w.alloc (.cells #[.int .u8 34] 5)) hx (fun i hi => by exact (World.cell?_alloc_lt _ _ _ hbb).trans (hc i hi)) hr (new_cell _ _ _)
  have hx' : Hid (xs.length = n) := hx
  have hcq : xs.count 34 = Pl.cq xs n := by unfold Pl.cq; rw [List.take_of_length_le (by omega)]
  rw [hcq] at hq0
  clear hcq hx
  go_enter Try.func40, Try.ntmps40
  go_wp2_with (go_at_call 42; refine hq0.mono ?_; rintro e w' ⟨rfl, rfl⟩)
  clear hq0
  go_loopw [3, 4, 5] (fun q e _ wr => ∃ k : Nat, k ≤ n ∧ e = .int .i64 k ∧ q = .int .i64 (Pl.cq xs k) ∧ Below w.heap.size w wr ∧ Hid (Pl.endTo xs n = Pl.endTo xs k)) (fun _ e _ _ => (intOf e).toNat)
  case atStart => exact ⟨n, Nat.le_refl _, rfl, rfl, (Below.refl _ _).alloc (Nat.le_refl _) _, rfl⟩
  case round =>
    obtain ⟨k, hk, rfl, rfl, hbel, hend⟩ := hrel
    have hcw : ∀ i, i < n → wr.cell? ⟨b, o + i, none⟩ = some (.int .u8 (xs.getD i 0)) := fun i hi => (hbel.cell (by exact hbb)).trans (hc i hi)
    have hbw : b < wr.heap.size := Nat.lt_of_lt_of_le hbb hbel.size
    have hl := last_any b o k n xs wr (by omega) (fun i hi => hcw i (by omega))
    by_cases hz : Pl.lastNl xs k < 0
    · have hfin := Pl.endTo_none xs k hz
      have HF : Hid (Pl.endTo xs n = 0) := hend.out.trans hfin
      clear hfin hend hcw hc
      generalize Pl.lastNl xs k = z at *
      go_wp2_with (go_at_call 43; refine hl.mono ?_; rintro e w' ⟨rfl, hw⟩; have hw2 := hw.symm; subst hw2; clear hw)
      go_ret
      exact ⟨by rw [HF.out]; rfl, hbel⟩
    · have hrg := Pl.lastNl_range xs k
      obtain ⟨i, hi⟩ : ∃ i : Nat, Pl.lastNl xs k = i := Int.eq_ofNat_of_zero_le (by omega)
      have hik : i < k := by omega
      have hlast := Pl.endTo_last xs k i hi
      rw [hi] at hl
      have HL : Hid (Pl.endTo xs k = if Pl.cq xs i % 2 = 0 then i + 1 else Pl.endTo xs i) := hlast
      have hp := Pl.cq_piece xs i k (by omega)
      have hq2 := count_any b (o + i) (k - i) (n - i) wr.heap.size 1 ((xs.drop i).take (k - i)) (wr.alloc (.cells #[.int .u8 34] 5)) (by have := hx'.out; simp; omega)
        (fun j hj => by rw [piece_getD xs i (k - i) j hj, Nat.add_assoc]; exact (World.cell?_alloc_lt _ _ _ hbw).trans (hcw (i + j) (by omega)))
        (fun x hx => hr x (List.mem_of_mem_drop (List.mem_of_mem_take hx))) (new_cell _ _ _)
      have hbel' : Below w.heap.size w (wr.alloc (.cells #[.int .u8 34] 5)) := hbel.alloc hbel.size _
      have hle := Pl.cq_le xs k
      clear hlast hi hz hrg hcw hc hr
      generalize ((xs.drop i).take (k - i)).count 34 = c at *
      generalize Pl.cq xs k = Q at *
      generalize hqq : Pl.cq xs i = q at *
      have Hqq : Hid (Pl.cq xs i = q) := hqq
      have Hp : Hid (Q = q + c) := hp
      have hcQ : c ≤ Q := by omega
      clear hqq hp
      by_cases hev : q % 2 = 0
      · have hb : (((Q : Int) - (c : Int)) % 2 == 0) = true := beq_iff_eq.2 (by have := Hp.out; omega)
        have HF : Hid (Pl.endTo xs n = i + 1) := by rw [hend.out, HL.out, if_pos hev]; rfl
        clear hend hev
        go_wp2_with (first | (go_at_call 43; refine hl.mono ?_; rintro e w' ⟨rfl, hw⟩; have hw2 := hw.symm; subst hw2; clear hw) | (go_at_call 42; refine hq2.mono ?_; rintro e w' ⟨rfl, hw⟩; have hw2 := hw.symm; subst hw2; clear hw))
        go_ret
        exact ⟨by rw [HF.out]; rfl, hbel'⟩
      · have hb : (((Q : Int) - (c : Int)) % 2 == 0) = false := beq_eq_false_iff_ne.2 (by have := Hp.out; omega)
        have HF : Hid (Pl.endTo xs n = Pl.endTo xs i) := by rw [hend.out, HL.out, if_neg hev]; rfl
        clear hend hev
        go_wp2_with (first | (go_at_call 43; refine hl.mono ?_; rintro e w' ⟨rfl, hw⟩; have hw2 := hw.symm; subst hw2; clear hw) | (go_at_call 42; refine hq2.mono ?_; rintro e w' ⟨rfl, hw⟩; have hw2 := hw.symm; subst hw2; clear hw))
        go_roundw
        case rel => exact ⟨i, by omega, rfl, by rw [Hqq.out]; have := Hp.out; go_num, hbel', HF⟩
        case measure => simp [intOf]; omega

set_option maxHeartbeats 1000000 in
set_option maxRecDepth 100000 in
theorem recordsEnd_nil (w : World) :
    Calls Try.prog 40 #[.slice none 0 0] w fun e w' => e = .returned (.int .i64 0) ∧ Below w.heap.size w w' := by
  have hq0 := count_nil w.heap.size 1 (w.alloc (.cells #[.int .u8 34] 5)) (new_cell _ _ _)
  have hl := last_nil (w.alloc (.cells #[.int .u8 34] 5))
  go_enter Try.func40, Try.ntmps40
  go_wp2_with (go_at_call 42; refine hq0.mono ?_; rintro e w' ⟨rfl, rfl⟩)
  refine wp_loop_rounds 1 ?_
  rw [rounds_succ]
  go_wp2_with (go_at_call 43; refine hl.mono ?_; rintro e w' ⟨rfl, rfl⟩)
  go_ret
  exact ⟨rfl, (Below.refl _ _).alloc (Nat.le_refl _) _⟩

set_option maxHeartbeats 1000000 in
theorem zzEnd_nil (w : World) :
    Calls Try.prog 30 #[.slice none 0 0] w fun e w' => e = .returned (.int .i64 0) ∧ Below w.heap.size w w' := by
  have h := recordsEnd_nil w
  go_enter Try.func30, Try.ntmps30
  go_wp2_with (go_at_call 40; refine h.mono ?_; rintro e w1 ⟨rfl, hb⟩)
  go_ret
  exact ⟨rfl, hb⟩

set_option maxHeartbeats 1000000 in
theorem zzEnd_any (b n : Nat) (xs : List Int) (w : World) (hm : n ≤ 1048576) (hbb : b < w.heap.size) (hx : xs.length = n) (hc : ∀ i, i < n → w.cell? ⟨b, i, none⟩ = some (.int .u8 (xs.getD i 0))) (hr : ∀ x ∈ xs, 0 ≤ x ∧ x < 256) :
    Calls Try.prog 30 #[.slice (some ⟨b, 0, none⟩) n n] w fun e w' => e = .returned (.int .i64 (Pl.endTo xs n)) ∧ Below w.heap.size w w' := by
  have h := recordsEnd_any b 0 n xs w hm hbb hx (fun i hi => by rw [Nat.zero_add]; exact hc i hi) hr
  clear hc hx hr
  go_enter Try.func30, Try.ntmps30
  go_wp2_with (go_at_call 40; refine h.mono ?_; rintro e w1 ⟨rfl, hb⟩)
  go_ret
  exact ⟨rfl, hb⟩

end Go.Proofs.Qxb6000140a
