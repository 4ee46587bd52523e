/-
  'delimitedToken' (34), 'postgresDollar' (26), 'ZZPostgresDollar' (18) by contracts, at a text that begins with a dollar tag.
-/
import Derived.Test.Qxb6000792aLib
import Derived.Test.Qxb6000792aShelf
import Derived.Deep.QuietTactic
import Derived.BigQuiet
namespace Go.Proofs.Qxb6000792a
open Go.RowKit

theorem pw {P : Prop} (h : P) : Hid P := h
theorem below_drewN (w : World) (B q : Nat) : Below B w (w.drewN q) := ⟨rfl, rfl, rfl, Nat.le_refl _, fun _ _ => rfl⟩

set_option maxHeartbeats 1000000 in
set_option maxRecDepth 100000 in
/-- delimitedToken(text, 0, a, close, quoted), the first 'close' behind a at a + L. -/
theorem delim_any (T cl : ByteArray) (a L : Nat) (m : Int) (w : World) (hT : T.size ≤ 16777216) (ha : a ≤ T.size) (hL : L ≤ 16777216) (hcl : cl.size ≤ 16777216) (hm : w.cell? ⟨0, 0, none⟩ = some (.int .i64 m))
    (hidx : Lib.index (T.extract a T.size).data.toList cl.data.toList = (L : Int)) :
    Calls Try.prog 34 #[.string T, .int .i64 0, .int .i64 (a : Int), .string cl, .int .i64 1] w fun e w' => e = .returned (.agg #[.int .i64 1, .int .i64 ((a : Int) + (L : Int) + (cl.size : Int))]) ∧ w' = w.alloc (.cells #[.int .i64 1, .int .i64 ((a : Int) + (L : Int) + (cl.size : Int))] 41) := by
  have h39 := Sh.strings_Index (T.extract a T.size) cl m (w.alloc (.cells #[.int .i64 0, .int .i64 0] 41)) (by simp [ByteArray.size_extract]; omega) ((World.cell?_alloc_lt _ _ _ (World.block_lt_of_cell? _ _ hm)).trans hm)
  rw [hidx] at h39
  clear hidx hm
  go_enter Try.func34, Try.ntmps34
  go_wp2_with (go_at_call 39; refine h39.mono ?_; rintro e w' ⟨rfl, hw⟩; have hw2 := hw.symm; subst hw2; clear hw)
  exact bodyPost_ret (v := .agg #[.int .i64 1, .int .i64 ((a : Int) + (L : Int) + (cl.size : Int))]) (by simp [results, Try.results34, go_sem]) rfl ⟨rfl, rfl⟩

set_option maxHeartbeats 2000000 in
set_option maxRecDepth 100000 in
/-- postgresDollar(T, 0) where T begins with a dollar, t bytes of a tag, a dollar, and the tag's first byte is no digit; the same opening first stands again L behind it. -/
theorem dollar_any (T : ByteArray) (t L : Nat) (m : Int) (w : World) (hT : T.size ≤ 16777216) (ht : t + 1 + 1 ≤ T.size) (hL : L ≤ 16777216) (hm : w.cell? ⟨0, 0, none⟩ = some (.int .i64 m))
    (hn : ∀ j (h : j < T.size), 1 ≤ j → j ≤ t → nmB (T[j].toNat : Int) = true) (hd1 : ¬ ((48 : Int) ≤ (T[1].toNat : Int) ∧ (T[1].toNat : Int) ≤ 57)) (he : T[t + 1].toNat = 36)
    (hidx : Lib.index (T.extract (t + 1 + 1) T.size).data.toList (T.extract 0 (t + 1 + 1)).data.toList = (L : Int)) :
    Calls Try.prog 26 #[.string T, .int .i64 0] w fun e w' => e = .returned (.agg #[.int .i64 1, .int .i64 ((t : Int) + 1 + 1 + (L : Int) + ((t : Int) + 1 + 1))]) ∧ Below w.heap.size w w' := by
  have hm1 : (w.alloc (.cells #[.int .i64 0, .int .i64 0] 41)).cell? ⟨0, 0, none⟩ = some (.int .i64 m) := (World.cell?_alloc_lt _ _ _ (World.block_lt_of_cell? _ _ hm)).trans hm
  have hsz : (T.extract 0 (t + 1 + 1)).size = t + 1 + 1 := by simp [ByteArray.size_extract]; omega
  have hdl := delim_any T (T.extract 0 (t + 1 + 1)) (t + 1 + 1) L m (w.alloc (.cells #[.int .i64 0, .int .i64 0] 41)) hT ht hL (by omega) hm1 hidx
  rw [hsz, show ((t + 1 + 1 : Nat) : Int) = (t : Int) + 1 + 1 from by omega] at hdl
  generalize (t : Int) + 1 + 1 + (L : Int) + ((t : Int) + 1 + 1) = X at hdl ⊢
  clear hsz
  have hdig := dig32 (T[1].toNat : Int) (w.alloc (.cells #[.int .i64 0, .int .i64 0] 41))
  rw [decide_eq_false hd1] at hdig
  clear hd1 hidx hm hm1
  go_enter Try.func26, Try.ntmps26
  go_wp2
  refine wp_loop_rounds 1 ?_
  rw [rounds_succ]
  go_wp2_with (go_at_call 32; refine hdig.mono ?_; rintro e w' ⟨rfl, hw⟩; have hw2 := hw.symm; subst hw2; clear hw)
  clear hdig
  go_loop [5] (fun j => ∃ k : Nat, 1 ≤ k ∧ k ≤ t + 1 ∧ j = .int .i64 k) (fun j => t + 2 - (intOf j).toNat)
  case atStart => exact ⟨1, by omega, by omega, rfl⟩
  case round =>
    obtain ⟨k, hk1, hk2, rfl⟩ := hrel
    have hkT : k < T.size := by omega
    by_cases hlt : k ≤ t
    · have hb := hn k hkT hk1 hlt
      have hp := pname_yes T[k].toNat T[k].toNat_lt hb (w.alloc (.cells #[.int .i64 0, .int .i64 0] 41))
      have h36 : ((T[k].toNat : Int) != 36) = true := by
        rw [bne_iff_ne]; intro c; rw [c] at hb; exact absurd hb (by decide)
      clear hb hn hdl
      go_wp2_with (go_at_call 33; refine hp.mono ?_; rintro e w' ⟨rfl, hw⟩; have hw2 := hw.symm; subst hw2; clear hw)
      go_round
      case rel => exact ⟨k + 1, by omega, by omega, by go_num⟩
      case measure => simp [intOf]; omega
    · obtain rfl : k = t + 1 := by omega
      have h36 : ((T[t + 1].toNat : Int) != 36) = false := by rw [he]; rfl
      clear hn he
      go_wp2_with (go_at_call 34; refine hdl.mono ?_; rintro e w' ⟨rfl, hw⟩; subst hw)
      exact bodyPost_ret (v := .agg #[.int .i64 1, .int .i64 X]) (by simp [results, Try.results26, go_sem]) rfl ⟨rfl, ((Below.refl _ _).alloc (Nat.le_refl _) _).alloc (by simp) _⟩

set_option maxHeartbeats 2000000 in
set_option maxRecDepth 100000 in
/-- ZZPostgresDollar(T, 0) at the same texts. -/
theorem zz_any (T : ByteArray) (t L : Nat) (m : Int) (w : World) (hT : T.size ≤ 16777216) (ht : t + 1 + 1 ≤ T.size) (hL : L ≤ 16777216) (hm : w.cell? ⟨0, 0, none⟩ = some (.int .i64 m))
    (hn : ∀ j (h : j < T.size), 1 ≤ j → j ≤ t → nmB (T[j].toNat : Int) = true) (hd1 : ¬ ((48 : Int) ≤ (T[1].toNat : Int) ∧ (T[1].toNat : Int) ≤ 57)) (he : T[t + 1].toNat = 36)
    (hidx : Lib.index (T.extract (t + 1 + 1) T.size).data.toList (T.extract 0 (t + 1 + 1)).data.toList = (L : Int)) :
    Calls Try.prog 18 #[.string T, .int .i64 0] w fun e w' => e = .returned (.tuple #[.int .i64 1, .int .i64 ((t : Int) + 1 + 1 + (L : Int) + ((t : Int) + 1 + 1))]) ∧ Below w.heap.size w w' := by
  have h := dollar_any T t L m w hT ht hL hm hn hd1 he hidx
  clear hn hd1 he hidx hm
  generalize (t : Int) + 1 + 1 + (L : Int) + ((t : Int) + 1 + 1) = X at h ⊢
  go_enter Try.func18, Try.ntmps18
  go_wp2_with (go_at_call 26; refine h.mono ?_; rintro e w1 ⟨rfl, hb⟩)
  go_quiet (fail)
  go_wp2
  go_ret2
  exact ⟨rfl, (hb.alloc hb.size _).trans (below_drewN _ _ _)⟩

end Go.Proofs.Qxb6000792a
