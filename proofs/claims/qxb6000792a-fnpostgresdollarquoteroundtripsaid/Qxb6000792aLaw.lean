/-
  THE WALK OF 'FnPostgresDollarQuoteRoundTrip' (7).
-/
import Derived.Test.Qxb6000792aDol
import Derived.Test.Qxb6000792aPl
namespace Go.Proofs.Qxb6000792a
open Go.RowKit

/-- ZZPostgresDollar at a text that begins with a dollar, a tag, a dollar, the same opening standing first again L behind it. -/
theorem zz_text (X a o : ByteArray) (rl : List UInt8) (L : Nat) (m : Int) (w : World) (hs : X.size ≤ 16777216) (hL : L ≤ 16777216) (hm : w.cell? ⟨0, 0, none⟩ = some (.int .i64 m)) (hO : o.data.toList = 36 :: (a.data.toList ++ [36])) (hX : X.data.toList = o.data.toList ++ rl)
    (hnm : ∀ j (h : j < a.size), nmB (a[j].toNat : Int) = true) (hdg : ∀ h : 0 < a.size, ¬ ((48 : Int) ≤ (a[0].toNat : Int) ∧ (a[0].toNat : Int) ≤ 57)) (hix : Lib.index rl o.data.toList = (L : Int)) :
    Calls Try.prog 18 #[.string X, .int .i64 0] w fun e w' => e = .returned (.tuple #[.int .i64 1, .int .i64 ((a.size : Int) + 1 + 1 + (L : Int) + ((a.size : Int) + 1 + 1))]) ∧ Below w.heap.size w w' := by
  have hsz := Pl.x_size X a o rl hO hX
  have hend := Pl.x_end X a o rl hO hX (by omega)
  refine zz_any X a.size L m w hs hsz hL hm (fun j h h1 h2 => ?_) ?_ (by rw [hend]; rfl) (by rw [Pl.x_rest X a o rl hO hX, Pl.x_head X a o rl hO hX]; exact hix)
  · obtain ⟨i, rfl⟩ : ∃ i, j = i + 1 := ⟨j - 1, by omega⟩
    rw [Pl.x_tag X a o rl hO hX i (by omega) h]
    exact hnm i (by omega)
  · by_cases h0 : 0 < a.size
    · rw [show X[1] = a[0] from Pl.x_tag X a o rl hO hX 0 h0 (by omega)]
      exact hdg h0
    · have e : X[1] = 36 := by
        have h1 : a.size + 1 = 1 := by omega
        rw [← hend]
        congr 1
        omega
      rw [e]
      decide

set_option maxHeartbeats 1000000 in
theorem law_big (a b c : ByteArray) (w : World) (ha : a.size ≤ maxLen) (hb : b.size ≤ maxLen) (hc : c.size ≤ maxLen) (h : 1048576 < a.size + b.size + c.size) :
    Calls Try.prog 7 #[.string a, .string b, .string c] w fun e w' => e = .returned (.bool true) ∧ Below w.heap.size w w' := by
  have hbd := bound_no a b c w ha hb hc h
  go_enter Try.func7, Try.ntmps7
  go_wp2_with (go_at_call 23; refine hbd.mono ?_; rintro e w' ⟨rfl, hw⟩; have hw2 := hw.symm; subst hw2; clear hw)
  go_ret
  exact ⟨rfl, Below.refl _ _⟩

set_option maxHeartbeats 2000000 in
set_option maxRecDepth 100000 in
theorem law_any (a b c : ByteArray) (m : Int) (w : World) (h : a.size + b.size + c.size ≤ 1048576) (hm : w.cell? ⟨0, 0, none⟩ = some (.int .i64 m)) :
    Calls Try.prog 7 #[.string a, .string b, .string c] w fun e w' => e = .returned (.bool true) ∧ Below w.heap.size w w' := by
  have hbd := bound_yes a b c w h
  go_enter Try.func7, Try.ntmps7
  go_wp2_with (go_at_call 23; refine hbd.mono ?_; rintro e w' ⟨rfl, hw⟩; have hw2 := hw.symm; subst hw2; clear hw)
  clear hbd
  go_loop [7] (fun i => ∃ k : Nat, k ≤ a.size ∧ i = .int .i64 k ∧ Hid (∀ j (h : j < a.size), j < k → nmB (a[j].toNat : Int) = true)) (fun i => a.size - (intOf i).toNat)
  case atStart => exact ⟨0, Nat.zero_le _, rfl, fun j _ hj => by omega⟩
  case round =>
    obtain ⟨k, hk, rfl, HN⟩ := hrel
    by_cases hlt : k < a.size
    · have hnb := name_any (a[k].toNat : Int) w
      cases hv : nmB (a[k].toNat : Int) with
      | false =>
        rw [hv] at hnb
        clear hv
        go_wp2_with (go_at_call 19; refine hnb.mono ?_; rintro e w' ⟨rfl, hw⟩; have hw2 := hw.symm; subst hw2; clear hw)
        go_ret
        exact ⟨rfl, Below.refl _ _⟩
      | true =>
        have HK : Hid (∀ j (h : j < a.size), j < k + 1 → nmB (a[j].toNat : Int) = true) := fun j h hj => by
          by_cases e : j = k
          · subst e; exact hv
          · exact HN.out j h (by omega)
        rw [hv] at hnb
        clear hv
        go_wp2_with (go_at_call 19; refine hnb.mono ?_; rintro e w' ⟨rfl, hw⟩; have hw2 := hw.symm; subst hw2; clear hw)
        go_round
        case rel => exact ⟨k + 1, by omega, by go_num, HK⟩
        case measure => simp [intOf]; omega
    · have HA : Hid (∀ j (h : j < a.size), nmB (a[j].toNat : Int) = true) := fun j h => HN.out j h (by omega)
      clear HN
      by_cases h0 : 0 < a.size
      · have hdg := dig20 (a[0].toNat : Int) w
        by_cases hd : (48 : Int) ≤ (a[0].toNat : Int) ∧ (a[0].toNat : Int) ≤ 57
        · rw [decide_eq_true hd] at hdg
          clear hd
          go_wp2_with (go_at_call 20; refine hdg.mono ?_; rintro e w' ⟨rfl, hw⟩; have hw2 := hw.symm; subst hw2; clear hw)
          go_ret
          exact ⟨rfl, Below.refl _ _⟩
        · rw [decide_eq_false hd] at hdg
          have HD : Hid (¬ ((48 : Int) ≤ (a[0].toNat : Int) ∧ (a[0].toNat : Int) ≤ 57)) := hd
          clear hd
          go_wp2_with (go_at_call 20; refine hdg.mono ?_; rintro e w' ⟨rfl, hw⟩; have hw2 := hw.symm; subst hw2; clear hw)
          clear hdg
          generalize ho : ({ data := #[36] } ++ a ++ { data := #[36] } : ByteArray) = o
          have hO : o.data.toList = 36 :: (a.data.toList ++ [36]) := by rw [← ho]; simp [ByteArray.data_append]
          have hos := Pl.o_size o a hO
          generalize hr : b ++ o = r
          have hR : r.data.toList = b.data.toList ++ o.data.toList := by rw [← hr]; simp [ByteArray.data_append]
          have hrs : r.size = b.size + o.size := by rw [← hr]; simp [ByteArray.size_append]
          have hix := indexOf_any r o w (by omega) (by omega) (by omega)
          have HO := pw hO
          have HR := pw hR
          have HOS := pw hos
          have HRS := pw hrs
          have ho1 : o.size ≤ a.size + 2 := by omega
          have ho2 : a.size + 2 ≤ o.size := by omega
          have hr1 : r.size ≤ b.size + o.size := by omega
          have hr2 : b.size + o.size ≤ r.size := by omega
          clear ho hr hO hR hos hrs
          cases ht : (Lib.indexB r o != (b.size : Int)) with
          | true =>
            refine hix.mono ?_
            rintro e w' ⟨rfl, hw⟩
            have hw2 := hw.symm
            subst hw2
            clear hw
            generalize Lib.indexB r o = z at *
            go_wp2
            go_ret
            exact ⟨rfl, Below.refl _ _⟩
          | false =>
            have HI : Hid (Lib.index r.data.toList o.data.toList = (b.size : Int)) := bne_eq_false_iff_eq.1 ht
            refine hix.mono ?_
            clear hix
            rintro e w' ⟨rfl, hw⟩
            have hw2 := hw.symm
            subst hw2
            clear hw
            generalize Lib.indexB r o = z at *
            go_wp2_with fail
            have hz1 := zz_text (o ++ r) a o r.data.toList b.size m w (by simp [ByteArray.size_append]; omega) (by omega) hm HO.out (by simp [ByteArray.data_append]) HA.out (fun _ => HD.out) HI.out
            generalize hXe : (a.size : Int) + 1 + 1 + (b.size : Int) + ((a.size : Int) + 1 + 1) = X at hz1
            have t1 : (X != (o.size : Int) + (r.size : Int)) = false := by rw [bne_eq_false_iff_eq, ← hXe]; omega
            have t2 : (X == (o.size : Int) + (r.size : Int)) = true := by rw [beq_iff_eq, ← hXe]; omega
            have HXe := pw hXe
            clear hXe
            refine hz1.mono ?_
            clear hz1
            rintro e w1 ⟨rfl, hb1⟩
            go_wp2_with fail
            have hm1 : w1.cell? ⟨0, 0, none⟩ = some (.int .i64 m) := (hb1.cell (World.block_lt_of_cell? _ _ hm)).trans hm
            have hlen : b.size + o.data.toList.length = r.data.toList.length := by rw [← Lib.size_eq, ← Lib.size_eq]; omega
            have hz2 := zz_text (o ++ r ++ c) a o (r.data.toList ++ c.data.toList) b.size m w1 (by simp [ByteArray.size_append]; omega) (by omega) hm1 HO.out (by simp [ByteArray.data_append]) HA.out (fun _ => HD.out) (Pl.index_append _ _ _ _ HI.out hlen)
            rw [HXe.out] at hz2
            clear hlen hm1
            refine hz2.mono ?_
            clear hz2
            rintro e w2 ⟨rfl, hb2⟩
            go_wp2
            go_ret
            exact ⟨rfl, hb1.trans (hb2.mono hb1.size)⟩
      · go_wp2_with fail
        generalize ho : ({ data := #[36] } ++ a ++ { data := #[36] } : ByteArray) = o
        have hO : o.data.toList = 36 :: (a.data.toList ++ [36]) := by rw [← ho]; simp [ByteArray.data_append]
        have hos := Pl.o_size o a hO
        generalize hr : b ++ o = r
        have hR : r.data.toList = b.data.toList ++ o.data.toList := by rw [← hr]; simp [ByteArray.data_append]
        have hrs : r.size = b.size + o.size := by rw [← hr]; simp [ByteArray.size_append]
        have hix := indexOf_any r o w (by omega) (by omega) (by omega)
        have HO := pw hO
        have HR := pw hR
        have HOS := pw hos
        have HRS := pw hrs
        have ho1 : o.size ≤ a.size + 2 := by omega
        have ho2 : a.size + 2 ≤ o.size := by omega
        have hr1 : r.size ≤ b.size + o.size := by omega
        have hr2 : b.size + o.size ≤ r.size := by omega
        clear ho hr hO hR hos hrs
        cases ht : (Lib.indexB r o != (b.size : Int)) with
        | true =>
          refine hix.mono ?_
          rintro e w' ⟨rfl, hw⟩
          have hw2 := hw.symm
          subst hw2
          clear hw
          generalize Lib.indexB r o = z at *
          go_wp2
          go_ret
          exact ⟨rfl, Below.refl _ _⟩
        | false =>
          have HI : Hid (Lib.index r.data.toList o.data.toList = (b.size : Int)) := bne_eq_false_iff_eq.1 ht
          refine hix.mono ?_
          clear hix
          rintro e w' ⟨rfl, hw⟩
          have hw2 := hw.symm
          subst hw2
          clear hw
          generalize Lib.indexB r o = z at *
          go_wp2_with fail
          have hz1 := zz_text (o ++ r) a o r.data.toList b.size m w (by simp [ByteArray.size_append]; omega) (by omega) hm HO.out (by simp [ByteArray.data_append]) HA.out (fun h => absurd h h0) HI.out
          generalize hXe : (a.size : Int) + 1 + 1 + (b.size : Int) + ((a.size : Int) + 1 + 1) = X at hz1
          have t1 : (X != (o.size : Int) + (r.size : Int)) = false := by rw [bne_eq_false_iff_eq, ← hXe]; omega
          have t2 : (X == (o.size : Int) + (r.size : Int)) = true := by rw [beq_iff_eq, ← hXe]; omega
          have HXe := pw hXe
          clear hXe
          refine hz1.mono ?_
          clear hz1
          rintro e w1 ⟨rfl, hb1⟩
          go_wp2_with fail
          have hm1 : w1.cell? ⟨0, 0, none⟩ = some (.int .i64 m) := (hb1.cell (World.block_lt_of_cell? _ _ hm)).trans hm
          have hlen : b.size + o.data.toList.length = r.data.toList.length := by rw [← Lib.size_eq, ← Lib.size_eq]; omega
          have hz2 := zz_text (o ++ r ++ c) a o (r.data.toList ++ c.data.toList) b.size m w1 (by simp [ByteArray.size_append]; omega) (by omega) hm1 HO.out (by simp [ByteArray.data_append]) HA.out (fun h => absurd h h0) (Pl.index_append _ _ _ _ HI.out hlen)
          rw [HXe.out] at hz2
          clear hlen hm1
          refine hz2.mono ?_
          clear hz2
          rintro e w2 ⟨rfl, hb2⟩
          go_wp2
          go_ret
          exact ⟨rfl, hb1.trans (hb2.mono hb1.size)⟩

end Go.Proofs.Qxb6000792a
