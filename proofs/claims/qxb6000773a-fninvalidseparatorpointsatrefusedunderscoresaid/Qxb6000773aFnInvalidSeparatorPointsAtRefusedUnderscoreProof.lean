/-
  THE PROOF OF 'Rows.FnInvalidSeparatorPointsAtRefusedUnderscoreSaid' (function 6). The frame (from 'lifted' on) is the guide's own shell for this function; the walk and its callees' contracts are ours (Qxb6000773aLib, Qxb6000773aSep).
-/
import Derived.Test.Qxb6000773aRows
import Derived.Test.Qxb6000773aSep
import Derived.WalkKit
import Derived.ProofKit
import Derived.OpenShut
import Derived.ShutString
namespace Go.Proofs.Qxb6000773a.fnInvalidSeparatorPointsAtRefusedUnderscore
open Go.ChangeShapes Go.WideShapes Go.ChangeAt Go.RowKit
open Go.ChangeMaps (open_string shut_string)
set_option linter.unusedVariables false      -- a walk need not use every 'w<i>' (that an integer argument fits its kind)

theorem own : ownKnob Try.prog.godebug = none := by kernel_rfl

set_option maxHeartbeats 1000000 in
theorem zz_any (s : ByteArray) (w : World) (hs : s.size ≤ 65536) :
    Calls Try.prog 18 #[.string s] w fun e w' => ((e = .returned (.int .i64 (-1)) ∧ ∀ j, ¬ Bad s j) ∨ ∃ i : Nat, e = .returned (.int .i64 i) ∧ i < s.size ∧ bt s i = 95 ∧ ∀ j, j < i → ¬ Bad s j) ∧ Grown w w' := by
  have h := sep_any s w hs
  go_enter Try.func18, Try.ntmps18
  go_wp2_with fail
  refine h.mono ?_
  rintro e w1 ⟨h1 | ⟨i, rfl, h1, h2, h3⟩, hg⟩
  · obtain ⟨rfl, h1⟩ := h1
    have H1 : Hid (∀ j, ¬ Bad s j) := h1
    clear h1
    go_wp2
    go_ret
    exact ⟨.inl ⟨rfl, H1.out⟩, hg⟩
  · have H3 : Hid (∀ j, j < i → ¬ Bad s j) := h3
    have H2 : Hid (bt s i = 95) := h2
    clear h3 h2
    go_wp2
    go_ret
    exact ⟨.inr ⟨i, rfl, h1, H2.out, H3.out⟩, hg⟩

set_option maxHeartbeats 1000000 in
theorem law_big (s : ByteArray) (w : World) (h : 1048576 < s.size) :
    Calls Try.prog 6 #[.string s] w fun e w' => e = .returned (.bool true) ∧ Grown w w' := by
  have hb := bound_any s w
  rw [decide_eq_false (by omega : ¬ s.size ≤ 1048576)] at hb
  go_enter Try.func6, Try.ntmps6
  go_wp2_with (go_at_call 17; refine hb.mono ?_; rintro e w' ⟨rfl, hw⟩; have hw2 := hw.symm; subst hw2; clear hw)
  go_ret
  exact ⟨rfl, Grown.refl _⟩

set_option maxHeartbeats 1000000 in
theorem law_mid (s : ByteArray) (w : World) (h1 : s.size ≤ 1048576) (h : 65536 < s.size) :
    Calls Try.prog 6 #[.string s] w fun e w' => e = .returned (.bool true) ∧ Grown w w' := by
  have hb := bound_any s w
  rw [decide_eq_true h1] at hb
  go_enter Try.func6, Try.ntmps6
  go_wp2_with (go_at_call 17; refine hb.mono ?_; rintro e w' ⟨rfl, hw⟩; have hw2 := hw.symm; subst hw2; clear hw)
  go_ret
  exact ⟨rfl, Grown.refl _⟩

set_option maxHeartbeats 2000000 in
set_option maxRecDepth 100000 in
theorem law_any (s : ByteArray) (w : World) (hs : s.size ≤ 65536) :
    Calls Try.prog 6 #[.string s] w fun e w' => e = .returned (.bool true) ∧ Grown w w' := by
  have hb := bound_any s w
  rw [decide_eq_true (by omega : s.size ≤ 1048576)] at hb
  have hz := zz_any s w hs
  go_enter Try.func6, Try.ntmps6
  go_wp2_with (go_at_call 17; refine hb.mono ?_; rintro e w' ⟨rfl, hw⟩; have hw2 := hw.symm; subst hw2; clear hw)
  refine hz.mono ?_
  clear hb hz
  rintro e w1 ⟨hr, hg⟩
  have hf := first_any s w1 (by omega)
  have hh := has_any s w1 (by omega)
  rcases hr with ⟨rfl, hno⟩ | ⟨i, rfl, hi, h95, hbef⟩
  · -- accepted
    have HNO : Hid (∀ j, ¬ Bad s j) := hno
    clear hno
    go_wp2_with fail
    refine hf.mono ?_
    clear hf
    rintro e w2 ⟨hp, hw⟩
    have hw2 := hw.symm
    subst hw2
    clear hw
    rcases hp with ⟨rfl, hnb⟩ | ⟨p, rfl, hp⟩
    · clear hnb
      go_wp2_with fail
      refine hh.mono ?_
      rintro e w2 ⟨hp, hw⟩
      have hw2 := hw.symm
      subst hw2
      clear hw
      rcases hp with rfl | ⟨rfl, hp⟩
      · go_wp2
        go_ret
        exact ⟨rfl, hg⟩
      · clear hp
        go_wp2
        go_ret
        exact ⟨rfl, hg⟩
    · exact absurd hp (HNO.out p)
  · -- refused at i
    have HB : Hid (∀ j, j < i → ¬ Bad s j) := hbef
    have H95 : Hid (bt s i = 95) := h95
    have hb : ((s[i].toNat : Int) != 95) = false := by rw [bt_eq s i hi, h95]; rfl
    have hi1 : ((i : Int) != -1) = true := by rw [bne_iff_ne]; omega
    clear hbef h95
    go_wp2_with fail
    refine hf.mono ?_
    clear hf
    rintro e w2 ⟨hp, hw⟩
    have hw2 := hw.symm
    subst hw2
    clear hw
    rcases hp with ⟨rfl, hnb⟩ | ⟨p, rfl, hp⟩
    · clear hnb
      go_wp2_with fail
      refine hh.mono ?_
      rintro e w2 ⟨hp, hw⟩
      have hw2 := hw.symm
      subst hw2
      clear hw
      rcases hp with rfl | ⟨rfl, hp⟩
      · go_wp2
        go_ret
        exact ⟨rfl, hg⟩
      · exact absurd ((bt_eq s i hi).trans H95.out) (hp i hi)
    · have hip : i ≤ p := by
        by_cases h : p < i
        · exact absurd hp (HB.out p h)
        · omega
      clear hp
      go_wp2
      go_ret
      exact ⟨by simp, hg⟩

/-! ### The walk -/
theorem walk (a0 : ByteArray) (w0 : a0.size ≤ maxLen) (w : World) :
    Calls Try.prog 6 #[.string a0] w fun e w' => e = .returned (.bool true) ∧ Grown w w' := by
  by_cases hbig : a0.size ≤ 1048576
  · by_cases hmid : a0.size ≤ 65536
    · exact law_any a0 w hmid
    · exact law_mid a0 w hbig (by omega)
  · exact law_big a0 w (by omega)

/-! ### The row -/
set_option maxRecDepth 100000 in
theorem lifted (os : Os) (started : os.Started) (H : Type) (enc : TypeId × Value → H) :
    ReturnsInHanded {} Try.checked os 6 .any (Rows.fnInvalidSeparatorPointsAtRefusedUnderscoreSpec.pre6 enc Try.prog Try.f6 Rows.fnInvalidSeparatorPointsAtRefusedUnderscoreRow.domain false) (Rows.fnInvalidSeparatorPointsAtRefusedUnderscoreSpec.post enc Try.prog Try.f6 false true false false) := by
  refine returnsInHanded_of_change (C := Try.checked) own started (by kernel_rfl) Try.func6
    (ChangeSpec.witness6 (enc := enc) (C := Try.checked) false ⟨#[], #[.string ByteArray.empty], []⟩ 8 (by kernel_rfl) (by kernel_rfl) (by kernel_rfl) (by kernel_rfl)) ?_
  intro W base args ds gs before hval0 hW hcnd _
  have hval : ∀ (j : Nat) t v, Try.f6.params[j]? = some t → args[j]? = some v → Value.okWide Try.prog W .any base t v := hval0
  have hW' := hW
  obtain ⟨p, q, hA0, hV, rfl, hfz, hnd⟩ := hW
  have hA : DataW.TrodAll enc Try.prog W 0 (fun _ => true) true Try.f6.params.toList args.toList ds p := hA0
  rw [Try.params6] at hA hval
  obtain ⟨v0, vs0, d0, ds0, p0, q0, hargs, rfl, rfl, h0, r0⟩ := trodAll_cons hA
  obtain ⟨rfl, rfl, rfl⟩ := trodAll_nil r0
  obtain rfl : args = #[v0] := by cases args; simp_all
  obtain ⟨rfl, rfl⟩ := trodVars_none hV
  obtain ⟨a0, rfl, rfl, rfl, w0⟩ := open_string Try.underlying9 (hval 0 9 v0 rfl rfl) h0
  clear hA0 hval0
  simp only [List.append_nil] at hW'
  refine (walk a0 w0 W).mono fun e W' ⟨he, hg⟩ => ?_
  subst he
  exact ⟨_, rfl, post_of_same (pa := []) (pv := []) hW' (fun _ _ _ => (trodAll_cons_mk (shut_bool Try.underlying4 _) trodAll_mk0)) (fun sp _ => (trodAll_cons_mk (shut_string Try.underlying9 w0) trodAll_mk0)) (fun _ _ => rfl) rfl
    (hg.frame _) hg.2.1 (ok_one (by kernel_rfl) rfl (okWide_bool_mk Try.underlying4 _))⟩

theorem over : Rows.fnInvalidSeparatorPointsAtRefusedUnderscoreRow.holds Try.pinned (OpenSpec.ofChange Rows.fnInvalidSeparatorPointsAtRefusedUnderscoreSpec) :=
  OpenClaim.holds_of_wide 6 Try.f6 rfl rfl rfl rfl rfl rfl rfl ⟨rfl, rfl, rfl, rfl, rfl⟩ rfl rfl rfl rfl rfl (by kernel_rfl) Try.func6 (by kernel_rfl)
    (of_decide_eq_true (by kernel_rfl)) (by unfold Func.isWrapper; first | (rw [if_pos (by decide +kernel)]; kernel_rfl) | (rw [if_neg (by decide +kernel)]; exact ⟨rfl, rfl⟩))
    (fun os started H enc _ => lifted os started H enc)

/-- The statement. -/
theorem proved : Rows.FnInvalidSeparatorPointsAtRefusedUnderscoreSaid :=
  over
end Go.Proofs.Qxb6000773a.fnInvalidSeparatorPointsAtRefusedUnderscore
