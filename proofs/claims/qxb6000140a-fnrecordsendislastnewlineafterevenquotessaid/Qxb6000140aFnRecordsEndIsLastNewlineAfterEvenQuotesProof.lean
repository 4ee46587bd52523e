/-
  THE PROOF OF 'Rows.FnRecordsEndIsLastNewlineAfterEvenQuotesSaid' (function 6). The frame (from 'lifted' on) is the guide's own shell for this function; the walk and its callees' contracts are ours (Qxb6000140aPl: the plain law; Qxb6000140aLib: bytes.Count, bytes.LastIndexByte; Qxb6000140aRec: recordsEnd; Qxb6000140aCopy: reCopy and the bound).
-/
import Derived.Test.Qxb6000140aRows
import Derived.Test.Qxb6000140aRec
import Derived.Test.Qxb6000140aCopy
import Derived.WalkKit
import Derived.ProofKit
import Derived.OpenShut
import Derived.ShutString
import Derived.ChangeOld
import Derived.Below
namespace Go.Proofs.Qxb6000140a.fnRecordsEndIsLastNewlineAfterEvenQuotes
open Go.ChangeShapes Go.WideShapes Go.ChangeAt Go.RowKit
open Go.ChangeMaps (open_string shut_string)
set_option linter.unusedVariables false

theorem own : ownKnob Try.prog.godebug = none := by kernel_rfl
theorem laidOut : laidOutB Try.prog = true := by kernel_rfl

/-- WHAT THE WALK IS TOLD OF A SLICE OF INTEGERS THAT CAME IN: it is nil; or it leads to a row of 'cap' cells, the numbers 'zs' (the first 'len' are its elements, the rest its spare room), each fitting its kind. -/
def IsRow (k : IntKind) (w : World) (a : Option Addr) (len cap : Nat) (zs : List Int) : Prop :=
  (a = none ∧ len = 0 ∧ cap = 0 ∧ zs = []) ∨
  ∃ x, a = some x ∧ len ≤ cap ∧ cap ≤ maxLen ∧ zs.length = cap ∧ (∀ i, i < zs.length → w.cell? (x.add i) = some (.int k (zs.getD i 0))) ∧ ∀ n ∈ zs, (Lit.int k n).wf = true

theorem byte_range (n : Int) (h : (Lit.int .u8 n).wf = true) : 0 ≤ n ∧ n < 256 := by
  have h1 : IntKind.u8.min = 0 := rfl
  have h2 : IntKind.u8.max = 255 := rfl
  simp only [Lit.wf, Bool.and_eq_true, decide_eq_true_eq] at h
  omega

set_option maxHeartbeats 1000000 in
theorem law_big (a : Option Addr) (n c : Nat) (w : World) (h : 1048576 < n) :
    Calls Try.prog 6 #[.slice a n c] w fun e w' => e = .returned (.bool true) ∧ Below w.heap.size w w' := by
  have hb := bound_any a n c w
  rw [decide_eq_false (by omega : ¬ n ≤ 1048576)] at hb
  go_enter Try.func6, Try.ntmps6
  go_wp2_with (go_at_call 28; refine hb.mono ?_; rintro e w' ⟨rfl, hw⟩; have hw2 := hw.symm; subst hw2; clear hw)
  go_ret
  exact ⟨rfl, Below.refl _ _⟩

set_option maxHeartbeats 1000000 in
set_option maxRecDepth 100000 in
theorem law_nil (w : World) :
    Calls Try.prog 6 #[.slice none 0 0] w fun e w' => e = .returned (.bool true) ∧ Below w.heap.size w w' := by
  have hb := bound_any none 0 0 w
  rw [decide_eq_true (by omega : 0 ≤ 1048576)] at hb
  have hcp := copy_nil w
  have hz := zzEnd_nil w
  go_enter Try.func6, Try.ntmps6
  go_wp2_with (first | (go_at_call 28; refine hb.mono ?_; rintro e w' ⟨rfl, hw⟩; have hw2 := hw.symm; subst hw2; clear hw) | (go_at_call 29; refine hcp.mono ?_; rintro e w' ⟨rfl, hw⟩; have hw2 := hw.symm; subst hw2; clear hw) | (go_at_call 30; refine hz.mono ?_; rintro e w1 ⟨rfl, hbel⟩))
  refine wp_loop_rounds 1 ?_
  rw [rounds_succ]
  go_wp2
  go_ret
  exact ⟨rfl, hbel⟩

set_option maxHeartbeats 2000000 in
set_option maxRecDepth 100000 in
theorem law_any (x : Addr) (n c : Nat) (xs : List Int) (w : World) (hm : n ≤ 1048576) (hx : xs.length = n) (hc : ∀ i, i < n → w.cell? (x.add i) = some (.int .u8 (xs.getD i 0))) (hr : ∀ x ∈ xs, 0 ≤ x ∧ x < 256) :
    Calls Try.prog 6 #[.slice (some x) n c] w fun e w' => e = .returned (.bool true) ∧ Below w.heap.size w w' := by
  have hb := bound_any (some x) n c w
  rw [decide_eq_true hm] at hb
  have hcp := copy_any x n c xs w hm hc
  have HX : Hid (xs.length = n) := hx
  clear hc hx
  go_enter Try.func6, Try.ntmps6
  go_wp2_with (first | (go_at_call 28; refine hb.mono ?_; rintro e w' ⟨rfl, hw⟩; have hw2 := hw.symm; subst hw2; clear hw) | (go_at_call 29; refine hcp.mono ?_; rintro e w1 ⟨rfl, hb1, hs1, hc1⟩))
  have hz := zzEnd_any w.heap.size n xs w1 hm hs1 HX.out hc1 hr
  clear hb hcp hr
  go_wp2_with (go_at_call 30; refine hz.mono ?_; rintro e w2 ⟨rfl, hb2⟩)
  have hc2 : ∀ i, i < n → w2.cell? ⟨w.heap.size, i, none⟩ = some (.int .u8 (xs.getD i 0)) := fun i hi => (hb2.cell (by exact hs1)).trans (hc1 i hi)
  have hbel : Below w.heap.size w w2 := hb1.trans (hb2.mono (by omega))
  clear hz hc1 hb1 hb2
  go_loop [4, 5, 6] (fun wt od i => ∃ k : Nat, k ≤ n ∧ i = .int .i64 k ∧ wt = .int .i64 (Pl.endTo xs k) ∧ od = .bool (decide (Pl.cq xs k % 2 = 1))) (fun _ _ i => n - (intOf i).toNat)
  case atStart => exact ⟨0, Nat.zero_le _, rfl, rfl, rfl⟩
  case round =>
    obtain ⟨k, hk, rfl, rfl, rfl⟩ := hrel
    have hle := Pl.endTo_le xs k
    by_cases hlt : k < n
    · have hcw := hc2 k hlt
      have hcs := Pl.cq_succ xs k (by have := HX.out; omega)
      have HE : Hid (Pl.endTo xs (k + 1) = if xs.getD k 0 = 10 ∧ Pl.cq xs k % 2 = 0 then k + 1 else Pl.endTo xs k) := rfl
      have HQ : Hid (Pl.cq xs (k + 1) = Pl.cq xs k + if xs.getD k 0 = 34 then 1 else 0) := hcs
      clear hcs hc2
      generalize xs.getD k 0 = z at *
      generalize Pl.cq xs k = q at *
      generalize Pl.endTo xs k = ek at *
      by_cases h34 : z = 34
      · subst h34
        have e1 : Hid (Pl.endTo xs (k + 1) = ek) := by rw [HE.out, if_neg (by omega)]; rfl
        have e2 : Hid (decide (Pl.cq xs (k + 1) % 2 = 1) = !(decide (q % 2 = 1))) := by
          show _ = _
          rw [HQ.out, if_pos rfl, Bool.eq_iff_iff]; simp; omega
        clear HE HQ
        generalize decide (q % 2 = 1) = p at *
        go_wp2
        go_round
        case rel => exact ⟨k + 1, by omega, by go_num, by rw [e1.out], by rw [e2.out]⟩
        case measure => simp [intOf]; omega
      · have hb34 : (z == 34) = false := beq_eq_false_iff_ne.2 h34
        have e2 : Hid (Pl.cq xs (k + 1) = q) := by rw [HQ.out, if_neg h34]; rfl
        by_cases h10 : z = 10
        · subst h10
          clear hb34
          by_cases hp : q % 2 = 1
          · have e1 : Hid (Pl.endTo xs (k + 1) = ek) := by rw [HE.out, if_neg (by omega)]; rfl
            have hd : decide (q % 2 = 1) = true := decide_eq_true hp
            rw [hd]
            have HD : Hid (decide (q % 2 = 1) = true) := hd
            clear HE HQ hd hp
            go_wp2
            go_round
            case rel => exact ⟨k + 1, by omega, by go_num, by rw [e1.out], by rw [e2.out, HD.out]⟩
            case measure => simp [intOf]; omega
          · have e1 : Hid (Pl.endTo xs (k + 1) = k + 1) := by rw [HE.out, if_pos ⟨rfl, by omega⟩]; rfl
            have hd : decide (q % 2 = 1) = false := decide_eq_false hp
            rw [hd]
            have HD : Hid (decide (q % 2 = 1) = false) := hd
            clear HE HQ hd hp
            go_wp2
            go_round
            case rel => exact ⟨k + 1, by omega, by go_num, by rw [e1.out]; go_num, by rw [e2.out, HD.out]⟩
            case measure => simp [intOf]; omega
        · have hb10 : (z == 10) = false := beq_eq_false_iff_ne.2 h10
          have e1 : Hid (Pl.endTo xs (k + 1) = ek) := by rw [HE.out, if_neg (fun c => h10 c.1)]; rfl
          have e3 : Hid (decide (Pl.cq xs (k + 1) % 2 = 1) = decide (q % 2 = 1)) := by show _ = _; rw [e2.out]
          clear HE HQ h34 h10 e2
          generalize decide (q % 2 = 1) = p at *
          go_wp2
          go_round
          case rel => exact ⟨k + 1, by omega, by go_num, by rw [e1.out], by rw [e3.out]⟩
          case measure => simp [intOf]; omega
    · have hkn : k = n := by omega
      subst hkn
      generalize Pl.endTo xs k = ek at *
      go_wp2
      go_ret
      exact ⟨by simp, hbel⟩

/-! ### The walk -/
theorem walk (a0 : Option Addr) (len0 cap0 : Nat) (z0 : List Int) (w : World) (w0 : IsRow .u8 w a0 len0 cap0 z0) :
    Calls Try.prog 6 #[.slice a0 len0 cap0] w fun e w' => e = .returned (.bool true) ∧ Below w.heap.size w w' := by
  by_cases hbig : len0 ≤ 1048576
  · rcases w0 with ⟨rfl, rfl, rfl, rfl⟩ | ⟨x, rfl, hlc, hcm, hzl, hcell, hwf⟩
    · exact law_nil w
    · exact law_any x len0 cap0 (z0.take len0) w hbig (by simp; omega)
        (fun i hi => by rw [hcell i (by omega)]; congr 2; simp [List.getD, hi])
        (fun n hn => byte_range n (hwf n (List.mem_of_mem_take hn)))
  · exact law_big a0 len0 cap0 w (by omega)

/-! ### The row -/
set_option maxRecDepth 100000 in
theorem lifted (os : Os) (started : os.Started) (H : Type) (enc : TypeId × Value → H) :
    ReturnsInHanded {} Try.checked os 6 .any (Rows.fnRecordsEndIsLastNewlineAfterEvenQuotesSpec.pre6 enc Try.prog Try.f6 Rows.fnRecordsEndIsLastNewlineAfterEvenQuotesRow.domain false) (Rows.fnRecordsEndIsLastNewlineAfterEvenQuotesSpec.post enc Try.prog Try.f6 false true false false) := by
  refine returnsInHanded_of_change (C := Try.checked) own started (by kernel_rfl) Try.func6
    (ChangeSpec.witness6 (enc := enc) (C := Try.checked) false ⟨#[], #[.slice none 0 0], []⟩ 8 (by kernel_rfl) (by kernel_rfl) (by kernel_rfl) (by kernel_rfl)) ?_
  intro W base args ds gs before hval0 hW hcnd _
  have hval : ∀ (j : Nat) t v, Try.f6.params[j]? = some t → args[j]? = some v → Value.okWide Try.prog W .any base t v := hval0
  have hW' := hW
  obtain ⟨p, q, hA0, hV, rfl, hfz, hnd⟩ := hW
  have hA : DataW.TrodAll enc Try.prog W 0 (fun _ => true) true Try.f6.params.toList args.toList ds p := hA0
  rw [Try.params6] at hA hval
  obtain ⟨v0, vs0, d0, ds0, p0, q0, hargs, rfl, rfl, h0, r0⟩ := trodAll_cons hA
  obtain ⟨rfl, rfl, rfl⟩ := trodAll_nil r0
  obtain rfl : args = #[v0] := by cases args; simp_all
  obtain ⟨rfl, rfl⟩ := trodVars_none hV
  obtain ⟨a0, len0, cap0, rfl⟩ := okWide_slice Try.underlying69 (hval 0 69 v0 rfl rfl)
  have k0 := h0
  have lt0 : ∀ x ∈ p0, x.block < W.heap.size := by obtain ⟨m, hm⟩ := k0; exact DataW.trod_lt m _ _ _ hm
  obtain ⟨z0, w0⟩ : ∃ zs, IsRow .u8 W a0 len0 cap0 zs := by
    obtain ⟨fuel, hf⟩ := h0
    rcases open_ints Try.underlying69 Try.underlying5 (by kernel_rfl) hf with ⟨hcs, _⟩ | ⟨x, l, c, zs, hcs, _, hl, hm, hz, _, hcell, hwz⟩
    · simp [Value.cells] at hcs
      obtain ⟨rfl, rfl, rfl⟩ := hcs
      exact ⟨[], .inl ⟨rfl, rfl, rfl, rfl⟩⟩
    · simp [Value.cells] at hcs
      obtain ⟨rfl, rfl, rfl⟩ := hcs
      exact ⟨zs, .inr ⟨_, rfl, hl, hm, by simpa using hz, hcell, hwz⟩⟩
  clear hA0 hval0
  refine (walk a0 len0 cap0 z0 W w0).mono fun e W' ⟨he, bel⟩ => ?_
  subst he
  exact ⟨_, rfl, _, _, _, [], _, [], hW', trodAll_mk1 (shut_bool Try.underlying4 _), (trodAll_cons_mk (Below.trod laidOut (by kernel_rfl) (of_decide_eq_true (by kernel_rfl)) k0 bel lt0) trodAll_mk0), rfl, bel.frame _, fun h => by cases h⟩

theorem over : Rows.fnRecordsEndIsLastNewlineAfterEvenQuotesRow.holds Try.pinned (OpenSpec.ofChange Rows.fnRecordsEndIsLastNewlineAfterEvenQuotesSpec) :=
  OpenClaim.holds_of_wide 6 Try.f6 rfl rfl rfl rfl rfl rfl rfl ⟨rfl, rfl, rfl, rfl, rfl⟩ rfl rfl rfl rfl rfl (by kernel_rfl) Try.func6 (by kernel_rfl)
    (of_decide_eq_true (by kernel_rfl)) (by unfold Func.isWrapper; first | (rw [if_pos (by decide +kernel)]; kernel_rfl) | (rw [if_neg (by decide +kernel)]; exact ⟨rfl, rfl⟩))
    (fun os started H enc _ => lifted os started H enc)

/-- The statement. -/
theorem proved : Rows.FnRecordsEndIsLastNewlineAfterEvenQuotesSaid := over
end Go.Proofs.Qxb6000140a.fnRecordsEndIsLastNewlineAfterEvenQuotes
