/-
  '(*dataLines).next' (20) and 'ZZDataLinesNext' (13) by contracts.
-/
import Derived.Test.Qxb6000381aLib
import Derived.Test.Qxb6000381aAux
import Derived.Below
import Derived.Deep.QuietTactic
import Derived.BigQuiet
import Derived.Lib.SlBytesConst
namespace Go.Proofs.Qxb6000381a
open Go.RowKit

/-- The slice of the one byte CR behind the struct's block. -/
theorem conv2 (w : World) (O : Obj) : (convert 22 22 (.slice (some ⟨w.heap.size + 1, 0, none⟩) 1 1)).run Try.prog ((w.alloc O).alloc (.cells #[.int .u8 13] 5)) =
    .ok (.slice (some ⟨w.heap.size + 1, 0, none⟩) 1 1) ((w.alloc O).alloc (.cells #[.int .u8 13] 5 (1, 2))) := by
  have h := Lib.run_convert_bytes_const (P := Try.prog) (w.alloc O) 22 5 #[.int .u8 13] 1 1 Try.underlying22 Try.underlying5
  rw [World.size_alloc] at h
  exact h

set_option maxHeartbeats 1000000 in
set_option maxRecDepth 100000 in
/-- No line break in rest: nil, false; nothing turns. -/
theorem zznext_none (b o m : Nat) (l : Int) (ys : List Int) (w : World) (hbb : 0 < m → b < w.heap.size) (hx : ys.length = m) (hc : ∀ i, i < m → w.cell? ⟨b, o + i, none⟩ = some (.int .u8 (ys.getD i 0))) (hr : ∀ x ∈ ys, 0 ≤ x ∧ x < 256) (hn : ∀ i, i < m → ys.getD i 0 ≠ 10) :
    Calls Try.prog 13 #[.slice (some ⟨b, o, none⟩) m m, .int .i64 l] w fun e w' => e = .returned (.tuple #[.slice none 0 0, .bool false, .slice (some ⟨b, o, none⟩) m m, .int .i64 l]) ∧ Below w.heap.size w w' := by
  have hi := index_none b o m m ys (w.alloc (.cells #[.string ⟨#[]⟩, .slice (some ⟨b, o, none⟩) m m, .int .i64 l, .int .i64 0] 32)) hx (fun i hi => (World.cell?_alloc_lt _ _ _ (hbb (by omega))).trans (hc i hi)) hr hn
  clear hx hc hr hn hbb
  go_enter Try.func13, Try.ntmps13
  go_wp2_with (first | (go_at_call 21; refine hi.mono ?_; rintro e w' ⟨rfl, hw⟩; have hw2 := hw.symm; subst hw2; clear hw) | go_in)
  go_quiet (fail)
  go_wp2
  exact bodyPost_ret (v := .tuple #[.slice none 0 0, .bool false, .slice (some ⟨b, o, none⟩) m m, .int .i64 l]) (by simp [results, Try.results13, go_sem]) rfl ⟨rfl, ((Below.refl _ _).alloc (Nat.le_refl _) _).trans (below_drewN _ _ _)⟩

set_option maxHeartbeats 1000000 in
set_option maxRecDepth 100000 in
/-- A line that ends in CR LF, more behind it. -/
theorem next_cr_more (b o k r : Nat) (l : Int) (ys : List Int) (w : World) (hm : k + 1 + 1 + r ≤ 1048576) (hr0 : 0 < r) (hbb : b < w.heap.size) (hx : ys.length = k + 1 + 1 + r) (hc : ∀ i, i < k + 1 + 1 + r → w.cell? ⟨b, o + i, none⟩ = some (.int .u8 (ys.getD i 0))) (hr : ∀ x ∈ ys, 0 ≤ x ∧ x < 256)
    (h10 : ys.getD (k + 1) 0 = 10) (hn : ∀ i, i < k + 1 → ys.getD i 0 ≠ 10) (h13 : ys.getD k 0 = 13) :
    Calls Try.prog 13 #[.slice (some ⟨b, o, none⟩) (k + 1 + 1 + r) (k + 1 + 1 + r), .int .i64 l] w fun e w' => e = .returned (.tuple #[.slice (some ⟨b, o, none⟩) (k) (k + 1 + 1 + r), .bool true, .slice (some ⟨b, o + (k + 1 + 1), none⟩) r r, .int .i64 (wrap64 (l + 1))]) ∧ Below w.heap.size w w' := by
  have kc := conv2 w
  have hi := index_hit b o (k + 1 + 1 + r) (k + 1 + 1 + r) ys (w.alloc (.cells #[.string ⟨#[]⟩, .slice (some ⟨b, o, none⟩) (k + 1 + 1 + r) (k + 1 + 1 + r), .int .i64 l, .int .i64 0] 32)) hx (fun i hi => (World.cell?_alloc_lt _ _ _ hbb).trans (hc i hi)) hr (k + 1) (by omega) h10 hn
  have hck : w.cell? ⟨b, o + k, none⟩ = some (.int .u8 13) := by rw [hc k (by omega), h13]
  have ht := trim_yes b o k (k + 1 + 1 + r) (w.heap.size + 1) ((w.alloc (.cells #[.string ⟨#[]⟩, .slice (some ⟨b, o, none⟩) (k + 1 + 1 + r) (k + 1 + 1 + r), .int .i64 l, .int .i64 0] 32)).alloc (.cells #[.int .u8 13] 5 (1, 2))) (by omega) (by omega) (Lib.cell?_alloc_marked _ (Lib.cell?_alloc_marked _ hck)) (by have := World.cell?_alloc_mark (w.alloc (.cells #[.string ⟨#[]⟩, .slice (some ⟨b, o, none⟩) (k + 1 + 1 + r) (k + 1 + 1 + r), .int .i64 l, .int .i64 0] 32)) #[.int .u8 13] 5 (1, 2) 0; simpa using this)
  clear hx hc hr hn hbb h10 h13 hck
  go_enter Try.func13, Try.ntmps13
  go_wp2_with (first | (go_at_call 21; refine hi.mono ?_; rintro e w' ⟨rfl, hw⟩; have hw2 := hw.symm; subst hw2; clear hw) | (go_at_call 22; refine ht.mono ?_; rintro e w' ⟨rfl, hw⟩; have hw2 := hw.symm; subst hw2; clear hw) | go_in)
  go_quiet (fail)
  go_wp2
  exact bodyPost_ret (v := .tuple #[.slice (some ⟨b, o, none⟩) (k) (k + 1 + 1 + r), .bool true, .slice (some ⟨b, o + (k + 1 + 1), none⟩) r r, .int .i64 (wrap64 (l + 1))]) (by simp [results, Try.results13, go_sem]) rfl ⟨rfl, (((Below.refl _ _).alloc (Nat.le_refl _) _).alloc (by simp) _).trans (below_drewN _ _ _)⟩

set_option maxHeartbeats 1000000 in
set_option maxRecDepth 100000 in
/-- A line that ends in CR LF, nothing behind it. -/
theorem next_cr_last (b o k : Nat) (l : Int) (ys : List Int) (w : World) (hm : k + 1 + 1 ≤ 1048576) (hbb : b < w.heap.size) (hx : ys.length = k + 1 + 1) (hc : ∀ i, i < k + 1 + 1 → w.cell? ⟨b, o + i, none⟩ = some (.int .u8 (ys.getD i 0))) (hr : ∀ x ∈ ys, 0 ≤ x ∧ x < 256)
    (h10 : ys.getD (k + 1) 0 = 10) (hn : ∀ i, i < k + 1 → ys.getD i 0 ≠ 10) (h13 : ys.getD k 0 = 13) :
    Calls Try.prog 13 #[.slice (some ⟨b, o, none⟩) (k + 1 + 1) (k + 1 + 1), .int .i64 l] w fun e w' => e = .returned (.tuple #[.slice (some ⟨b, o, none⟩) (k) (k + 1 + 1), .bool true, .slice (some ⟨b, o, none⟩) 0 0, .int .i64 (wrap64 (l + 1))]) ∧ Below w.heap.size w w' := by
  have kc := conv2 w
  have hi := index_hit b o (k + 1 + 1) (k + 1 + 1) ys (w.alloc (.cells #[.string ⟨#[]⟩, .slice (some ⟨b, o, none⟩) (k + 1 + 1) (k + 1 + 1), .int .i64 l, .int .i64 0] 32)) hx (fun i hi => (World.cell?_alloc_lt _ _ _ hbb).trans (hc i hi)) hr (k + 1) (by omega) h10 hn
  have hck : w.cell? ⟨b, o + k, none⟩ = some (.int .u8 13) := by rw [hc k (by omega), h13]
  have ht := trim_yes b o k (k + 1 + 1) (w.heap.size + 1) ((w.alloc (.cells #[.string ⟨#[]⟩, .slice (some ⟨b, o, none⟩) (k + 1 + 1) (k + 1 + 1), .int .i64 l, .int .i64 0] 32)).alloc (.cells #[.int .u8 13] 5 (1, 2))) (by omega) (by omega) (Lib.cell?_alloc_marked _ (Lib.cell?_alloc_marked _ hck)) (by have := World.cell?_alloc_mark (w.alloc (.cells #[.string ⟨#[]⟩, .slice (some ⟨b, o, none⟩) (k + 1 + 1) (k + 1 + 1), .int .i64 l, .int .i64 0] 32)) #[.int .u8 13] 5 (1, 2) 0; simpa using this)
  clear hx hc hr hn hbb h10 h13 hck
  go_enter Try.func13, Try.ntmps13
  go_wp2_with (first | (go_at_call 21; refine hi.mono ?_; rintro e w' ⟨rfl, hw⟩; have hw2 := hw.symm; subst hw2; clear hw) | (go_at_call 22; refine ht.mono ?_; rintro e w' ⟨rfl, hw⟩; have hw2 := hw.symm; subst hw2; clear hw) | go_in)
  go_quiet (fail)
  go_wp2
  exact bodyPost_ret (v := .tuple #[.slice (some ⟨b, o, none⟩) (k) (k + 1 + 1), .bool true, .slice (some ⟨b, o, none⟩) 0 0, .int .i64 (wrap64 (l + 1))]) (by simp [results, Try.results13, go_sem]) rfl ⟨rfl, (((Below.refl _ _).alloc (Nat.le_refl _) _).alloc (by simp) _).trans (below_drewN _ _ _)⟩

set_option maxHeartbeats 1000000 in
set_option maxRecDepth 100000 in
/-- A line that ends in LF alone, more behind it. -/
theorem next_lf_more (b o k r : Nat) (l : Int) (ys : List Int) (w : World) (hm : k + 1 + 1 + r ≤ 1048576) (hr0 : 0 < r) (hbb : b < w.heap.size) (hx : ys.length = k + 1 + 1 + r) (hc : ∀ i, i < k + 1 + 1 + r → w.cell? ⟨b, o + i, none⟩ = some (.int .u8 (ys.getD i 0))) (hr : ∀ x ∈ ys, 0 ≤ x ∧ x < 256)
    (h10 : ys.getD (k + 1) 0 = 10) (hn : ∀ i, i < k + 1 → ys.getD i 0 ≠ 10) (h13 : ys.getD k 0 ≠ 13) :
    Calls Try.prog 13 #[.slice (some ⟨b, o, none⟩) (k + 1 + 1 + r) (k + 1 + 1 + r), .int .i64 l] w fun e w' => e = .returned (.tuple #[.slice (some ⟨b, o, none⟩) (k + 1) (k + 1 + 1 + r), .bool true, .slice (some ⟨b, o + (k + 1 + 1), none⟩) r r, .int .i64 (wrap64 (l + 1))]) ∧ Below w.heap.size w w' := by
  have kc := conv2 w
  have hi := index_hit b o (k + 1 + 1 + r) (k + 1 + 1 + r) ys (w.alloc (.cells #[.string ⟨#[]⟩, .slice (some ⟨b, o, none⟩) (k + 1 + 1 + r) (k + 1 + 1 + r), .int .i64 l, .int .i64 0] 32)) hx (fun i hi => (World.cell?_alloc_lt _ _ _ hbb).trans (hc i hi)) hr (k + 1) (by omega) h10 hn
  have hck : w.cell? ⟨b, o + k, none⟩ = some (.int .u8 (ys.getD k 0)) := hc k (by omega)
  have ht := trim_no b o k (k + 1 + 1 + r) (w.heap.size + 1) (ys.getD k 0) ((w.alloc (.cells #[.string ⟨#[]⟩, .slice (some ⟨b, o, none⟩) (k + 1 + 1 + r) (k + 1 + 1 + r), .int .i64 l, .int .i64 0] 32)).alloc (.cells #[.int .u8 13] 5 (1, 2))) (by omega) (by omega) (range_at ys hr k (by omega)) (Lib.cell?_alloc_marked _ (Lib.cell?_alloc_marked _ hck)) (by have := World.cell?_alloc_mark (w.alloc (.cells #[.string ⟨#[]⟩, .slice (some ⟨b, o, none⟩) (k + 1 + 1 + r) (k + 1 + 1 + r), .int .i64 l, .int .i64 0] 32)) #[.int .u8 13] 5 (1, 2) 0; simpa using this) h13
  clear hx hc hr hn hbb h10 h13 hck
  go_enter Try.func13, Try.ntmps13
  go_wp2_with (first | (go_at_call 21; refine hi.mono ?_; rintro e w' ⟨rfl, hw⟩; have hw2 := hw.symm; subst hw2; clear hw) | (go_at_call 22; refine ht.mono ?_; rintro e w' ⟨rfl, hw⟩; have hw2 := hw.symm; subst hw2; clear hw) | go_in)
  go_quiet (fail)
  go_wp2
  exact bodyPost_ret (v := .tuple #[.slice (some ⟨b, o, none⟩) (k + 1) (k + 1 + 1 + r), .bool true, .slice (some ⟨b, o + (k + 1 + 1), none⟩) r r, .int .i64 (wrap64 (l + 1))]) (by simp [results, Try.results13, go_sem]) rfl ⟨rfl, (((Below.refl _ _).alloc (Nat.le_refl _) _).alloc (by simp) _).trans (below_drewN _ _ _)⟩

set_option maxHeartbeats 1000000 in
set_option maxRecDepth 100000 in
/-- A line that ends in LF alone, nothing behind it. -/
theorem next_lf_last (b o k : Nat) (l : Int) (ys : List Int) (w : World) (hm : k + 1 + 1 ≤ 1048576) (hbb : b < w.heap.size) (hx : ys.length = k + 1 + 1) (hc : ∀ i, i < k + 1 + 1 → w.cell? ⟨b, o + i, none⟩ = some (.int .u8 (ys.getD i 0))) (hr : ∀ x ∈ ys, 0 ≤ x ∧ x < 256)
    (h10 : ys.getD (k + 1) 0 = 10) (hn : ∀ i, i < k + 1 → ys.getD i 0 ≠ 10) (h13 : ys.getD k 0 ≠ 13) :
    Calls Try.prog 13 #[.slice (some ⟨b, o, none⟩) (k + 1 + 1) (k + 1 + 1), .int .i64 l] w fun e w' => e = .returned (.tuple #[.slice (some ⟨b, o, none⟩) (k + 1) (k + 1 + 1), .bool true, .slice (some ⟨b, o, none⟩) 0 0, .int .i64 (wrap64 (l + 1))]) ∧ Below w.heap.size w w' := by
  have kc := conv2 w
  have hi := index_hit b o (k + 1 + 1) (k + 1 + 1) ys (w.alloc (.cells #[.string ⟨#[]⟩, .slice (some ⟨b, o, none⟩) (k + 1 + 1) (k + 1 + 1), .int .i64 l, .int .i64 0] 32)) hx (fun i hi => (World.cell?_alloc_lt _ _ _ hbb).trans (hc i hi)) hr (k + 1) (by omega) h10 hn
  have hck : w.cell? ⟨b, o + k, none⟩ = some (.int .u8 (ys.getD k 0)) := hc k (by omega)
  have ht := trim_no b o k (k + 1 + 1) (w.heap.size + 1) (ys.getD k 0) ((w.alloc (.cells #[.string ⟨#[]⟩, .slice (some ⟨b, o, none⟩) (k + 1 + 1) (k + 1 + 1), .int .i64 l, .int .i64 0] 32)).alloc (.cells #[.int .u8 13] 5 (1, 2))) (by omega) (by omega) (range_at ys hr k (by omega)) (Lib.cell?_alloc_marked _ (Lib.cell?_alloc_marked _ hck)) (by have := World.cell?_alloc_mark (w.alloc (.cells #[.string ⟨#[]⟩, .slice (some ⟨b, o, none⟩) (k + 1 + 1) (k + 1 + 1), .int .i64 l, .int .i64 0] 32)) #[.int .u8 13] 5 (1, 2) 0; simpa using this) h13
  clear hx hc hr hn hbb h10 h13 hck
  go_enter Try.func13, Try.ntmps13
  go_wp2_with (first | (go_at_call 21; refine hi.mono ?_; rintro e w' ⟨rfl, hw⟩; have hw2 := hw.symm; subst hw2; clear hw) | (go_at_call 22; refine ht.mono ?_; rintro e w' ⟨rfl, hw⟩; have hw2 := hw.symm; subst hw2; clear hw) | go_in)
  go_quiet (fail)
  go_wp2
  exact bodyPost_ret (v := .tuple #[.slice (some ⟨b, o, none⟩) (k + 1) (k + 1 + 1), .bool true, .slice (some ⟨b, o, none⟩) 0 0, .int .i64 (wrap64 (l + 1))]) (by simp [results, Try.results13, go_sem]) rfl ⟨rfl, (((Below.refl _ _).alloc (Nat.le_refl _) _).alloc (by simp) _).trans (below_drewN _ _ _)⟩

set_option maxHeartbeats 1000000 in
set_option maxRecDepth 100000 in
/-- An empty line, more behind it. -/
theorem next_no_more (b o r : Nat) (l : Int) (ys : List Int) (w : World) (hm : 1 + r ≤ 1048576) (hr0 : 0 < r) (hbb : b < w.heap.size) (hx : ys.length = 1 + r) (hc : ∀ i, i < 1 + r → w.cell? ⟨b, o + i, none⟩ = some (.int .u8 (ys.getD i 0))) (hr : ∀ x ∈ ys, 0 ≤ x ∧ x < 256)
    (h10 : ys.getD (0) 0 = 10) (hn : ∀ i, i < 0 → ys.getD i 0 ≠ 10) :
    Calls Try.prog 13 #[.slice (some ⟨b, o, none⟩) (1 + r) (1 + r), .int .i64 l] w fun e w' => e = .returned (.tuple #[.slice (some ⟨b, o, none⟩) (0) (1 + r), .bool true, .slice (some ⟨b, o + (0 + 1), none⟩) r r, .int .i64 (wrap64 (l + 1))]) ∧ Below w.heap.size w w' := by
  have kc := conv2 w
  have hi := index_hit b o (1 + r) (1 + r) ys (w.alloc (.cells #[.string ⟨#[]⟩, .slice (some ⟨b, o, none⟩) (1 + r) (1 + r), .int .i64 l, .int .i64 0] 32)) hx (fun i hi => (World.cell?_alloc_lt _ _ _ hbb).trans (hc i hi)) hr (0) (by omega) h10 hn
  have ht := trim_empty (some ⟨b, o, none⟩) (1 + r) (w.heap.size + 1) ((w.alloc (.cells #[.string ⟨#[]⟩, .slice (some ⟨b, o, none⟩) (1 + r) (1 + r), .int .i64 l, .int .i64 0] 32)).alloc (.cells #[.int .u8 13] 5 (1, 2)))
  clear hx hc hr hn hbb h10 
  go_enter Try.func13, Try.ntmps13
  go_wp2_with (first | (go_at_call 21; refine hi.mono ?_; rintro e w' ⟨rfl, hw⟩; have hw2 := hw.symm; subst hw2; clear hw) | (go_at_call 22; refine ht.mono ?_; rintro e w' ⟨rfl, hw⟩; have hw2 := hw.symm; subst hw2; clear hw) | go_in)
  go_quiet (fail)
  go_wp2
  exact bodyPost_ret (v := .tuple #[.slice (some ⟨b, o, none⟩) (0) (1 + r), .bool true, .slice (some ⟨b, o + (0 + 1), none⟩) r r, .int .i64 (wrap64 (l + 1))]) (by simp [results, Try.results13, go_sem]) rfl ⟨rfl, (((Below.refl _ _).alloc (Nat.le_refl _) _).alloc (by simp) _).trans (below_drewN _ _ _)⟩

set_option maxHeartbeats 1000000 in
set_option maxRecDepth 100000 in
/-- An empty line, nothing behind it. -/
theorem next_no_last (b o : Nat) (l : Int) (ys : List Int) (w : World) (hbb : b < w.heap.size) (hx : ys.length = 1) (hc : ∀ i, i < 1 → w.cell? ⟨b, o + i, none⟩ = some (.int .u8 (ys.getD i 0))) (hr : ∀ x ∈ ys, 0 ≤ x ∧ x < 256)
    (h10 : ys.getD (0) 0 = 10) (hn : ∀ i, i < 0 → ys.getD i 0 ≠ 10) :
    Calls Try.prog 13 #[.slice (some ⟨b, o, none⟩) (1) (1), .int .i64 l] w fun e w' => e = .returned (.tuple #[.slice (some ⟨b, o, none⟩) (0) (1), .bool true, .slice (some ⟨b, o, none⟩) 0 0, .int .i64 (wrap64 (l + 1))]) ∧ Below w.heap.size w w' := by
  have kc := conv2 w
  have hi := index_hit b o (1) (1) ys (w.alloc (.cells #[.string ⟨#[]⟩, .slice (some ⟨b, o, none⟩) (1) (1), .int .i64 l, .int .i64 0] 32)) hx (fun i hi => (World.cell?_alloc_lt _ _ _ hbb).trans (hc i hi)) hr (0) (by omega) h10 hn
  have ht := trim_empty (some ⟨b, o, none⟩) (1) (w.heap.size + 1) ((w.alloc (.cells #[.string ⟨#[]⟩, .slice (some ⟨b, o, none⟩) (1) (1), .int .i64 l, .int .i64 0] 32)).alloc (.cells #[.int .u8 13] 5 (1, 2)))
  clear hx hc hr hn hbb h10 
  go_enter Try.func13, Try.ntmps13
  go_wp2_with (first | (go_at_call 21; refine hi.mono ?_; rintro e w' ⟨rfl, hw⟩; have hw2 := hw.symm; subst hw2; clear hw) | (go_at_call 22; refine ht.mono ?_; rintro e w' ⟨rfl, hw⟩; have hw2 := hw.symm; subst hw2; clear hw) | go_in)
  go_quiet (fail)
  go_wp2
  exact bodyPost_ret (v := .tuple #[.slice (some ⟨b, o, none⟩) (0) (1), .bool true, .slice (some ⟨b, o, none⟩) 0 0, .int .i64 (wrap64 (l + 1))]) (by simp [results, Try.results13, go_sem]) rfl ⟨rfl, (((Below.refl _ _).alloc (Nat.le_refl _) _).alloc (by simp) _).trans (below_drewN _ _ _)⟩

set_option maxHeartbeats 1000000 in
set_option maxRecDepth 100000 in
theorem zznext_nil (l : Int) (w : World) :
    Calls Try.prog 13 #[.slice none 0 0, .int .i64 l] w fun e w' => e = .returned (.tuple #[.slice none 0 0, .bool false, .slice none 0 0, .int .i64 l]) ∧ Below w.heap.size w w' := by
  have hi := index_nil (w.alloc (.cells #[.string ⟨#[]⟩, .slice none 0 0, .int .i64 l, .int .i64 0] 32))
  go_enter Try.func13, Try.ntmps13
  go_wp2_with (first | (go_at_call 21; refine hi.mono ?_; rintro e w' ⟨rfl, hw⟩; have hw2 := hw.symm; subst hw2; clear hw) | go_in)
  go_quiet (fail)
  go_wp2
  exact bodyPost_ret (v := .tuple #[.slice none 0 0, .bool false, .slice none 0 0, .int .i64 l]) (by simp [results, Try.results13, go_sem]) rfl ⟨rfl, ((Below.refl _ _).alloc (Nat.le_refl _) _).trans (below_drewN _ _ _)⟩

end Go.Proofs.Qxb6000381a
