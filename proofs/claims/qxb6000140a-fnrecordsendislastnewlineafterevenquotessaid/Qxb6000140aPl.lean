/-
  THE PLAIN LAW of 'recordsEnd': lists and numbers alone, no Go in sight.
  'cq xs k': how many quotes (34) stand among the first k numbers. 'endTo xs k': one past the last line break (10) among the first k numbers that stands behind an even number of quotes; 0 if there is none.
  'lastNl xs k': the index of the last line break among the first k numbers, as an integer; -1 if there is none.
-/
namespace Go.Proofs.Qxb6000140a.Pl

def cq (xs : List Int) (k : Nat) : Nat := (xs.take k).count 34

def endTo (xs : List Int) : Nat → Nat
  | 0 => 0
  | k + 1 => if xs.getD k 0 = 10 ∧ cq xs k % 2 = 0 then k + 1 else endTo xs k

def lastNl (xs : List Int) : Nat → Int
  | 0 => -1
  | k + 1 => if xs.getD k 0 = 10 then (k : Int) else lastNl xs k

theorem cq_succ (xs : List Int) (k : Nat) (h : k < xs.length) : cq xs (k + 1) = cq xs k + if xs.getD k 0 = 34 then 1 else 0 := by
  unfold cq
  rw [List.take_succ_eq_append_getElem h, List.count_append]
  have e : xs.getD k 0 = xs[k] := by simp [List.getD, h]
  rw [e]
  by_cases hq : xs[k] = 34
  · simp [hq]
  · simp [hq]

theorem cq_le (xs : List Int) (k : Nat) : cq xs k ≤ k := by
  unfold cq
  have h1 := List.count_le_length (a := (34 : Int)) (l := xs.take k)
  have h2 : (xs.take k).length ≤ k := List.length_take_le _ _
  omega

/-- The quotes of a piece 'xs[i:e]'. -/
theorem cq_piece (xs : List Int) (i e : Nat) (h : i ≤ e) : cq xs e = cq xs i + ((xs.drop i).take (e - i)).count 34 := by
  unfold cq
  have h1 : xs.take e = xs.take i ++ (xs.drop i).take (e - i) := by
    rw [← List.take_add]
    congr 1
    omega
  rw [h1, List.count_append]

theorem cq_mono (xs : List Int) (i e : Nat) (h : i ≤ e) : cq xs i ≤ cq xs e := by
  rw [cq_piece xs i e h]; omega

theorem lastNl_range (xs : List Int) (k : Nat) : -1 ≤ lastNl xs k ∧ lastNl xs k < k := by
  induction k with
  | zero => simp [lastNl]
  | succ k ih =>
    unfold lastNl
    split <;> omega

/-- Where there is no line break among the first k, the end is 0. -/
theorem endTo_none (xs : List Int) (k : Nat) (h : lastNl xs k < 0) : endTo xs k = 0 := by
  induction k with
  | zero => rfl
  | succ k ih =>
    unfold lastNl at h
    split at h
    · omega
    · rename_i hn
      unfold endTo
      rw [if_neg (fun c => hn c.1)]
      exact ih h

/-- Behind the last line break nothing moves the end. -/
theorem endTo_last (xs : List Int) (k i : Nat) (h : lastNl xs k = i) : endTo xs k = if cq xs i % 2 = 0 then i + 1 else endTo xs i := by
  induction k with
  | zero => simp [lastNl] at h
  | succ k ih =>
    unfold lastNl at h
    split at h
    · rename_i hn
      have : k = i := by omega
      subst this
      show (if xs.getD k 0 = 10 ∧ cq xs k % 2 = 0 then k + 1 else endTo xs k) = _
      by_cases hq : cq xs k % 2 = 0
      · rw [if_pos ⟨hn, hq⟩, if_pos hq]
      · rw [if_neg (fun c => hq c.2), if_neg hq]
    · rename_i hn
      show (if xs.getD k 0 = 10 ∧ cq xs k % 2 = 0 then k + 1 else endTo xs k) = _
      rw [if_neg (fun c => hn c.1)]
      exact ih h

theorem endTo_le (xs : List Int) (k : Nat) : endTo xs k ≤ k := by
  induction k with
  | zero => simp [endTo]
  | succ k ih =>
    unfold endTo
    split <;> omega

end Go.Proofs.Qxb6000140a.Pl
