/-
  PLAIN FACTS on lists of numbers: no Go in sight. 'cnt xs k': how many line breaks (10) stand among the first k numbers. 'aft xs k': one past the last of them, 0 if there is none.
-/
namespace Go.Proofs.Qxb6000381a.Pl

def cnt (xs : List Int) : Nat → Nat
  | 0 => 0
  | k + 1 => cnt xs k + if xs.getD k 0 = 10 then 1 else 0

def aft (xs : List Int) : Nat → Nat
  | 0 => 0
  | k + 1 => if xs.getD k 0 = 10 then k + 1 else aft xs k

theorem cnt_le (xs : List Int) (k : Nat) : cnt xs k ≤ k := by
  induction k with
  | zero => exact Nat.le_refl _
  | succ k ih => unfold cnt; split <;> omega

theorem aft_le (xs : List Int) (k : Nat) : aft xs k ≤ k := by
  induction k with
  | zero => exact Nat.le_refl _
  | succ k ih => unfold aft; split <;> omega

theorem cnt_hit (xs : List Int) (k : Nat) (h : xs.getD k 0 = 10) : cnt xs (k + 1) = cnt xs k + 1 := by
  show cnt xs k + (if xs.getD k 0 = 10 then 1 else 0) = _
  rw [if_pos h]

theorem cnt_miss (xs : List Int) (k : Nat) (h : xs.getD k 0 ≠ 10) : cnt xs (k + 1) = cnt xs k := by
  show cnt xs k + (if xs.getD k 0 = 10 then 1 else 0) = _
  rw [if_neg h]; rfl

theorem aft_hit (xs : List Int) (k : Nat) (h : xs.getD k 0 = 10) : aft xs (k + 1) = k + 1 := by
  show (if xs.getD k 0 = 10 then k + 1 else aft xs k) = _
  rw [if_pos h]

theorem aft_miss (xs : List Int) (k : Nat) (h : xs.getD k 0 ≠ 10) : aft xs (k + 1) = aft xs k := by
  show (if xs.getD k 0 = 10 then k + 1 else aft xs k) = _
  rw [if_neg h]

/-- No line break from p up to p + d: nothing is counted there. -/
theorem cnt_gap (xs : List Int) (p d : Nat) (h : ∀ i, i < d → xs.getD (p + i) 0 ≠ 10) : cnt xs (p + d) = cnt xs p := by
  induction d with
  | zero => rfl
  | succ d ih =>
    rw [← Nat.add_assoc, cnt_miss _ _ (h d (by omega))]
    exact ih (fun i hi => h i (by omega))

theorem aft_gap (xs : List Int) (p d : Nat) (h : ∀ i, i < d → xs.getD (p + i) 0 ≠ 10) : aft xs (p + d) = aft xs p := by
  induction d with
  | zero => rfl
  | succ d ih =>
    rw [← Nat.add_assoc, aft_miss _ _ (h d (by omega))]
    exact ih (fun i hi => h i (by omega))

theorem cnt_none (xs : List Int) (k : Nat) (h : ∀ i, i < k → xs.getD i 0 ≠ 10) : cnt xs k = 0 := by
  have := cnt_gap xs 0 k (fun i hi => by rw [Nat.zero_add]; exact h i hi)
  rw [Nat.zero_add] at this
  exact this

/-- Either no line break stands among the first m, or there is a first one. -/
theorem first_nl (xs : List Int) (m : Nat) : (∀ i, i < m → xs.getD i 0 ≠ 10) ∨ ∃ e, e < m ∧ xs.getD e 0 = 10 ∧ ∀ i, i < e → xs.getD i 0 ≠ 10 := by
  induction m with
  | zero => exact .inl (fun i hi => by omega)
  | succ m ih =>
    rcases ih with h | ⟨e, he, h1, h2⟩
    · by_cases hm : xs.getD m 0 = 10
      · exact .inr ⟨m, by omega, hm, h⟩
      · refine .inl (fun i hi => ?_)
        by_cases e : i = m
        · subst e; exact hm
        · exact h i (by omega)
    · exact .inr ⟨e, by omega, h1, h2⟩

theorem getD_drop (xs : List Int) (p i : Nat) : (xs.drop p).getD i 0 = xs.getD (p + i) 0 := by
  simp [List.getD]

end Go.Proofs.Qxb6000381a.Pl
