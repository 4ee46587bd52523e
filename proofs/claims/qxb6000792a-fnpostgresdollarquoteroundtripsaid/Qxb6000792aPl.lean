/-
  PLAIN FACTS: what a text of a dollar, a tag, a dollar and a rest is made of, and that a first place stays first where text is appended. No walk.
-/
import Derived.Lib.IndexMore
import Derived.Lib.IndexBytes
namespace Go.Proofs.Qxb6000792a.Pl
open Go.Lib

/-- A head of a list stays one where the list grows; and a place that has room in l is one of l alone. -/
theorem occ_append (l more sub : List UInt8) (j : Nat) (h : j + sub.length ≤ l.length) : occAt (l ++ more) sub j = occAt l sub j := by
  rw [occAt_iff_take l sub j h, occAt_iff_take (l ++ more) sub j (by rw [List.length_append]; omega)]
  rw [List.drop_append_of_le_length (by omega), List.take_append_of_le_length (by rw [List.length_drop]; omega)]

/-- The first place in l, which ends l, is the first one in l ++ more. -/
theorem index_append (l more sub : List UInt8) (b : Nat) (h : index l sub = (b : Int)) (hl : b + sub.length = l.length) : index (l ++ more) sub = (b : Int) := by
  rcases index_spec l sub with ⟨h1, _⟩ | ⟨i, h1, _, h3, h4⟩
  · omega
  · obtain rfl : i = b := by omega
    refine index_first (by rw [List.length_append]; omega) ?_ (fun j hj => ?_)
    · rw [occ_append l more sub i (by omega)]; exact h3
    · rw [occ_append l more sub j (by omega)]; exact h4 j hj

theorem at_list (X : ByteArray) (j : Nat) (h : j < X.size) (c : UInt8) (hc : X.data.toList[j]? = some c) : X[j] = c := by
  rw [data_getElem? X j h] at hc
  exact Option.some.inj hc

theorem o_size (o a : ByteArray) (hO : o.data.toList = 36 :: (a.data.toList ++ [36])) : o.size = a.size + 1 + 1 := by
  rw [size_eq o, hO, size_eq a]
  simp

theorem x_size (X a o : ByteArray) (rl : List UInt8) (hO : o.data.toList = 36 :: (a.data.toList ++ [36])) (hX : X.data.toList = o.data.toList ++ rl) : a.size + 1 + 1 ≤ X.size := by
  have := o_size o a hO
  rw [size_eq X, hX, List.length_append, ← size_eq o]
  omega

theorem x_tag (X a o : ByteArray) (rl : List UInt8) (hO : o.data.toList = 36 :: (a.data.toList ++ [36])) (hX : X.data.toList = o.data.toList ++ rl) (j : Nat) (hj : j < a.size) (h : j + 1 < X.size) : X[j + 1] = a[j] := by
  refine at_list X (j + 1) h _ ?_
  rw [hX, hO]
  have hl : j < a.data.toList.length := by rw [← size_eq]; exact hj
  rw [List.cons_append, List.getElem?_cons_succ, List.append_assoc, List.getElem?_append_left hl]
  exact data_getElem? a j hj

theorem x_end (X a o : ByteArray) (rl : List UInt8) (hO : o.data.toList = 36 :: (a.data.toList ++ [36])) (hX : X.data.toList = o.data.toList ++ rl) (h : a.size + 1 < X.size) : X[a.size + 1] = 36 := by
  refine at_list X (a.size + 1) h _ ?_
  rw [hX, hO, List.cons_append, List.getElem?_cons_succ, List.append_assoc, List.getElem?_append_right (by rw [← size_eq]; exact Nat.le_refl _), ← size_eq, Nat.sub_self]
  rfl

theorem x_head (X a o : ByteArray) (rl : List UInt8) (hO : o.data.toList = 36 :: (a.data.toList ++ [36])) (hX : X.data.toList = o.data.toList ++ rl) : (X.extract 0 (a.size + 1 + 1)).data.toList = o.data.toList := by
  have := o_size o a hO
  rw [extract_data, List.drop_zero, Nat.sub_zero, hX, ← this, size_eq o, List.take_left']
  rfl

theorem x_rest (X a o : ByteArray) (rl : List UInt8) (hO : o.data.toList = 36 :: (a.data.toList ++ [36])) (hX : X.data.toList = o.data.toList ++ rl) : (X.extract (a.size + 1 + 1) X.size).data.toList = rl := by
  have := o_size o a hO
  rw [extract_to_end, hX, ← this, size_eq o, List.drop_left']
  rfl

end Go.Proofs.Qxb6000792a.Pl
