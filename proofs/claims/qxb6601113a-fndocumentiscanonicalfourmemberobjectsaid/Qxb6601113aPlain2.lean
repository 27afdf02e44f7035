import Derived.Test.Qxb6601113aPlain
namespace Go.Proofs.Qxb6601113a

/-! the quoted string behind what stood there -/
theorem quo_len (ys E : List Int) : (ys ++ 34 :: E ++ [34]).length = ys.length + E.length + 2 := by simp; omega
theorem quo_pre (ys E : List Int) (j : Nat) (h : j < ys.length) : (ys ++ 34 :: E ++ [34]).getD j 0 = ys.getD j 0 := by
  simp [List.getD, List.getElem?_append_left h]
theorem quo_open (ys E : List Int) : (ys ++ 34 :: E ++ [34]).getD ys.length 0 = 34 := by simp [List.getD]
theorem quo_mid (ys E : List Int) (j : Nat) (h : j < E.length) : (ys ++ 34 :: E ++ [34]).getD (ys.length + 1 + j) 0 = E.getD j 0 := by
  have e : ys ++ 34 :: E ++ [34] = (ys ++ [34]) ++ (E ++ [34]) := by simp
  rw [e]
  simp only [List.getD]
  rw [List.getElem?_append_right (by simp), List.getElem?_append_left (by simp; omega)]
  simp [show ys.length + 1 + j - (ys.length + 1) = j by omega]
theorem quo_last (ys E : List Int) : (ys ++ 34 :: E ++ [34]).getD (ys.length + E.length + 1) 0 = 34 := by
  simp only [List.getD]
  rw [List.getElem?_append_right (by simp; omega)]
  simp [show ys.length + E.length + 1 - (ys.length + (E.length + 1)) = 0 by omega]

/-! a quoted string in the midst of a text -/
theorem mid_get (pre post l1 l2 : List Int) (c : Int) (j : Nat) (h : j < (esc c).length) :
    (pre ++ 34 :: (escs (l1 ++ c :: l2) ++ 34 :: post)).getD (pre.length + 1 + (escs l1).length + j) 0 = (esc c).getD j 0 := by
  have e : pre ++ 34 :: (escs (l1 ++ c :: l2) ++ 34 :: post) = (pre ++ [34] ++ escs l1) ++ (esc c ++ (escs l2 ++ 34 :: post)) := by
    simp [escs]
  rw [e]
  simp only [List.getD]
  rw [List.getElem?_append_right (by simp; omega), List.getElem?_append_left (by simp; omega)]
  congr 2
  simp; omega
theorem mid_open (pre post E : List Int) : (pre ++ 34 :: (E ++ 34 :: post)).getD pre.length 0 = 34 := by simp [List.getD]
theorem mid_shut (pre post E : List Int) : (pre ++ 34 :: (E ++ 34 :: post)).getD (pre.length + 1 + E.length) 0 = 34 := by
  have e : pre ++ 34 :: (E ++ 34 :: post) = (pre ++ [34] ++ E) ++ (34 :: post) := by simp
  rw [e]
  simp only [List.getD]
  rw [List.getElem?_append_right (by simp; omega)]
  simp [show pre.length + 1 + E.length - (pre.length + (E.length + 1)) = 0 by omega]
theorem mid_len (pre post E : List Int) : (pre ++ 34 :: (E ++ 34 :: post)).length = pre.length + E.length + 2 + post.length := by simp; omega
theorem bts_split (s : ByteArray) (k : Nat) (h : k < s.size) : bts s = (bts s).take k ++ (s[k].toNat : Int) :: (bts s).drop (k + 1) := by
  have := List.take_append_drop (k + 1) (bts s)
  rw [bts_snoc s k h] at this
  simpa using this.symm
theorem escs_split_len (l1 l2 : List Int) (c : Int) : (escs l1).length + (esc c).length ≤ (escs (l1 ++ c :: l2)).length := by
  simp [escs]

end Go.Proofs.Qxb6601113a
