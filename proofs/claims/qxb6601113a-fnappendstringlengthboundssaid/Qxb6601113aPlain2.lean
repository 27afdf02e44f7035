import Derived.Test.Qxb6601113aPlain
namespace Go.Proofs.Qxb6601113a

/-! the quoted string behind what stood there -/
theorem quo_len (ys E : List Int) : (ys ++ 34 :: E ++ [34]).length = ys.length + E.length + 2 := by simp; omega
theorem quo_pre (ys E : List Int) (j : Nat) (h : j < ys.length) : (ys ++ 34 :: E ++ [34]).getD j 0 = ys.getD j 0 := by
  simp [List.getD, List.getElem?_append_left h]
theorem quo_open (ys E : List Int) : (ys ++ 34 :: E ++ [34]).getD ys.length 0 = 34 := by simp [List.getD]
theorem quo_mid (ys E : List Int) (j : Nat) (h : j < E.length) : (ys ++ 34 :: E ++ [34]).getD (ys.length + 1 + j) 0 = E.getD j 0 := by
  have e : ys ++ 34 :: E ++ [34] = (ys ++ [34]) ++ (E ++ [34]) := by simp
  rw [e]
  simp only [List.getD]
  rw [List.getElem?_append_right (by simp), List.getElem?_append_left (by simp; omega)]
  simp [show ys.length + 1 + j - (ys.length + 1) = j by omega]
theorem quo_last (ys E : List Int) : (ys ++ 34 :: E ++ [34]).getD (ys.length + E.length + 1) 0 = 34 := by
  simp only [List.getD]
  rw [List.getElem?_append_right (by simp; omega)]
  simp [show ys.length + E.length + 1 - (ys.length + (E.length + 1)) = 0 by omega]

end Go.Proofs.Qxb6601113a
