import Derived.Test.Qxb6601113aDocD
import Derived.Test.Qxb6601113aRtWalk
namespace Go.Proofs.Qxb6601113a
open Go.RowKit

/-! zzExpectByte where the byte stands -/
theorem exp_at (g nq cq p : Nat) (c P : Int) (w : World) (hP : P = (p : Int)) (hq : nq ≤ 1073741824) (hp : p < nq) (hc : w.cell? ⟨g, p, none⟩ = some (.int .u8 c)) :
    Calls Try.prog 18 #[.slice (some ⟨g, 0, none⟩) nq cq, .int .i64 P, .int .u8 c] w fun e w' => ∃ N : Nat, e = .returned (.tuple #[.int .i64 (N : Int), .bool true]) ∧ w = w' ∧ Hid (N = p + 1) := by
  subst hP
  have d1 : decide ((0 : Int) ≤ (p : Int)) = true := by simp
  have d2 : decide ((p : Int) < (nq : Int)) = true := by simp; omega
  go_enter Try.func18, Try.ntmps18
  go_wp2
  go_ret2
  exact ⟨p + 1, by simp, rfl, rfl⟩

/-! zzScanString where a quoted string stands -/
theorem scan_at (g nq cq p : Nat) (P : Int) (Q pre post : List Int) (s : ByteArray) (w : World) (hP : P = (p : Int)) (hpre : pre.length = p) (hnq : Q.length = nq) (hQ : Q = pre ++ (quoted s ++ post)) (hq : nq ≤ 1073741824) (hs : s.size ≤ 1048576)
    (hc : ∀ j, j < nq → w.cell? ⟨g, j, none⟩ = some (.int .u8 (Q.getD j 0))) :
    Calls Try.prog 10 #[.slice (some ⟨g, 0, none⟩) nq cq, .int .i64 P] w fun e w' => ∃ (v : Value) (N : Nat), e = .returned (.tuple #[v, .int .i64 (N : Int), .bool true]) ∧ OB w' w.heap.size v (bts s) ∧ Below w.heap.size w w' ∧ Hid (N = p + (quoted s).length) := by
  subst hP
  have e : Q = pre ++ 34 :: (escs (bts s) ++ 34 :: post) := by rw [hQ]; simp [quoted]
  refine (scan_any g 0 nq cq p (escs (bts s)).length pre post s w hpre rfl (by rw [← hnq, e, mid_len, hpre]) hq hs (fun j hj => by rw [Nat.zero_add, hc j hj, e])).mono ?_
  rintro e' w' ⟨v, rfl, ho, hb⟩
  exact ⟨v, _, rfl, ho, hb, by simp [Hid, quoted]; omega⟩

/-! zzDocValue -/
theorem val0 (a b c d : ByteArray) (w : World) : Calls Try.prog 20 #[.int .i64 0, .string a, .string b, .string c, .string d] w fun e w' => e = .returned (.string a) ∧ w' = w := by
  go_enter Try.func20, Try.ntmps20
  go_wp2
  go_ret
  exact ⟨rfl, rfl⟩
theorem val1 (a b c d : ByteArray) (w : World) : Calls Try.prog 20 #[.int .i64 1, .string a, .string b, .string c, .string d] w fun e w' => e = .returned (.string b) ∧ w' = w := by
  go_enter Try.func20, Try.ntmps20
  go_wp2
  go_ret
  exact ⟨rfl, rfl⟩
theorem val2 (a b c d : ByteArray) (w : World) : Calls Try.prog 20 #[.int .i64 2, .string a, .string b, .string c, .string d] w fun e w' => e = .returned (.string c) ∧ w' = w := by
  go_enter Try.func20, Try.ntmps20
  go_wp2
  go_ret
  exact ⟨rfl, rfl⟩
theorem val3 (a b c d : ByteArray) (w : World) : Calls Try.prog 20 #[.int .i64 3, .string a, .string b, .string c, .string d] w fun e w' => e = .returned (.string d) ∧ w' = w := by
  go_enter Try.func20, Try.ntmps20
  go_wp2
  go_ret
  exact ⟨rfl, rfl⟩

/-- the bytes of []byte(s) -/
theorem bytes_cell (w : World) (s : ByteArray) (c j : Nat) (hj : j < s.size) (fr : Nat × Nat) : (w.alloc (.cells (bytesRow s c) 5 fr)).cell? ⟨w.heap.size, j, none⟩ = some (.int .u8 ((bts s).getD j 0)) := by
  rw [World.cell?_alloc_mark, bts_getD s j hj, bytesRow_at s c j hj]
  rfl
theorem getD_at (A B : List Int) (c : Int) : (A ++ c :: B).getD A.length 0 = c := by simp [List.getD]

theorem exp_q (g nq cq p : Nat) (c P : Int) (Q A B : List Int) (w : World) (hP : P = (p : Int)) (hA : A.length = p) (hnq : Q.length = nq) (hQ : Q = A ++ c :: B) (hq : nq ≤ 1073741824)
    (hc : ∀ j, j < nq → w.cell? ⟨g, j, none⟩ = some (.int .u8 (Q.getD j 0))) :
    Calls Try.prog 18 #[.slice (some ⟨g, 0, none⟩) nq cq, .int .i64 P, .int .u8 c] w fun e w' => ∃ N : Nat, e = .returned (.tuple #[.int .i64 (N : Int), .bool true]) ∧ w = w' ∧ Hid (N = p + 1) := by
  have hp : p < nq := by rw [← hnq, hQ, ← hA]; simp
  exact exp_at g nq cq p c P w hP hq hp (by rw [hc p hp, hQ, ← hA, getD_at])

theorem hideIt {p : Prop} (h : p) : Hid p := h

end Go.Proofs.Qxb6601113a
