import Derived.Test.Qxb6000140aBeC
namespace Go.Proofs.Qxb6000140a
open Go.RowKit
attribute [local go_sem] cell_grow frozen_grow

def sameB (a b : Q4) : Bool := a.m == b.m && (a.h == b.h && (a.r == b.r && a.l == b.l))
def Q4.agg (q : Q4) : Value := .agg #[.int .i64 q.m, .int .i64 q.h, .int .i64 q.r, .int .i64 q.l]

/-! bSame -/
theorem same_any (a b : Q4) (w : World) : Calls Try.prog 13 #[.agg #[.int .i64 a.m, .int .i64 a.h, .int .i64 a.r, .int .i64 a.l], .agg #[.int .i64 b.m, .int .i64 b.h, .int .i64 b.r, .int .i64 b.l]] w fun e w' => e = .returned (.bool (sameB a b)) ∧ w' = (w.alloc (.cells #[.int .i64 a.m, .int .i64 a.h, .int .i64 a.r, .int .i64 a.l] 33)).alloc (.cells #[.int .i64 b.m, .int .i64 b.h, .int .i64 b.r, .int .i64 b.l] 30) := by
  obtain ⟨am, ah, ar, al⟩ := a
  obtain ⟨bm, bh, br, bl⟩ := b
  simp only [sameB]
  by_cases em : (am == bm) = true
  rotate_left
  · have dm : (am == bm) = false := by simpa using em
    clear em
    go_enter Try.func13, Try.ntmps13
    go_wp2
    go_ret
    exact ⟨by simp [dm], rfl⟩
  by_cases eh : (ah == bh) = true
  rotate_left
  · have dh : (ah == bh) = false := by simpa using eh
    clear eh
    go_enter Try.func13, Try.ntmps13
    go_wp2
    go_ret
    exact ⟨by simp [em, dh], rfl⟩
  by_cases er : (ar == br) = true
  rotate_left
  · have dr : (ar == br) = false := by simpa using er
    clear er
    go_enter Try.func13, Try.ntmps13
    go_wp2
    go_ret
    exact ⟨by simp [em, eh, dr], rfl⟩
  by_cases el : (al == bl) = true
  rotate_left
  · have dl : (al == bl) = false := by simpa using el
    clear el
    go_enter Try.func13, Try.ntmps13
    go_wp2
    go_ret
    exact ⟨by simp [em, eh, er, dl], rfl⟩
  go_enter Try.func13, Try.ntmps13
  go_wp2
  go_ret
  exact ⟨by simp [em, eh, er, el], rfl⟩

/-! the plain law: the greedy match of a filter goes through -/
theorem flt_at (m : Int) (l : List Q4) (k : Nat) (hk : k < l.length) (hm : l[k].m < m) : (flt m l)[(flt m (l.take k)).length]? = some l[k] := by
  have e : l = l.take k ++ l[k] :: l.drop (k + 1) := by simp
  have e2 : flt m (l.take k ++ l[k] :: l.drop (k + 1)) = flt m (l.take k) ++ l[k] :: flt m (l.drop (k + 1)) := by
    unfold flt
    rw [List.filter_append, List.filter_cons_of_pos (by simpa using hm)]
  rw [← e] at e2
  rw [e2]
  simp
theorem same_refl (a : Q4) : sameB a a = true := by simp [sameB]
theorem greedy_step (m : Int) (l : List Q4) (k j : Nat) (hk : k < l.length) (hj : j < (flt m l).length) (h : (flt m (l.take k)).length ≤ j) :
    (flt m (l.take (k + 1))).length ≤ if sameB (flt m l)[j] l[k] = true then j + 1 else j := by
  rw [List.take_succ_eq_append_getElem hk, flt_snoc, List.length_append]
  by_cases hm : l[k].m < m
  · rw [if_pos hm]
    split
    · simp; omega
    · rename_i hs
      rcases Nat.lt_or_ge (flt m (l.take k)).length j with h1 | h1
      · simp; omega
      · have e : (flt m (l.take k)).length = j := by omega
        have := flt_at m l k hk hm
        rw [e, List.getElem?_eq_getElem hj] at this
        rw [Option.some.inj this] at hs
        exact absurd (same_refl _) hs
  · rw [if_neg hm]
    split <;> simp <;> omega
theorem flt_lt (m : Int) (l : List Q4) (j : Nat) (hj : j < (flt m l).length) : (flt m l)[j].m < m := by
  have := List.getElem_mem hj
  simp only [flt, List.mem_filter, decide_eq_true_eq] at this
  exact this.2

end Go.Proofs.Qxb6000140a
