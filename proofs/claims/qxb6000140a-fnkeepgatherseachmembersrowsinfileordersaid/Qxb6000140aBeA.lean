import Derived.Test.Qxb6000140aProg
import Derived.Test.Qxb6000140aLib
import Derived.BigQuiet
import Derived.Deep.QuietTactic
import Derived.Deep.RegionWith
import Derived.WalkSmall
namespace Go.Proofs.Qxb6000140a
open Go.RowKit

theorem hid {p : Prop} (h : p) : Hid p := h

/-- A row of work: month, hours, rate, line. -/
structure Q4 where
  m : Int
  h : Int
  r : Int
  l : Int

def Q4.vs (q : Q4) : List Value := [.int .i64 q.m, .int .i64 q.h, .int .i64 q.r, .int .i64 q.l]
def qcs (l : List Q4) : List Value := l.flatMap Q4.vs

theorem qcs_snoc (l : List Q4) (q : Q4) : qcs (l ++ [q]) = qcs l ++ q.vs := by simp [qcs]
theorem qcs_len (l : List Q4) : (qcs l).length = l.length * 4 := by
  induction l with
  | nil => rfl
  | cons p l ih => simp [qcs, Q4.vs] at ih ⊢; omega
theorem qcs_get (l : List Q4) (i : Nat) (h : i < l.length) : (qcs l)[i * 4]? = some (.int .i64 l[i].m) ∧ (qcs l)[i * 4 + 1]? = some (.int .i64 l[i].h) ∧ (qcs l)[i * 4 + 2]? = some (.int .i64 l[i].r) ∧ (qcs l)[i * 4 + 3]? = some (.int .i64 l[i].l) := by
  induction l generalizing i with
  | nil => simp at h
  | cons p l ih =>
    cases i with
    | zero => simp [qcs, Q4.vs]
    | succ i =>
      have := ih i (by simpa using h)
      simp only [qcs, List.flatMap_cons] at this ⊢
      have hl : p.vs.length = 4 := rfl
      rw [List.getElem?_append_right (by omega), List.getElem?_append_right (by omega), List.getElem?_append_right (by omega), List.getElem?_append_right (by omega)]
      simp only [hl, show (i + 1) * 4 - 4 = i * 4 by omega, show (i + 1) * 4 + 1 - 4 = i * 4 + 1 by omega, show (i + 1) * 4 + 2 - 4 = i * 4 + 2 by omega, show (i + 1) * 4 + 3 - 4 = i * 4 + 3 by omega, List.getElem_cons_succ]
      exact this

/-- The rows l lie in block g from offset o on. -/
def RQ (w : World) (g o : Nat) (l : List Q4) : Prop := ∀ i (h : i < l.length), w.cell? ⟨g, o + i * 4, none⟩ = some (.int .i64 l[i].m) ∧ w.cell? ⟨g, o + i * 4 + 1, none⟩ = some (.int .i64 l[i].h) ∧ w.cell? ⟨g, o + i * 4 + 2, none⟩ = some (.int .i64 l[i].r) ∧ w.cell? ⟨g, o + i * 4 + 3, none⟩ = some (.int .i64 l[i].l)

theorem RQ.later {w w' : World} {g o : Nat} {l : List Q4} (h : RQ w g o l) (hb : Below w.heap.size w w') : RQ w' g o l :=
  fun i hi => ⟨cell_later hb (h i hi).1, cell_later hb (h i hi).2.1, cell_later hb (h i hi).2.2.1, cell_later hb (h i hi).2.2.2⟩

theorem rq_of_own {w : World} {base : Nat} {e : TypeId} {g n cap : Nat} {l : List Q4} (h : w.ownsRow base e 4 (.slice (some ⟨g, 0, none⟩) n cap) n (qcs l)) (hl : l.length = n) : RQ w g 0 l := by
  intro i hi
  have := qcs_get l i hi
  rw [← h.cellAt _ (by omega), ← h.cellAt _ (by omega), ← h.cellAt _ (by omega), ← h.cellAt _ (by omega)] at this
  simpa using this

theorem own_later {w w' : World} {base : Nat} {e : TypeId} {size n : Nat} {v : Value} {xs : List Value} (h : w.ownsRow base e size v n xs) (hb : Below w.heap.size w w') : w'.ownsRow base e size v n xs := by
  refine ⟨h.1, ?_⟩
  rcases h.2 with h2 | ⟨g, cap, cur, hv, hg, hh, r⟩
  · exact .inl h2
  · exact .inr ⟨g, cap, cur, hv, hg, by rw [hb.block g (lt_of_block hh)]; exact hh, r⟩

/-! ZZWorkRow -/
theorem workRow_any (m h r l : Int) (w : World) : Calls Try.prog 33 #[.int .i64 m, .int .i64 h, .int .i64 r, .int .i64 l] w fun e w' => e = .returned (.agg #[.int .i64 m, .int .i64 h, .int .i64 r, .int .i64 l]) ∧ w' = w.alloc (.cells #[.int .i64 m, .int .i64 h, .int .i64 r, .int .i64 l] 33) := by
  go_enter Try.func33, Try.ntmps33
  go_wp2
  refine bodyPost_ret (v := .agg #[.int .i64 m, .int .i64 h, .int .i64 r, .int .i64 l]) (by simp [results, Try.results33, go_sem]) rfl ?_
  exact ⟨rfl, rfl⟩

theorem Try.info33 : (Try.prog.info? 33).map (fun i => (i.zero, i.size, i.bytes)) = some (some (.agg #[.int .i64 0, .int .i64 0, .int .i64 0, .int .i64 0]), 4, 32) := by kernel_rfl

end Go.Proofs.Qxb6000140a
