/-
  kBuild.
-/
import Derived.Test.Qxb6000140aKH
namespace Go.Proofs.Qxb6000140a
open Go.RowKit

theorem k4cs_get (l : List K4) (i : Nat) (h : i < l.length) : (k4cs l)[i * 4]? = some (.string l[i].mem) ∧ (k4cs l)[i * 4 + 1]? = some (.int .i64 l[i].born) ∧ (k4cs l)[i * 4 + 2]? = some (.bool l[i].lst) ∧ (k4cs l)[i * 4 + 3]? = some (.int .i64 l[i].en) := by
  induction l generalizing i with
  | nil => simp at h
  | cons p l ih =>
    cases i with
    | zero => simp [k4cs, K4.vs]
    | succ i =>
      have := ih i (by simpa using h)
      rw [show (i + 1) * 4 = i * 4 + 1 + 1 + 1 + 1 by omega]
      simpa [k4cs, K4.vs] using this

theorem BStE.part {wA : World} {p : KP} {pp kt : Nat} {w : World} {role : Nat → Nat} (h : BStE wA p pp p.rows.length kt p.runs.length w) (hr : ∀ k, wA.heap.size ≤ k → role k = 0) (hkt : p.ta = none ∨ (kt = p.rates.length ∧ p.rates.length = p.rows.length)) :
    ∃ tv ua uc, PartIs w role pp wA.heap.size tv ua uc p := by
  obtain ⟨tv, uv, R, T, h⟩ := h
  have hlp := h.lp
  have hrl := (h.rows.lt wA.heap.size rfl).2
  have hruns := h.runs
  rw [List.take_length] at hruns
  obtain ⟨ua, uc, huv, hK, hro⟩ : ∃ ua uc, uv = .slice ua p.runs.length uc ∧ K4s w ua p.runs ∧ ∀ b o, ua = some ⟨b, o, none⟩ → role b = 0 ∧ b < w.heap.size := by
    rcases hruns.2 with ⟨e, hn⟩ | ⟨g, cap, cur, e, hg, _⟩
    · exact ⟨none, 0, by rw [e, hn], fun i hi => by omega, fun b o e => by cases e⟩
    · refine ⟨some ⟨g, 0, none⟩, cap, e, fun i hi => ?_, fun b o e' => ?_⟩
      · have := k4cs_get p.runs i hi
        subst e
        rw [← hruns.cellAt _ (by omega), ← hruns.cellAt _ (by omega), ← hruns.cellAt _ (by omega), ← hruns.cellAt _ (by omega)] at this
        exact ⟨g, 0, rfl, by simpa using this⟩
      · have : b = g := by simp at e'; exact e'.1.symm
        subst this
        exact ⟨hr b hg, (hruns.lt b (by rw [e]; rfl)).2⟩
  subst huv
  refine ⟨tv, ua, uc, h.box, hr pp (by omega), fun i hi => ?_, hr _ (Nat.le_refl _), hrl, ?_, hK, hro⟩
  · have := h.rfill i hi hi
    rw [← h.rows.cellAt _ (by omega), ← h.rows.cellAt _ (by omega), ← h.rows.cellAt _ (by omega)] at this
    exact ⟨_, 0, rfl, by simpa using this⟩
  · rcases h.rates with h1 | ⟨h1, tb, h2, h3, h4, h5, h6⟩
    · exact .inl h1
    · rcases hkt with hkt | ⟨hkt, hlen⟩
      · exact absurd hkt h1
      · subst h2
        have htl : tb < w.heap.size := (h4.lt tb rfl).2
        refine .inr ⟨h1, hlen, tb, rfl, hr tb (by omega), htl, fun i hi => ?_⟩
        have := h6 i (by omega) hi
        rw [← h4.cellAt _ (by omega)] at this
        exact ⟨_, 0, rfl, by simpa using this⟩

/-- The runs of the first k parts. -/
def allTo (ps : List KP) : Nat → List Key
  | 0 => []
  | k + 1 => allTo ps k ++ (match ps[k]? with | some p => keysTo p k p.runs.length | none => [])
theorem allTo_succ (ps : List KP) (k : Nat) (h : k < ps.length) : allTo ps (k + 1) = allTo ps k ++ keysTo ps[k] k ps[k].runs.length := by simp [allTo, h]
theorem allTo_len (ps : List KP) : ∀ k, k ≤ ps.length → (allTo ps k).length ≤ cost (ps.take k)
  | 0, _ => by simp [allTo]
  | k + 1, h => by
    rw [allTo_succ ps k h, cost_succ ps k h]
    have := allTo_len ps k (by omega)
    simp [keysTo]
    omega
theorem cost_mono (ps : List KP) : ∀ k, k ≤ ps.length → cost (ps.take k) ≤ cost ps := fun k h => by
  have e : cost ps = cost (ps.take k) + cost (ps.drop k) := by
    have := congrArg cost (List.take_append_drop k ps)
    simp only [cost, List.map_append, List.sum_append] at this ⊢
    omega
  omega

/-- What kBuild leaves. -/
def Built (w : World) (ps : List KP) (pb k : Nat) (w' : World) : Prop :=
  ∃ mb role ov vs F, WorkIs w' w.heap.size role pb mb ov vs (firsts (F.map fun f => f.nm)) F ps ∧ F.map Sp.toKey = allTo ps k ∧ Below w.heap.size w w'

end Go.Proofs.Qxb6000140a
