/-
  A part being built: the steps of kBuild as contracts over one state.
-/
import Derived.Test.Qxb6000140aKG
namespace Go.Proofs.Qxb6000140a
open Go.RowKit

/-- The rows up to kr, the rates up to kt, the runs up to ku are laid. -/
structure BSt (wA : World) (p : KP) (pp : Nat) (tv uv : Value) (R T : List Value) (kr kt ku : Nat) (w : World) : Prop where
  box : Box w pp #[.pointer none, .slice (some ⟨wA.heap.size, 0, none⟩) p.rows.length p.rows.length, tv, uv] 95
  lp : wA.heap.size < pp
  rows : w.ownsRow wA.heap.size 91 3 (.slice (some ⟨wA.heap.size, 0, none⟩) p.rows.length p.rows.length) p.rows.length R
  rfill : ∀ t (_ : t < kr) (h : t < p.rows.length), R[t * 3]? = some (.int .i32 p.rows[t].mo) ∧ R[t * 3 + 1]? = some (.int .u32 p.rows[t].li) ∧ R[t * 3 + 2]? = some (.int .i64 p.rows[t].ho)
  rates : (p.ta = none ∧ tv = .slice none 0 0) ∨ (p.ta ≠ none ∧ ∃ tb, tv = .slice (some ⟨tb, 0, none⟩) p.rows.length p.rows.length ∧ pp < tb ∧ w.ownsRow wA.heap.size 31 1 tv p.rows.length T ∧ uv.ownBlock ≠ some tb ∧ ∀ t (_ : t < kt) (h : t < p.rates.length), T[t]? = some (.int .i64 p.rates[t]))
  runs : w.ownsRow wA.heap.size 97 4 uv ku (k4cs (p.runs.take ku))
  nu : uv.ownBlock ≠ some pp ∧ uv.ownBlock ≠ some wA.heap.size
  bel : Below wA.heap.size wA w

def BStE (wA : World) (p : KP) (pp kr kt ku : Nat) (w : World) : Prop := ∃ tv uv R T, BSt wA p pp tv uv R T kr kt ku w
def StepPost (wA : World) (p : KP) (pp kr kt ku : Nat) (e : Ending) (w : World) : Prop := e = .returned (.tuple #[]) ∧ BStE wA p pp kr kt ku w

theorem newPart_st (wA : World) (p : KP) (hn : p.rows.length ≤ 65536) : Calls Try.prog 35 #[.int .i64 (p.rows.length : Int), .bool (!p.ta.isNone)] wA fun e w => ∃ pp, e = .returned (.pointer (some ⟨pp, 0, none⟩)) ∧ BStE wA p pp 0 0 0 w := by
  refine (newPart_any p.rows.length (!p.ta.isNone) wA hn).mono ?_
  rintro e w ⟨pp, tv, R, rfl, hlp, hb, hr, hbel, ht⟩
  rcases ht with ⟨h1, rfl⟩ | ⟨h1, tb, T, rfl, h2, h3⟩
  · exact ⟨pp, rfl, _, _, R, [], hb, hlp, hr, fun t h => by omega, .inl ⟨by simpa using h1, rfl⟩, by simpa [k4cs] using World.ownsRow_nil w wA.heap.size 97 4, ⟨by simp [Value.ownBlock], by simp [Value.ownBlock]⟩, hbel⟩
  · exact ⟨pp, rfl, _, _, R, T, hb, hlp, hr, fun t h => by omega, .inr ⟨by intro e; rw [e] at h1; simp at h1, tb, rfl, h2, h3, by simp [Value.ownBlock], fun t h => by omega⟩, by simpa [k4cs] using World.ownsRow_nil w wA.heap.size 97 4, ⟨by simp [Value.ownBlock], by simp [Value.ownBlock]⟩, hbel⟩

theorem setRow_st (wA : World) (p : KP) (pp k kt : Nat) (w : World) (h : BStE wA p pp k kt 0 w) (hk : k < p.rows.length) :
    Calls Try.prog 36 #[.pointer (some ⟨pp, 0, none⟩), .int .i64 (k : Int), .int .i32 p.rows[k].mo, .int .u32 p.rows[k].li, .int .i64 p.rows[k].ho] w (StepPost wA p pp (k + 1) kt 0) := by
  obtain ⟨tv, uv, R, T, h⟩ := h
  refine (setRow_any pp wA.heap.size p.rows.length wA.heap.size tv uv R k _ _ _ w h.box h.rows hk).mono ?_
  rintro e w' ⟨rfl, ho, hg⟩
  have hl : R.length = p.rows.length * 3 := h.rows.1
  have hpl := h.lp
  refine ⟨rfl, tv, uv, _, T, h.box.of_heap (hg.block pp h.box.lt (by simp; omega)), h.lp, ho, fun t ht ht' => ?_, ?_, ?_, h.nu, h.bel.trans ((Below.refl _ _).grown hg h.bel.size (fun j hj => by cases hj; exact Nat.le_refl _))⟩
  · by_cases e : t = k
    · subst e
      refine ⟨?_, ?_, ?_⟩
      · rw [List.getElem?_set_ne (by omega), List.getElem?_set_ne (by omega), List.getElem?_set_self (by omega)]
      · rw [List.getElem?_set_ne (by omega), List.getElem?_set_self (by simp; omega)]
      · rw [List.getElem?_set_self (by simp; omega)]
    · have := h.rfill t (by omega) ht'
      rw [List.getElem?_set_ne (by omega), List.getElem?_set_ne (by omega), List.getElem?_set_ne (by omega), List.getElem?_set_ne (by omega), List.getElem?_set_ne (by omega), List.getElem?_set_ne (by omega), List.getElem?_set_ne (by omega), List.getElem?_set_ne (by omega), List.getElem?_set_ne (by omega)]
      exact this
  · rcases h.rates with h1 | ⟨h1, tb, h2, h3, h4, h5, h6⟩
    · exact .inl h1
    · exact .inr ⟨h1, tb, h2, h3, h4.kept hg (.inr (by rw [h2]; simp [Value.ownBlock]; omega)), h5, h6⟩
  · exact h.runs.kept hg (.inr h.nu.2)

theorem setRate_st (wA : World) (p : KP) (pp kr k : Nat) (w : World) (h : BStE wA p pp kr k 0 w) (hta : p.ta ≠ none) (hrl : p.rates.length = p.rows.length) (hk : k < p.rates.length) :
    Calls Try.prog 37 #[.pointer (some ⟨pp, 0, none⟩), .int .i64 (k : Int), .int .i64 p.rates[k]] w (StepPost wA p pp kr (k + 1) 0) := by
  obtain ⟨tv, uv, R, T, h⟩ := h
  have hpl := h.lp
  rcases h.rates with ⟨h1, _⟩ | ⟨h1, tb, h2, h3, h4, h5, h6⟩
  · exact absurd h1 hta
  · subst h2
    refine (setRate_any pp tb p.rows.length wA.heap.size _ uv T k _ w h.box h4 (by omega)).mono ?_
    rintro e w' ⟨rfl, ho, hg⟩
    have hl : T.length = p.rows.length * 1 := h4.1
    refine ⟨rfl, _, uv, R, _, h.box.of_heap (hg.block pp h.box.lt (by simp; omega)), h.lp, h.rows.kept hg (.inr (by simp [Value.ownBlock]; omega)), h.rfill, .inr ⟨h1, tb, rfl, h3, ho, h5, fun t ht ht' => ?_⟩, h.runs.kept hg (.inr h5), h.nu, h.bel.trans ((Below.refl _ _).grown hg h.bel.size (fun j hj => by cases hj; omega))⟩
    by_cases e : t = k
    · subst e; rw [List.getElem?_set_self (by omega)]
    · rw [List.getElem?_set_ne (by omega)]; exact h6 t (by omega) ht'

theorem addRun_st (wA : World) (p : KP) (pp kr kt k : Nat) (w : World) (h : BStE wA p pp kr kt k w) (hk : k < p.runs.length) (hu : p.runs.length ≤ 32768) :
    Calls Try.prog 38 #[.pointer (some ⟨pp, 0, none⟩), .string p.runs[k].mem, .int .i64 p.runs[k].born, .bool p.runs[k].lst, .int .i64 p.runs[k].en] w (StepPost wA p pp kr kt (k + 1)) := by
  obtain ⟨tv, uv, R, T, h⟩ := h
  have hpl := h.lp
  have htk : (p.runs.take k).length = k := by simp; omega
  refine (addRun_any pp wA.heap.size _ tv uv (p.runs.take k) p.runs[k] w h.box (by rw [htk]; exact h.runs) (by omega) (by omega) h.nu.1).mono ?_
  rintro e w' ⟨rfl, uv', hb, ho, hbel, hkeep, hnew⟩
  have hrl := (h.rows.lt wA.heap.size rfl).2
  rw [htk, ← List.take_succ_eq_append_getElem hk] at ho
  refine ⟨rfl, tv, uv', R, T, hb, h.lp, own_of_heap h.rows (fun j hj => ?_), h.rfill, ?_, ho, ⟨fun e => ?_, fun e => ?_⟩, h.bel.trans hbel⟩
  · obtain rfl : wA.heap.size = j := by simpa [Value.ownBlock] using hj
    exact hkeep _ hrl (by omega) h.nu.2
  · rcases h.rates with h1 | ⟨h1, tb, h2, h3, h4, h5, h6⟩
    · exact .inl h1
    · have htl : tb < w.heap.size := (h4.lt tb (by rw [h2]; rfl)).2
      refine .inr ⟨h1, tb, h2, h3, own_of_heap h4 (fun j hj => ?_), fun e => ?_, h6⟩
      · obtain rfl : tb = j := by rw [h2] at hj; simpa [Value.ownBlock] using hj
        exact hkeep _ htl (by omega) h5
      · rcases hnew tb e with h | h
        · exact h5 h
        · omega
  · rcases hnew pp e with h' | h'
    · exact h.nu.1 h'
    · have := h.box.lt; omega
  · rcases hnew _ e with h' | h'
    · exact h.nu.2 h'
    · omega

end Go.Proofs.Qxb6000140a
