/-
  A slice of slices that the call owns: every slice a block of its own, told from other blocks by a role; grouping by name. It speaks of no program.
-/
import Derived.Test.Qxb6000140aLib
import Derived.Test.Qxb6000140aMp
namespace Go.Proofs.Qxb6000140a
open Go.RowKit

/-! grouping by name -/
abbrev Pair := Value × Value
def cells2 (l : List Pair) : List Value := l.flatMap fun p => [p.1, p.2]
theorem cells2_len (l : List Pair) : (cells2 l).length = l.length * 2 := by
  induction l with
  | nil => rfl
  | cons p l ih => simp [cells2] at ih ⊢; omega
theorem cells2_snoc (l : List Pair) (p : Pair) : cells2 (l ++ [p]) = cells2 l ++ [p.1, p.2] := by simp [cells2]
theorem cells2_get (l : List Pair) (i : Nat) (h : i < l.length) : (cells2 l)[i * 2]? = some l[i].1 ∧ (cells2 l)[i * 2 + 1]? = some l[i].2 := by
  induction l generalizing i with
  | nil => simp at h
  | cons p l ih =>
    cases i with
    | zero => simp [cells2]
    | succ i =>
      have := ih i (by simpa using h)
      rw [show (i + 1) * 2 = i * 2 + 1 + 1 by omega]
      simpa [cells2] using this

def selV (A : List (ByteArray × Pair)) (s : ByteArray) : List Pair := (A.filter (fun x => decide (x.1 = s))).map (·.2)
def gridOf (N : List ByteArray) (A : List (ByteArray × Pair)) : List (List Pair) := N.map (selV A)

theorem gridOf_len (N : List ByteArray) (A : List (ByteArray × Pair)) : (gridOf N A).length = N.length := by simp [gridOf]
theorem gridOf_get (N : List ByteArray) (A : List (ByteArray × Pair)) (m : Nat) (h : m < N.length) : (gridOf N A)[m]'(by rw [gridOf_len]; exact h) = selV A N[m] := by simp [gridOf]
theorem selV_none (A : List (ByteArray × Pair)) (s : ByteArray) (h : ∀ x ∈ A, x.1 ≠ s) : selV A s = [] := by
  have : A.filter (fun x => decide (x.1 = s)) = [] := List.filter_eq_nil_iff.2 (fun x hx => by simpa using h x hx)
  simp [selV, this]
theorem gridOf_push (N : List ByteArray) (A : List (ByteArray × Pair)) (s : ByteArray) (hA : ∀ x ∈ A, x.1 ∈ N) (hs : s ∉ N) : gridOf (N ++ [s]) A = gridOf N A ++ [[]] := by
  simp [gridOf]
  exact selV_none A s (fun x hx e => hs (e ▸ hA x hx))
theorem selV_snoc (A : List (ByteArray × Pair)) (s t : ByteArray) (x : Pair) : selV (A ++ [(s, x)]) t = if s = t then selV A t ++ [x] else selV A t := by
  by_cases h : s = t <;> simp [selV, h]
theorem nodup_inj {N : List ByteArray} (hN : N.Nodup) {i j : Nat} (hi : i < N.length) (hj : j < N.length) (e : N[i] = N[j]) : i = j := by
  rcases Nat.lt_trichotomy i j with h | h | h
  · exact absurd e (List.pairwise_iff_getElem.1 hN i j hi hj h)
  · exact h
  · exact absurd e.symm (List.pairwise_iff_getElem.1 hN j i hj hi h)
theorem gridOf_add (N : List ByteArray) (A : List (ByteArray × Pair)) (m : Nat) (h : m < N.length) (x : Pair) (hN : N.Nodup) :
    gridOf N (A ++ [(N[m], x)]) = (gridOf N A).set m (selV A N[m] ++ [x]) := by
  apply List.ext_getElem
  · simp [gridOf]
  · intro i h1 h2
    have hi : i < N.length := by simpa [gridOf] using h1
    simp only [gridOf, List.getElem_map, List.getElem_set, selV_snoc]
    by_cases hm : m = i
    · subst hm; simp
    · rw [if_neg (fun e => hm (nodup_inj hN h hi e)), if_neg hm]

/-! names and their places -/
def idxL (N : List ByteArray) : List (ByteArray × Value) := N.zipIdx.map fun p => (p.1, .int .i64 (p.2 : Int))
theorem idxL_snoc (N : List ByteArray) (s : ByteArray) : idxL (N ++ [s]) = idxL N ++ [(s, .int .i64 (N.length : Int))] := by simp [idxL, List.zipIdx_append]
theorem idxL_len (N : List ByteArray) : (idxL N).length = N.length := by simp [idxL]
theorem lk_append (l l' : List (ByteArray × Value)) (s : ByteArray) : lk (l ++ l') s = (lk l s).or (lk l' s) := by
  simp only [lk, List.find?_append]
  cases List.find? (fun p => decide (p.1 = s)) l <;> simp
theorem lk_idx_from (s : ByteArray) : ∀ (N : List ByteArray) (o : Nat), (s ∉ N ∧ lk ((N.zipIdx o).map fun p => (p.1, Value.int .i64 (p.2 : Int))) s = none) ∨ ∃ m, ∃ h : m < N.length, N[m] = s ∧ lk ((N.zipIdx o).map fun p => (p.1, Value.int .i64 (p.2 : Int))) s = some (.int .i64 ((o + m : Nat) : Int))
  | [], o => .inl ⟨by simp, rfl⟩
  | t :: N, o => by
    by_cases hts : t = s
    · exact .inr ⟨0, by simp, by simp [hts], by simp [lk, hts]⟩
    · have e : lk (((t :: N).zipIdx o).map fun p => (p.1, Value.int .i64 (p.2 : Int))) s = lk ((N.zipIdx (o + 1)).map fun p => (p.1, Value.int .i64 (p.2 : Int))) s := by simp [lk, hts]
      rw [e]
      rcases lk_idx_from s N (o + 1) with ⟨h1, h2⟩ | ⟨m, hm, h1, h2⟩
      · exact .inl ⟨by simp [h1]; exact fun e => hts e.symm, h2⟩
      · exact .inr ⟨m + 1, by simp; omega, by simpa using h1, by rw [h2, show o + 1 + m = o + (m + 1) by omega]⟩
theorem lk_idx (N : List ByteArray) (s : ByteArray) : (s ∉ N ∧ lk (idxL N) s = none) ∨ ∃ m, ∃ h : m < N.length, N[m] = s ∧ lk (idxL N) s = some (.int .i64 (m : Int)) := by
  have := lk_idx_from s N 0
  simpa [idxL] using this

/-! what is owned hangs on its own block alone -/
theorem own_of_heap {w w' : World} {base : Nat} {e : TypeId} {size n : Nat} {v : Value} {xs : List Value} (h : w.ownsRow base e size v n xs) (hb : ∀ k, v.ownBlock = some k → w'.heap[k]? = w.heap[k]?) : w'.ownsRow base e size v n xs := by
  refine ⟨h.1, ?_⟩
  rcases h.2 with h2 | ⟨g, cap, cur, hv, hg, hh, r⟩
  · exact .inl h2
  · exact .inr ⟨g, cap, cur, hv, hg, by rw [hb g (by rw [hv]; rfl)]; exact hh, r⟩

/-- The outer slice ov holds the slices vs; slice number j holds the pairs L[j]. Each is a block of its own, of role r. -/
structure Grid (w : World) (base : Nat) (eo ei : TypeId) (role : Nat → Nat) (r : Nat) (ov : Value) (vs : List Value) (L : List (List Pair)) : Prop where
  len : vs.length = L.length
  outer : w.ownsRow base eo 1 ov L.length vs
  inner : ∀ j (h : j < L.length) (h' : j < vs.length), w.ownsRow base ei 2 vs[j] L[j].length (cells2 L[j])
  ro : ∀ k, ov.ownBlock = some k → role k = r
  ri : ∀ j k (h : j < vs.length), vs[j].ownBlock = some k → role k = r
  dio : ∀ j k (h : j < vs.length), vs[j].ownBlock = some k → ov.ownBlock ≠ some k
  dii : ∀ i j k (hi : i < vs.length) (hj : j < vs.length), i ≠ j → vs[i].ownBlock = some k → vs[j].ownBlock ≠ some k

variable {w w' : World} {base : Nat} {eo ei : TypeId} {role role' : Nat → Nat} {r : Nat} {ov : Value} {vs : List Value} {L : List (List Pair)}

theorem grid_nil (w : World) (base : Nat) (eo ei : TypeId) (role : Nat → Nat) (r : Nat) : Grid w base eo ei role r (.slice none 0 0) [] [] :=
  ⟨rfl, World.ownsRow_nil _ _ _ _, fun j h => by simp at h, fun k h => by simp [Value.ownBlock] at h, fun j k h => by simp at h, fun j k h => by simp at h, fun i j k h => by simp at h⟩

theorem Grid.lt (h : Grid w base eo ei role r ov vs L) {k : Nat} (hk : ov.ownBlock = some k ∨ ∃ j, ∃ hj : j < vs.length, vs[j].ownBlock = some k) : k < w.heap.size := by
  rcases hk with hk | ⟨j, hj, hk⟩
  · exact (h.outer.lt k hk).2
  · exact ((h.inner j (by rw [← h.len]; exact hj) hj).lt k hk).2

theorem Grid.frame (h : Grid w base eo ei role r ov vs L) (hk : ∀ k, k < w.heap.size → role k = r → w'.heap[k]? = w.heap[k]?) (hr : ∀ k, k < w.heap.size → role' k = role k) : Grid w' base eo ei role' r ov vs L where
  len := h.len
  outer := own_of_heap h.outer fun k e => hk k (h.lt (.inl e)) (h.ro k e)
  inner j hj hj' := own_of_heap (h.inner j hj hj') fun k e => hk k (h.lt (.inr ⟨j, hj', e⟩)) (h.ri j k hj' e)
  ro k e := (hr k (h.lt (.inl e))).trans (h.ro k e)
  ri j k hj e := (hr k (h.lt (.inr ⟨j, hj, e⟩))).trans (h.ri j k hj e)
  dio := h.dio
  dii := h.dii

/-- New blocks get the role r. -/
def roleUp (role : Nat → Nat) (B r : Nat) : Nat → Nat := fun k => if k < B then role k else r
theorem roleUp_old {B k : Nat} (h : k < B) : roleUp role B r k = role k := by simp [roleUp, h]
theorem roleUp_new {B k : Nat} (h : ¬ k < B) : roleUp role B r k = r := by simp [roleUp, h]

/-- An empty slice more. -/
theorem Grid.push {ov' : Value} (h : Grid w base eo ei role r ov vs L) (ho : w'.ownsRow base eo 1 ov' (L.length + 1) (vs ++ [.slice none 0 0])) (hk : Keeps w w' ov ov') : Grid w' base eo ei (roleUp role w.heap.size r) r ov' (vs ++ [.slice none 0 0]) (L ++ [[]]) where
  len := by simp [h.len]
  outer := by simpa using ho
  inner j hj hj' := by
    by_cases hjl : j < L.length
    · have hjv : j < vs.length := by rw [h.len]; exact hjl
      rw [List.getElem_append_left hjv]
      simp only [List.getElem_append_left hjl]
      exact own_of_heap (h.inner j hjl hjv) fun k e => hk.1 k (h.lt (.inr ⟨j, hjv, e⟩)) (h.dio j k hjv e)
    · have e1 : j = vs.length := by have := h.len; simp at hj'; omega
      have e2 : j = L.length := by have := h.len; omega
      simp only [e1, List.getElem_concat_length]
      rw [show (L ++ [[]])[vs.length]'(by simp [h.len]) = [] by simp [h.len]]
      exact World.ownsRow_nil _ _ _ _
  ro k e := by
    by_cases hkl : k < w.heap.size
    · rw [roleUp_old hkl]; exact h.ro k (hk.2 k e hkl)
    · exact roleUp_new hkl
  ri j k hj e := by
    by_cases hjl : j < vs.length
    · rw [List.getElem_append_left hjl] at e
      rw [roleUp_old (h.lt (.inr ⟨j, hjl, e⟩))]
      exact h.ri j k hjl e
    · have e1 : j = vs.length := by simp at hj; omega
      simp only [e1, List.getElem_concat_length, Value.ownBlock] at e
      cases e
  dio j k hj e := by
    by_cases hjl : j < vs.length
    · rw [List.getElem_append_left hjl] at e
      intro e2
      exact h.dio j k hjl e (hk.2 k e2 (h.lt (.inr ⟨j, hjl, e⟩)))
    · have e1 : j = vs.length := by simp at hj; omega
      simp only [e1, List.getElem_concat_length, Value.ownBlock] at e
      cases e
  dii i j k hi hj hne e := by
    by_cases hil : i < vs.length
    · rw [List.getElem_append_left hil] at e
      by_cases hjl : j < vs.length
      · rw [List.getElem_append_left hjl]; exact h.dii i j k hil hjl hne e
      · have e1 : j = vs.length := by simp at hj; omega
        simp only [e1, List.getElem_concat_length, Value.ownBlock]
        simp
    · have e1 : i = vs.length := by simp at hi; omega
      simp only [e1, List.getElem_concat_length, Value.ownBlock] at e
      cases e

/-- Slice number j has grown by one pair (in the world w1), and the outer slice has been told (w2). -/
theorem Grid.add {w1 w2 : World} {g cap j : Nat} {v' : Value} {x : Pair} (h : Grid w base eo ei role r (.slice (some ⟨g, 0, none⟩) L.length cap) vs L) (hj : j < L.length) (hjv : j < vs.length)
    (ho : w1.ownsRow base ei 2 v' (L[j].length + 1) (cells2 L[j] ++ [x.1, x.2])) (hk : Keeps w w1 vs[j] v') (hw2 : w2 = w1.setCell ⟨g, j, none⟩ v') :
    Grid w2 base eo ei (roleUp role w.heap.size r) r (.slice (some ⟨g, 0, none⟩) L.length cap) (vs.set j v') (L.set j (L[j] ++ [x])) := by
  have hgb : (Value.slice (some ⟨g, 0, none⟩) L.length cap).ownBlock = some g := rfl
  have hgl : g < w.heap.size := h.lt (.inl hgb)
  have o1 : w1.ownsRow base eo 1 (.slice (some ⟨g, 0, none⟩) L.length cap) L.length vs := own_of_heap h.outer fun k e => by
    obtain rfl : g = k := by simpa [Value.ownBlock] using e
    exact hk.1 g hgl (fun e2 => h.dio j g hjv e2 hgb)
  have o2 := o1.stored j v'
  rw [← hw2] at o2
  have hne : ∀ k, v'.ownBlock = some k → k ≠ g := fun k e e2 => by
    subst e2
    exact h.dio j k hjv (hk.2 k e hgl) hgb
  have keep : ∀ k, k ≠ g → k < w1.heap.size → w2.heap[k]? = w1.heap[k]? := fun k hk hl => o2.2.block k hl (by simp; exact hk)
  have old1 : ∀ i (hi : i < vs.length), i ≠ j → ∀ k, vs[i].ownBlock = some k → w1.heap[k]? = w.heap[k]? := fun i hi hij k e =>
    hk.1 k (h.lt (.inr ⟨i, hi, e⟩)) (h.dii i j k hi hjv hij e)
  refine ⟨by simp [h.len], by simpa using o2.1, fun i hi hi' => ?_, fun k e => ?_, fun i k hi e => ?_, fun i k hi e => ?_, fun i i2 k hi hi2 hne2 e => ?_⟩
  · have hil : i < L.length := by simpa using hi
    have hiv : i < vs.length := by simpa using hi'
    by_cases hij : j = i
    · subst hij
      simp only [List.getElem_set_self]
      rw [cells2_snoc, List.length_append]
      exact own_of_heap ho fun k e => keep k (hne k e) (ho.lt k e).2
    · simp only [List.getElem_set_ne hij]
      have := h.inner i hil hiv
      refine own_of_heap this fun k e => ?_
      have hkl : k < w.heap.size := (this.lt k e).2
      have hkg : k ≠ g := fun e2 => h.dio i k hiv e (by rw [e2]; exact hgb)
      have e3 := old1 i hiv (fun e => hij e.symm) k e
      have hk1 : k < w1.heap.size := by
        have : w1.heap[k]?.isSome := by rw [e3]; simp [hkl]
        simpa using this
      exact (keep k hkg hk1).trans e3
  · obtain rfl : g = k := by simpa [Value.ownBlock] using e
    rw [roleUp_old hgl]
    exact h.ro g hgb
  · have hiv : i < vs.length := by simpa using hi
    by_cases hij : j = i
    · subst hij
      simp only [List.getElem_set_self] at e
      by_cases hkl : k < w.heap.size
      · rw [roleUp_old hkl]; exact h.ri j k hjv (hk.2 k e hkl)
      · exact roleUp_new hkl
    · simp only [List.getElem_set_ne hij] at e
      rw [roleUp_old (h.lt (.inr ⟨i, hiv, e⟩))]
      exact h.ri i k hiv e
  · have hiv : i < vs.length := by simpa using hi
    by_cases hij : j = i
    · subst hij
      simp only [List.getElem_set_self] at e
      intro e2
      obtain rfl : g = k := by simpa [Value.ownBlock] using e2
      exact hne g e rfl
    · simp only [List.getElem_set_ne hij] at e
      exact h.dio i k hiv e
  · have hiv : i < vs.length := by simpa using hi
    have hi2v : i2 < vs.length := by simpa using hi2
    by_cases hij : j = i
    · subst hij
      simp only [List.getElem_set_self] at e
      simp only [List.getElem_set_ne hne2]
      intro e2
      have hkl : k < w.heap.size := h.lt (.inr ⟨i2, hi2v, e2⟩)
      exact h.dii j i2 k hjv hi2v hne2 (hk.2 k e hkl) e2
    · simp only [List.getElem_set_ne hij] at e
      by_cases hij2 : j = i2
      · subst hij2
        simp only [List.getElem_set_self]
        intro e2
        have hkl : k < w.heap.size := h.lt (.inr ⟨i, hiv, e⟩)
        exact h.dii i j k hiv hjv hne2 e (hk.2 k e2 hkl)
      · simp only [List.getElem_set_ne hij2]
        exact h.dii i i2 k hiv hi2v hne2 e

end Go.Proofs.Qxb6000140a
