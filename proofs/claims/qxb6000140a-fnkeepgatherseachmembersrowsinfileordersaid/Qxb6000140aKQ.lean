/-
  The law on keep: what its checks look at.
-/
import Derived.Test.Qxb6000140aKO
namespace Go.Proofs.Qxb6000140a
open Go.RowKit

theorem Grid.look {w : World} {base : Nat} {eo ei : TypeId} {role : Nat → Nat} {r g n cap : Nat} {vs : List Value} {L : List (List Pair)} (h : Grid w base eo ei role r (.slice (some ⟨g, 0, none⟩) n cap) vs L) (hn : n = L.length) {j : Nat} (hj : j < L.length) :
    ∃ a c, w.cell? ⟨g, j, none⟩ = some (.slice a L[j].length c) ∧ ∀ k (hk : k < L[j].length), ∃ gj, a = some ⟨gj, 0, none⟩ ∧ w.cell? ⟨gj, k * 2, none⟩ = some L[j][k].1 ∧ w.cell? ⟨gj, k * 2 + 1, none⟩ = some L[j][k].2 := by
  subst hn
  have hjv : j < vs.length := by rw [h.len]; exact hj
  have hi := h.inner j hj hjv
  have hc : w.cell? ⟨g, j, none⟩ = some vs[j] := by rw [h.outer.cellAt j (by omega)]; simp
  obtain ⟨a, c, e, hg⟩ := own_shape hi
  refine ⟨a, c, by rw [hc, e], fun k hk => ?_⟩
  obtain ⟨gj, hgj⟩ := hg (by omega)
  subst hgj
  rw [e] at hi
  have := cells2_get L[j] k hk
  exact ⟨gj, rfl, by rw [hi.cellAt _ (by omega)]; exact this.1, by rw [hi.cellAt _ (by omega)]; exact this.2⟩

theorem selV_map {α : Type} (l : List α) (nm : α → ByteArray) (v : α → Pair) (s : ByteArray) : selV (l.map fun x => (nm x, v x)) s = (l.filter fun x => decide (nm x = s)).map v := by
  unfold selV
  induction l with
  | nil => rfl
  | cons x l ih => by_cases h : nm x = s <;> simp [h] at ih ⊢ <;> exact ih

def Key.two (k : Key) : Pair := (.int .i64 (k.pt : Int), .int .i64 (k.n : Int))
def Rf.two (g : Rf) : Pair := (.int .i64 (g.pt : Int), .int .i64 (g.row : Int))

/-- A member's books, at place j: the law's runs, the law's rows, the Work's spans. -/
structure JOk (w : World) (role : Nat → Nat) (ps : List KP) (g0 gs gw j : Nat) (KS : List Key) : Prop where
  s : ∃ a c, w.cell? ⟨gs, j, none⟩ = some (.slice a KS.length c) ∧ ∀ k (h : k < KS.length), ∃ g, a = some ⟨g, 0, none⟩ ∧ w.cell? ⟨g, k * 2, none⟩ = some (.int .i64 (KS[k].pt : Int)) ∧ w.cell? ⟨g, k * 2 + 1, none⟩ = some (.int .i64 (KS[k].n : Int))
  r : ∃ a c, w.cell? ⟨gw, j, none⟩ = some (.slice a (KS.flatMap Key.rows).length c) ∧ ∀ t (h : t < (KS.flatMap Key.rows).length), ∃ g, a = some ⟨g, 0, none⟩ ∧ w.cell? ⟨g, t * 2, none⟩ = some (.int .i64 ((KS.flatMap Key.rows)[t].pt : Int)) ∧ w.cell? ⟨g, t * 2 + 1, none⟩ = some (.int .i64 ((KS.flatMap Key.rows)[t].row : Int))
  k : ∃ a c, w.cell? ⟨g0, j, none⟩ = some (.slice a KS.length c) ∧ ∀ k (h : k < KS.length), ∃ g, a = some ⟨g, 0, none⟩ ∧ ∃ f : Sp, f.toKey = KS[k] ∧ w.cell? ⟨g, k * 2, none⟩ = some f.rv ∧ w.cell? ⟨g, k * 2 + 1, none⟩ = some f.tv ∧ SpanOk w role ps f

theorem JOk.later {w w' : World} {role : Nat → Nat} {ps : List KP} {g0 gs gw j : Nat} {KS : List Key} (h : JOk w role ps g0 gs gw j KS) (hb : Below w.heap.size w w') : JOk w' role ps g0 gs gw j KS := by
  obtain ⟨⟨a1, c1, e1, h1⟩, ⟨a2, c2, e2, h2⟩, ⟨a3, c3, e3, h3⟩⟩ := h
  refine ⟨⟨a1, c1, cell_later hb e1, fun k hk => ?_⟩, ⟨a2, c2, cell_later hb e2, fun k hk => ?_⟩, ⟨a3, c3, cell_later hb e3, fun k hk => ?_⟩⟩
  · obtain ⟨g, hg, x, y⟩ := h1 k hk
    exact ⟨g, hg, cell_later hb x, cell_later hb y⟩
  · obtain ⟨g, hg, x, y⟩ := h2 k hk
    exact ⟨g, hg, cell_later hb x, cell_later hb y⟩
  · obtain ⟨g, hg, f, hf, x, y, z⟩ := h3 k hk
    exact ⟨g, hg, f, hf, cell_later hb x, cell_later hb y, z.frame (.of_below hb)⟩

theorem jok {w : World} {base base' : Nat} {role role' : Nat → Nat} {pb mb im g0 gs gw oc sc wc j : Nat} {nv : Value} {vs svs wvs : List Value} {N : List ByteArray} {F : List Sp} {ps : List KP} {K : List Key}
    (W : WorkIs w base role pb mb (.slice (some ⟨g0, 0, none⟩) N.length oc) vs N F ps) (LW : LawIs w base' role' im nv (.slice (some ⟨gs, 0, none⟩) N.length sc) svs (.slice (some ⟨gw, 0, none⟩) N.length wc) wvs N N N N K (K.flatMap Key.rows))
    (hK : F.map Sp.toKey = K) (hj : j < N.length) : JOk w role ps g0 gs gw j (K.filter fun k => decide (k.nm = N[j])) := by
  refine ⟨?_, ?_, ?_⟩
  · have := LW.gs.look (gridOf_len _ _).symm (j := j) (by rw [gridOf_len]; exact hj)
    rw [gridOf_get N _ j hj, show K.map Key.ent = K.map (fun x => (x.nm, x.two)) from rfl, selV_map] at this
    obtain ⟨a, c, h1, h2⟩ := this
    refine ⟨a, c, by simpa using h1, fun k hk => ?_⟩
    obtain ⟨g, e, x, y⟩ := h2 k (by simpa using hk)
    refine ⟨g, e, ?_, ?_⟩
    · rw [x]; simp [Key.two]
    · rw [y]; simp [Key.two]
  · have := LW.gw.look (gridOf_len _ _).symm (j := j) (by rw [gridOf_len]; exact hj)
    rw [gridOf_get N _ j hj, show (K.flatMap Key.rows).map Rf.ent = (K.flatMap Key.rows).map (fun x => (x.nm, x.two)) from rfl, selV_map, filter_rows] at this
    obtain ⟨a, c, h1, h2⟩ := this
    refine ⟨a, c, by rw [h1, List.length_map], fun k hk => ?_⟩
    obtain ⟨g, e, x, y⟩ := h2 k (by rw [List.length_map]; exact hk)
    refine ⟨g, e, ?_, ?_⟩
    · rw [x, List.getElem_map]; rfl
    · rw [y, List.getElem_map]; rfl
  · have := W.grid.look (gridOf_len _ _).symm (j := j) (by rw [gridOf_len]; exact hj)
    rw [gridOf_get N _ j hj, show F.map Sp.ent = F.map (fun x => (x.nm, (x.rv, x.tv))) from rfl, selV_map] at this
    have hl : (F.filter fun x => decide (x.nm = N[j])).map Sp.toKey = K.filter fun k => decide (k.nm = N[j]) := by
      rw [← hK, List.filter_map]; rfl
    have hll := congrArg List.length hl
    rw [List.length_map] at hll
    obtain ⟨a, c, h1, h2⟩ := this
    refine ⟨a, c, by rw [h1, List.length_map, hll], fun k hk => ?_⟩
    obtain ⟨g, e, x, y⟩ := h2 k (by rw [List.length_map, hll]; exact hk)
    have hkf : k < (F.filter fun x => decide (x.nm = N[j])).length := by rw [hll]; exact hk
    refine ⟨g, e, (F.filter fun x => decide (x.nm = N[j]))[k], ?_, ?_, ?_, W.sp _ (List.mem_filter.1 (List.getElem_mem hkf)).1⟩
    · have : ((F.filter fun x => decide (x.nm = N[j])).map Sp.toKey)[k]? = (K.filter fun k => decide (k.nm = N[j]))[k]? := by rw [hl]
      rw [List.getElem?_map, List.getElem?_eq_getElem hkf, List.getElem?_eq_getElem hk] at this
      simpa using this
    · rw [x, List.getElem_map]
    · rw [y, List.getElem_map]

theorem lk_idx_get {N : List ByteArray} (hN : N.Nodup) {j : Nat} (hj : j < N.length) : lk (idxL N) N[j] = some (.int .i64 (j : Int)) := by
  rcases lk_idx N N[j] with ⟨h1, _⟩ | ⟨m, hm, h1, h2⟩
  · exact absurd (List.getElem_mem hj) h1
  · rw [h2, nodup_inj hN hm hj h1]

theorem map_nm (F : List Sp) : F.map (fun f => f.nm) = (F.map Sp.toKey).map (fun k => k.nm) := by simp

end Go.Proofs.Qxb6000140a
