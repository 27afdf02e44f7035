/-
  The law's own books: the places of the names (a map), the names, the spans and the wanted rows, grouped by name.
-/
import Derived.Test.Qxb6000140aKK
namespace Go.Proofs.Qxb6000140a
open Go.RowKit

/-- A row that is wanted: whose, in which part, which. -/
structure Rf where
  nm : ByteArray
  pt : Nat
  row : Nat

def Key.ent (k : Key) : ByteArray × Pair := (k.nm, (.int .i64 (k.pt : Int), .int .i64 (k.n : Int)))
def Rf.ent (g : Rf) : ByteArray × Pair := (g.nm, (.int .i64 (g.pt : Int), .int .i64 (g.row : Int)))

structure LawIs (w : World) (base : Nat) (role : Nat → Nat) (im : Nat) (nv sv : Value) (svs : List Value) (wv : Value) (wvs : List Value) (Nm Nn Ns Nw : List ByteArray) (K : List Key) (G : List Rf) : Prop where
  map : MapIs w im (idxL Nm)
  rm : role im = 4
  bm : base ≤ im
  nms : w.ownsRow base 9 1 nv Nn.length (Nn.map Value.string)
  rn : ∀ k, nv.ownBlock = some k → role k = 3
  gs : Grid w base 52 54 role 1 sv svs (gridOf Ns (K.map Key.ent))
  gw : Grid w base 55 57 role 2 wv wvs (gridOf Nw (G.map Rf.ent))

section
variable {w w' : World} {base : Nat} {role role' : Nat → Nat} {im : Nat} {nv sv wv : Value} {svs wvs : List Value} {Nm Nn Ns Nw : List ByteArray} {K : List Key} {G : List Rf}

theorem own_frame {e : TypeId} {size n : Nat} {v : Value} {xs : List Value} {r : Nat} (h : w.ownsRow base e size v n xs) (hr : ∀ k, v.ownBlock = some k → role k = r) (hk : ∀ k, k < w.heap.size → role k = r → w'.heap[k]? = w.heap[k]?) : w'.ownsRow base e size v n xs :=
  own_of_heap h fun k e => hk k (h.lt k e).2 (hr k e)

theorem LawIs.frame (h : LawIs w base role im nv sv svs wv wvs Nm Nn Ns Nw K G) (hk : ∀ k, k < w.heap.size → w'.heap[k]? = w.heap[k]?) (hr : ∀ k, k < w.heap.size → role' k = role k) : LawIs w' base role' im nv sv svs wv wvs Nm Nn Ns Nw K G :=
  ⟨h.map.of_heap (hk _ h.map.lt), (hr _ h.map.lt).trans h.rm, h.bm, own_of_heap h.nms fun k e => hk k (h.nms.lt k e).2, fun k e => (hr k (h.nms.lt k e).2).trans (h.rn k e), h.gs.frame (fun k hkl _ => hk k hkl) hr, h.gw.frame (fun k hkl _ => hk k hkl) hr⟩

theorem LawIs.later (h : LawIs w base role im nv sv svs wv wvs Nm Nn Ns Nw K G) (hb : Below w.heap.size w w') : LawIs w' base role im nv sv svs wv wvs Nm Nn Ns Nw K G := h.frame (fun k hk => hb.block k hk) (fun _ _ => rfl)
theorem LawIs.norm (h : LawIs w base role im nv sv svs wv wvs Nm Nn Ns Nw K G) : LawIs w base (roleUp role w.heap.size 0) im nv sv svs wv wvs Nm Nn Ns Nw K G := h.frame (fun _ _ => rfl) (fun _ hk => roleUp_old hk)

/-- The map has been told of a new name. -/
theorem LawIs.mapped {s : ByteArray} (h : LawIs w base role im nv sv svs wv wvs Nm Nn Ns Nw K G) (hm : MapIs w' im (idxL Nm ++ [(s, .int .i64 (Nm.length : Int))])) (hg : w.grownBy w' (some im)) : LawIs w' base role im nv sv svs wv wvs (Nm ++ [s]) Nn Ns Nw K G :=
  have hk : ∀ r, r ≠ 4 → ∀ k, k < w.heap.size → role k = r → w'.heap[k]? = w.heap[k]? := fun r hr k hkl e => hg.block k hkl (by simp; exact cells_ne e h.rm hr)
  ⟨by rw [idxL_snoc]; exact hm, h.rm, h.bm, own_frame h.nms h.rn (hk 3 (by decide)), h.rn, h.gs.frame (hk 1 (by decide)) (fun _ _ => rfl), h.gw.frame (hk 2 (by decide)) (fun _ _ => rfl)⟩

theorem keeps_role {v v' : Value} {r r' : Nat} (hk : Keeps w w' v v') (hv : ∀ k, v.ownBlock = some k → role k = r) (hne : r' ≠ r) : ∀ k, k < w.heap.size → role k = r' → w'.heap[k]? = w.heap[k]? :=
  fun k hkl e => hk.1 k hkl (fun e2 => hne (by rw [← e, hv k e2]))

/-- A name more in the slice of names. -/
theorem LawIs.named {s : ByteArray} {nv' : Value} (h : LawIs w base role im nv sv svs wv wvs Nm Nn Ns Nw K G) (ho : w'.ownsRow base 9 1 nv' (Nn.length + 1) (Nn.map Value.string ++ [.string s])) (hk : Keeps w w' nv nv') :
    LawIs w' base (roleUp role w.heap.size 3) im nv' sv svs wv wvs Nm (Nn ++ [s]) Ns Nw K G :=
  have hup : ∀ k, k < w.heap.size → roleUp role w.heap.size 3 k = role k := fun k hk => roleUp_old hk
  ⟨h.map.of_heap (keeps_role (r' := 4) hk h.rn (by decide) im h.map.lt h.rm), (hup _ h.map.lt).trans h.rm, h.bm, by simpa using ho, fun k e => by
      by_cases hl : k < w.heap.size
      · rw [hup k hl]; exact h.rn k (hk.2 k e hl)
      · exact roleUp_new hl,
    h.gs.frame (keeps_role hk h.rn (by decide)) hup, h.gw.frame (keeps_role hk h.rn (by decide)) hup⟩

theorem LawIs.pushS {s : ByteArray} {sv' : Value} (h : LawIs w base role im nv sv svs wv wvs Nm Nn Ns Nw K G) (hs : s ∉ Ns) (hK : ∀ k ∈ K, k.nm ∈ Ns) (ho : w'.ownsRow base 52 1 sv' (Ns.length + 1) (svs ++ [.slice none 0 0])) (hk : Keeps w w' sv sv') :
    LawIs w' base (roleUp role w.heap.size 1) im nv sv' (svs ++ [.slice none 0 0]) wv wvs Nm Nn (Ns ++ [s]) Nw K G := by
  have hup : ∀ k, k < w.heap.size → roleUp role w.heap.size 1 k = role k := fun k hk => roleUp_old hk
  have g := h.gs.push (ov' := sv') (by rw [gridOf_len]; exact ho) hk
  rw [← gridOf_push Ns _ s (fun x hx => by obtain ⟨k, hk, rfl⟩ := List.mem_map.1 hx; exact hK k hk) hs] at g
  exact ⟨h.map.of_heap (keeps_role (r' := 4) hk h.gs.ro (by decide) im h.map.lt h.rm), (hup _ h.map.lt).trans h.rm, h.bm, own_frame h.nms h.rn (keeps_role hk h.gs.ro (by decide)), fun k e => (hup k (h.nms.lt k e).2).trans (h.rn k e), g, h.gw.frame (keeps_role hk h.gs.ro (by decide)) hup⟩

theorem LawIs.pushW {s : ByteArray} {wv' : Value} (h : LawIs w base role im nv sv svs wv wvs Nm Nn Ns Nw K G) (hs : s ∉ Nw) (hG : ∀ k ∈ G, k.nm ∈ Nw) (ho : w'.ownsRow base 55 1 wv' (Nw.length + 1) (wvs ++ [.slice none 0 0])) (hk : Keeps w w' wv wv') :
    LawIs w' base (roleUp role w.heap.size 2) im nv sv svs wv' (wvs ++ [.slice none 0 0]) Nm Nn Ns (Nw ++ [s]) K G := by
  have hup : ∀ k, k < w.heap.size → roleUp role w.heap.size 2 k = role k := fun k hk => roleUp_old hk
  have g := h.gw.push (ov' := wv') (by rw [gridOf_len]; exact ho) hk
  rw [← gridOf_push Nw _ s (fun x hx => by obtain ⟨k, hk, rfl⟩ := List.mem_map.1 hx; exact hG k hk) hs] at g
  exact ⟨h.map.of_heap (keeps_role (r' := 4) hk h.gw.ro (by decide) im h.map.lt h.rm), (hup _ h.map.lt).trans h.rm, h.bm, own_frame h.nms h.rn (keeps_role hk h.gw.ro (by decide)), fun k e => (hup k (h.nms.lt k e).2).trans (h.rn k e), h.gs.frame (keeps_role hk h.gw.ro (by decide)) hup, g⟩
end

section
variable {w w1 w2 : World} {base : Nat} {role : Nat → Nat} {im g cap m : Nat} {nv sv wv v' : Value} {svs wvs : List Value} {Nm Nn Ns Nw : List ByteArray} {K : List Key} {G : List Rf}

/-- What has turned between w and w2, where a slice of role r at place m has grown and the outer slice g (of role r) has been told. -/
theorem added_role {v : Value} {r r' : Nat} (hk : Keeps w w1 v v') (hv : ∀ k, v.ownBlock = some k → role k = r) (hg : role g = r) (h2 : w2 = w1.setCell ⟨g, m, none⟩ v') (hne : r' ≠ r) : ∀ k, k < w.heap.size → role k = r' → w2.heap[k]? = w.heap[k]? :=
  fun k hkl e => by
    rw [h2, Below.heap_setCell _ _ _ _ (cells_ne e hg hne)]
    exact keeps_role hk hv hne k hkl e

theorem LawIs.addS {k : Key} (h : LawIs w base role im nv (.slice (some ⟨g, 0, none⟩) Ns.length cap) svs wv wvs Nm Nn Ns Nw K G) (hN : Ns.Nodup) (hm : m < Ns.length) (hmv : m < svs.length) (hn : k.nm = Ns[m])
    (ho : w1.ownsRow base 54 2 v' ((selV (K.map Key.ent) Ns[m]).length + 1) (cells2 (selV (K.map Key.ent) Ns[m]) ++ [.int .i64 (k.pt : Int), .int .i64 (k.n : Int)])) (hk : Keeps w w1 svs[m] v') (h2 : w2 = w1.setCell ⟨g, m, none⟩ v') :
    LawIs w2 base (roleUp role w.heap.size 1) im nv (.slice (some ⟨g, 0, none⟩) Ns.length cap) (svs.set m v') wv wvs Nm Nn Ns Nw (K ++ [k]) G := by
  have hup : ∀ k, k < w.heap.size → roleUp role w.heap.size 1 k = role k := fun k hk => roleUp_old hk
  have hgl := gridOf_len Ns (K.map Key.ent)
  have A : Grid w base 52 54 role 1 (.slice (some ⟨g, 0, none⟩) (gridOf Ns (K.map Key.ent)).length cap) svs (gridOf Ns (K.map Key.ent)) := by rw [hgl]; exact h.gs
  have hmg : m < (gridOf Ns (K.map Key.ent)).length := by omega
  have hget : (gridOf Ns (K.map Key.ent))[m] = selV (K.map Key.ent) Ns[m] := gridOf_get Ns _ m hm
  have g2 := A.add (w1 := w1) (w2 := w2) (x := (.int .i64 (k.pt : Int), .int .i64 (k.n : Int))) hmg hmv (by rw [hget]; exact ho) hk h2
  rw [hget, ← gridOf_add Ns (K.map Key.ent) m hm _ hN, hgl, show (Ns[m], (Value.int .i64 (k.pt : Int), Value.int .i64 (k.n : Int))) = k.ent by simp [Key.ent, hn], show K.map Key.ent ++ [k.ent] = (K ++ [k]).map Key.ent by simp] at g2
  have hv : ∀ j, svs[m].ownBlock = some j → role j = 1 := fun j e => h.gs.ri m j hmv e
  have hrg : role g = 1 := h.gs.ro g rfl
  exact ⟨h.map.of_heap (added_role (r' := 4) hk hv hrg h2 (by decide) im h.map.lt h.rm), (hup _ h.map.lt).trans h.rm, h.bm, own_frame h.nms h.rn (added_role hk hv hrg h2 (by decide)), fun k e => (hup k (h.nms.lt k e).2).trans (h.rn k e), g2, h.gw.frame (added_role hk hv hrg h2 (by decide)) hup⟩

theorem LawIs.addW {k : Rf} (h : LawIs w base role im nv sv svs (.slice (some ⟨g, 0, none⟩) Nw.length cap) wvs Nm Nn Ns Nw K G) (hN : Nw.Nodup) (hm : m < Nw.length) (hmv : m < wvs.length) (hn : k.nm = Nw[m])
    (ho : w1.ownsRow base 57 2 v' ((selV (G.map Rf.ent) Nw[m]).length + 1) (cells2 (selV (G.map Rf.ent) Nw[m]) ++ [.int .i64 (k.pt : Int), .int .i64 (k.row : Int)])) (hk : Keeps w w1 wvs[m] v') (h2 : w2 = w1.setCell ⟨g, m, none⟩ v') :
    LawIs w2 base (roleUp role w.heap.size 2) im nv sv svs (.slice (some ⟨g, 0, none⟩) Nw.length cap) (wvs.set m v') Nm Nn Ns Nw K (G ++ [k]) := by
  have hup : ∀ k, k < w.heap.size → roleUp role w.heap.size 2 k = role k := fun k hk => roleUp_old hk
  have hgl := gridOf_len Nw (G.map Rf.ent)
  have A : Grid w base 55 57 role 2 (.slice (some ⟨g, 0, none⟩) (gridOf Nw (G.map Rf.ent)).length cap) wvs (gridOf Nw (G.map Rf.ent)) := by rw [hgl]; exact h.gw
  have hmg : m < (gridOf Nw (G.map Rf.ent)).length := by omega
  have hget : (gridOf Nw (G.map Rf.ent))[m] = selV (G.map Rf.ent) Nw[m] := gridOf_get Nw _ m hm
  have g2 := A.add (w1 := w1) (w2 := w2) (x := (.int .i64 (k.pt : Int), .int .i64 (k.row : Int))) hmg hmv (by rw [hget]; exact ho) hk h2
  rw [hget, ← gridOf_add Nw (G.map Rf.ent) m hm _ hN, hgl, show (Nw[m], (Value.int .i64 (k.pt : Int), Value.int .i64 (k.row : Int))) = k.ent by simp [Rf.ent, hn], show G.map Rf.ent ++ [k.ent] = (G ++ [k]).map Rf.ent by simp] at g2
  have hv : ∀ j, wvs[m].ownBlock = some j → role j = 2 := fun j e => h.gw.ri m j hmv e
  have hrg : role g = 2 := h.gw.ro g rfl
  exact ⟨h.map.of_heap (added_role (r' := 4) hk hv hrg h2 (by decide) im h.map.lt h.rm), (hup _ h.map.lt).trans h.rm, h.bm, own_frame h.nms h.rn (added_role hk hv hrg h2 (by decide)), fun k e => (hup k (h.nms.lt k e).2).trans (h.rn k e), h.gs.frame (added_role hk hv hrg h2 (by decide)) hup, g2⟩
end

/-! the rows of a part, run by run -/
def Key.rows (k : Key) : List Rf := (List.range k.n).map fun t => ⟨k.nm, k.pt, k.fr + t⟩
/-- The rows below 'row', run r being the one that is read. -/
def part (p : KP) (pt r row : Nat) : List Rf := (keysTo p pt r).flatMap Key.rows ++ (if r < p.runs.length then (List.range (row - fN p r)).map fun t => ⟨(keyAt p pt r).nm, pt, fN p r + t⟩ else [])

theorem fN_zero (p : KP) : fN p 0 = 0 := rfl
theorem part_zero (p : KP) (pt : Nat) : part p pt 0 0 = [] := by simp [part, keysTo]
theorem part_next {p : KP} (pt r : Nat) (hr : r < p.runs.length) : part p pt r (fN p (r + 1)) = part p pt (r + 1) (fN p (r + 1)) := by
  simp only [part, hr, if_true, keysTo_succ, List.flatMap_append, List.flatMap_cons, List.flatMap_nil, List.append_nil, Nat.sub_self, List.range_zero, List.map_nil, ite_self]
  rfl
theorem part_row {p : KP} (pt r row : Nat) (hr : r < p.runs.length) (h : fN p r ≤ row) : part p pt r (row + 1) = part p pt r row ++ [⟨(keyAt p pt r).nm, pt, row⟩] := by
  simp only [part, hr, if_true, List.append_assoc]
  congr 1
  rw [show row + 1 - fN p r = row - fN p r + 1 by omega, List.range_succ, List.map_append, List.map_singleton, show fN p r + (row - fN p r) = row by omega]
theorem part_done {p : KP} (pt row : Nat) : part p pt p.runs.length row = (keysTo p pt p.runs.length).flatMap Key.rows := by simp [part]
theorem part_end {p : KP} (h : RunsOk p p.runs.length) (pt : Nat) : ∀ (d r : Nat), p.runs.length - r = d → r ≤ p.runs.length → fN p r ≤ p.rows.length → (r < p.runs.length → p.rows.length ≤ fN p (r + 1)) → part p pt r p.rows.length = (keysTo p pt p.runs.length).flatMap Key.rows
  | 0, r, hd, hr, _, _ => by
    obtain rfl : r = p.runs.length := by omega
    exact part_done pt _
  | d + 1, r, hd, hr, h1, h2 => by
    have hlt : r < p.runs.length := by omega
    have e : fN p (r + 1) = p.rows.length := Nat.le_antisymm (fN_le h hlt) (h2 hlt)
    have := part_next (p := p) pt r hlt
    rw [e] at this
    rw [this]
    refine part_end h pt d (r + 1) (by omega) hlt (by omega) (fun h3 => ?_)
    have := fN_mono h h3
    omega

/-! one member's rows -/
theorem rows_len (k : Key) : k.rows.length = k.n := by simp [Key.rows]
theorem rows_nm {k : Key} {g : Rf} (h : g ∈ k.rows) : g.nm = k.nm := by
  simp only [Key.rows, List.mem_map] at h
  obtain ⟨t, _, rfl⟩ := h
  rfl
theorem filter_rows (K : List Key) (s : ByteArray) : (K.flatMap Key.rows).filter (fun g => decide (g.nm = s)) = (K.filter fun k => decide (k.nm = s)).flatMap Key.rows := by
  induction K with
  | nil => rfl
  | cons k K ih =>
    rw [List.flatMap_cons, List.filter_append, ih, List.filter_cons]
    by_cases h : k.nm = s
    · rw [List.filter_eq_self.2 (fun g hg => by simp [rows_nm hg, h])]
      simp [h]
    · rw [List.filter_eq_nil_iff.2 (fun g hg => by simp [rows_nm hg, h])]
      simp [h]
def off (KS : List Key) (k : Nat) : Nat := ((KS.take k).flatMap Key.rows).length
theorem off_succ (KS : List Key) (k : Nat) (h : k < KS.length) : off KS (k + 1) = off KS k + KS[k].n := by
  simp only [off]
  rw [List.take_succ_eq_append_getElem h, List.flatMap_append, List.length_append]
  simp [rows_len]
theorem off_all (KS : List Key) : off KS KS.length = (KS.flatMap Key.rows).length := by simp [off]
theorem flat_get (KS : List Key) (k i : Nat) (h : k < KS.length) (hi : i < KS[k].n) : (KS.flatMap Key.rows)[off KS k + i]? = some ⟨KS[k].nm, KS[k].pt, KS[k].fr + i⟩ := by
  have e : KS.flatMap Key.rows = (KS.take k).flatMap Key.rows ++ (KS[k].rows ++ (KS.drop (k + 1)).flatMap Key.rows) := by
    rw [← List.flatMap_cons, ← List.drop_eq_getElem_cons h, ← List.flatMap_append, List.take_append_drop]
  rw [e, List.getElem?_append_right (by simp [off]), show off KS k + i - ((KS.take k).flatMap Key.rows).length = i by simp [off], List.getElem?_append_left (by rw [rows_len]; exact hi)]
  simp [Key.rows, hi]

end Go.Proofs.Qxb6000140a
