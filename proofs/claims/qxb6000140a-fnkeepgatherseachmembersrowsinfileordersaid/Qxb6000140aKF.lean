/-
  What a Work is good for, and how it stays so.
-/
import Derived.Test.Qxb6000140aKE
namespace Go.Proofs.Qxb6000140a
open Go.RowKit

/-! names in the order in which they first appear -/
open Classical in
noncomputable def addName (N : List ByteArray) (s : ByteArray) : List ByteArray := if s ∈ N then N else N ++ [s]
noncomputable def firsts (l : List ByteArray) : List ByteArray := l.foldl addName []
theorem firsts_snoc (l : List ByteArray) (s : ByteArray) : firsts (l ++ [s]) = addName (firsts l) s := by simp [firsts]
theorem addName_in {N : List ByteArray} {s : ByteArray} (h : s ∈ N) : addName N s = N := by simp [addName, h]
theorem addName_out {N : List ByteArray} {s : ByteArray} (h : s ∉ N) : addName N s = N ++ [s] := by simp [addName, h]
theorem addName_len (N : List ByteArray) (s : ByteArray) : (addName N s).length ≤ N.length + 1 := by
  unfold addName; split <;> simp

/-! where the runs of a part begin -/
def fN (p : KP) (i : Nat) : Nat := (frm p.runs i).toNat
theorem frm_bounds {p : KP} (h : RunsOk p p.runs.length) : ∀ i, i ≤ p.runs.length → 0 ≤ frm p.runs i ∧ frm p.runs i ≤ p.rows.length
  | 0, _ => ⟨by simp [frm], by simp [frm]⟩
  | i + 1, hi => by
    have h1 := h i hi hi
    have h2 := frm_bounds h i (by omega)
    rw [frm_succ _ _ hi]
    omega
theorem frm_cast {p : KP} (h : RunsOk p p.runs.length) {i : Nat} (hi : i ≤ p.runs.length) : frm p.runs i = (fN p i : Int) := by
  have := (frm_bounds h i hi).1
  simp [fN]; omega
theorem fN_le {p : KP} (h : RunsOk p p.runs.length) {i : Nat} (hi : i ≤ p.runs.length) : fN p i ≤ p.rows.length := by
  have := frm_bounds h i hi
  have := frm_cast h hi
  omega
theorem en_cast {p : KP} (h : RunsOk p p.runs.length) {i : Nat} (hi : i < p.runs.length) : p.runs[i].en = (fN p (i + 1) : Int) := by
  rw [← frm_cast h hi, frm_succ]
theorem fN_mono {p : KP} (h : RunsOk p p.runs.length) {i : Nat} (hi : i < p.runs.length) : fN p i ≤ fN p (i + 1) := by
  have h1 := h i hi hi
  have h2 := frm_cast h (i := i) (by omega)
  have h3 := en_cast h hi
  omega

/-- A run as it is told of: its member, its part, where it begins, how many rows. -/
structure Key where
  nm : ByteArray
  pt : Nat
  fr : Nat
  n : Nat

structure Sp extends Key where
  rv : Value
  tv : Value

def Sp.ent (f : Sp) : ByteArray × Pair := (f.nm, (f.rv, f.tv))

def keyAt (p : KP) (pt i : Nat) : Key := ⟨(p.runs[i]?.map K4.mem).getD ByteArray.empty, pt, fN p i, fN p (i + 1) - fN p i⟩
theorem keyAt_nm (p : KP) (pt i : Nat) (h : i < p.runs.length) : (keyAt p pt i).nm = p.runs[i].mem := by simp [keyAt, h]
def keysTo (p : KP) (pt k : Nat) : List Key := (List.range k).map (keyAt p pt)
theorem keysTo_succ (p : KP) (pt k : Nat) : keysTo p pt (k + 1) = keysTo p pt k ++ [keyAt p pt k] := by simp [keysTo, List.range_succ]

/-- One span leads to its part's rows. -/
def SpanOk (w : World) (role : Nat → Nat) (ps : List KP) (f : Sp) : Prop :=
  ∃ (h : f.pt < ps.length), f.fr + f.n ≤ ps[f.pt].rows.length ∧
    (∃ x, f.rv = .slice (some x) f.n f.n ∧ (0 < f.n → ∃ rb, x = ⟨rb, f.fr * 3, none⟩ ∧ role rb = 0 ∧ rb < w.heap.size ∧ R3s w (some ⟨rb, 0, none⟩) ps[f.pt].rows)) ∧
    ((ps[f.pt].ta = none ∧ f.tv = .slice none 0 0) ∨ (ps[f.pt].ta ≠ none ∧ ps[f.pt].rates.length = ps[f.pt].rows.length ∧ ∃ y, f.tv = .slice (some y) f.n f.n ∧ (0 < f.n → ∃ tb, y = ⟨tb, f.fr, none⟩ ∧ role tb = 0 ∧ tb < w.heap.size ∧ RIs w (some ⟨tb, 0, none⟩) ps[f.pt].rates)))

theorem R3s.of_heap {w w' : World} {rb o : Nat} {l : List R3} (h : R3s w (some ⟨rb, o, none⟩) l) (e : w'.heap[rb]? = w.heap[rb]?) : R3s w' (some ⟨rb, o, none⟩) l := fun i hi => by
  obtain ⟨b, o', ha, h0, h1, h2⟩ := h i hi
  have hb : b = rb := by simp at ha; exact ha.1.symm
  subst hb
  exact ⟨b, o', ha, (World.cell?_of_block (w := w) e).trans h0, (World.cell?_of_block (w := w) e).trans h1, (World.cell?_of_block (w := w) e).trans h2⟩
theorem RIs.of_heap {w w' : World} {rb o : Nat} {l : List Int} (h : RIs w (some ⟨rb, o, none⟩) l) (e : w'.heap[rb]? = w.heap[rb]?) : RIs w' (some ⟨rb, o, none⟩) l := fun i hi => by
  obtain ⟨b, o', ha, h0⟩ := h i hi
  have hb : b = rb := by simp at ha; exact ha.1.symm
  subst hb
  exact ⟨b, o', ha, (World.cell?_of_block (w := w) e).trans h0⟩
theorem K4s.of_heap {w w' : World} {a : Option Addr} {l : List K4} (h : K4s w a l) (e : ∀ b o, a = some ⟨b, o, none⟩ → w'.heap[b]? = w.heap[b]?) : K4s w' a l := fun i hi => by
  obtain ⟨b, o', ha, h0, h1, h2, h3⟩ := h i hi
  have e := e b o' ha
  exact ⟨b, o', ha, (World.cell?_of_block (w := w) e).trans h0, (World.cell?_of_block (w := w) e).trans h1, (World.cell?_of_block (w := w) e).trans h2, (World.cell?_of_block (w := w) e).trans h3⟩

/-- From w to w' (roles role, role'): what has role 0 has not turned; old blocks keep their roles. -/
structure Still0 (w w' : World) (role role' : Nat → Nat) : Prop where
  heap : ∀ k, k < w.heap.size → role k = 0 → w'.heap[k]? = w.heap[k]?
  role : ∀ k, k < w.heap.size → role' k = role k
  size : w.heap.size ≤ w'.heap.size

theorem Still0.refl (w : World) (role : Nat → Nat) : Still0 w w role role := ⟨fun _ _ _ => rfl, fun _ _ => rfl, Nat.le_refl _⟩
theorem Still0.trans {w w1 w2 : World} {r r1 r2 : Nat → Nat} (h : Still0 w w1 r r1) (h' : Still0 w1 w2 r1 r2) : Still0 w w2 r r2 :=
  ⟨fun k hk h0 => (h'.heap k (Nat.lt_of_lt_of_le hk h.size) ((h.role k hk).trans h0)).trans (h.heap k hk h0), fun k hk => (h'.role k (Nat.lt_of_lt_of_le hk h.size)).trans (h.role k hk), Nat.le_trans h.size h'.size⟩
theorem Still0.of_below {w w' : World} {r : Nat → Nat} (h : Below w.heap.size w w') : Still0 w w' r r := ⟨fun k hk _ => h.block k hk, fun _ _ => rfl, h.size⟩

theorem SpanOk.frame {w w' : World} {role role' : Nat → Nat} {ps : List KP} {f : Sp} (h : SpanOk w role ps f) (hs : Still0 w w' role role') : SpanOk w' role' ps f := by
  obtain ⟨hp, hle, ⟨x, hx, hr⟩, ht⟩ := h
  refine ⟨hp, hle, ⟨x, hx, fun h0 => ?_⟩, ?_⟩
  · obtain ⟨rb, e1, e2, e3, e4⟩ := hr h0
    exact ⟨rb, e1, (hs.role rb e3).trans e2, Nat.lt_of_lt_of_le e3 hs.size, e4.of_heap (hs.heap rb e3 e2)⟩
  · rcases ht with ht | ⟨h1, h2, y, hy, ht⟩
    · exact .inl ht
    · refine .inr ⟨h1, h2, y, hy, fun h0 => ?_⟩
      obtain ⟨tb, e1, e2, e3, e4⟩ := ht h0
      exact ⟨tb, e1, (hs.role tb e3).trans e2, Nat.lt_of_lt_of_le e3 hs.size, e4.of_heap (hs.heap tb e3 e2)⟩

/-- The Work at pb: the names N with their places in the map mb, and the spans F, grouped by name. -/
structure WorkIs (w : World) (base : Nat) (role : Nat → Nat) (pb mb : Nat) (ov : Value) (vs : List Value) (N : List ByteArray) (F : List Sp) (ps : List KP) : Prop where
  box : Box w pb #[.string ByteArray.empty, .bool false, .map (some mb), ov] 84
  map : MapIs w mb (idxL N)
  grid : Grid w base 85 89 role 1 ov vs (gridOf N (F.map Sp.ent))
  rp : role pb = 2
  rm : role mb = 3
  bp : base ≤ pb
  bm : base ≤ mb
  nod : N.Nodup
  nms : ∀ f ∈ F, f.nm ∈ N
  sp : ∀ f ∈ F, SpanOk w role ps f

theorem WorkIs.later {w w' : World} {base : Nat} {role : Nat → Nat} {pb mb : Nat} {ov : Value} {vs : List Value} {N : List ByteArray} {F : List Sp} {ps : List KP} (h : WorkIs w base role pb mb ov vs N F ps) (hb : Below w.heap.size w w') :
    WorkIs w' base role pb mb ov vs N F ps :=
  ⟨h.box.later hb, h.map.later hb, h.grid.frame (fun k hk _ => hb.block k hk) (fun _ _ => rfl), h.rp, h.rm, h.bp, h.bm, h.nod, h.nms, fun f hf => (h.sp f hf).frame (.of_below hb)⟩

/-- A name that was there, or is added with no spans. -/
theorem WorkIs.shape {w : World} {base : Nat} {role : Nat → Nat} {pb mb : Nat} {ov : Value} {vs : List Value} {N : List ByteArray} {F : List Sp} {ps : List KP} (h : WorkIs w base role pb mb ov vs N F ps) : ∃ a c, ov = .slice a N.length c ∧ (0 < N.length → ∃ g, a = some ⟨g, 0, none⟩) := by
  have ho := h.grid.outer
  rw [gridOf_len] at ho
  rcases ho.2 with ⟨e, hn⟩ | ⟨g, cap, cur, e, _⟩
  · exact ⟨none, 0, by rw [e, hn], fun h0 => by omega⟩
  · exact ⟨_, cap, e, fun _ => ⟨g, rfl⟩⟩

theorem cells_ne {a b : Nat} {role : Nat → Nat} {x y : Nat} (ha : role a = x) (hb : role b = y) (hxy : x ≠ y) : a ≠ b := fun e => hxy (by rw [← ha, ← hb, e])

/-- A new name: the map has been told (w1), the outer slice has grown (w2), the struct has been told (w3). -/
theorem WorkIs.pushed {w w1 w2 w3 : World} {base : Nat} {role : Nat → Nat} {pb mb : Nat} {ov ov' : Value} {vs : List Value} {N : List ByteArray} {F : List Sp} {ps : List KP} {s : ByteArray} (h : WorkIs w base role pb mb ov vs N F ps) (hs : s ∉ N)
    (hm : MapIs w1 mb (idxL N ++ [(s, .int .i64 (N.length : Int))])) (hg1 : w.grownBy w1 (some mb)) (hz : w1.heap.size = w.heap.size)
    (ho : w2.ownsRow base 85 1 ov' (N.length + 1) (vs ++ [.slice none 0 0])) (hk : Keeps w1 w2 ov ov') (hsz : w1.heap.size ≤ w2.heap.size) (h3 : w3 = w2.setCell ⟨pb, 3, none⟩ ov') :
    WorkIs w3 base (roleUp role w.heap.size 1) pb mb ov' (vs ++ [.slice none 0 0]) (N ++ [s]) F ps ∧ Still0 w w3 role (roleUp role w.heap.size 1) := by
  have g1 : Grid w1 base 85 89 role 1 ov vs (gridOf N (F.map Sp.ent)) := h.grid.frame (fun k hk h1 => hg1.block k hk (by simp; exact cells_ne h1 h.rm (by decide))) (fun _ _ => rfl)
  have hnb : ov.ownBlock ≠ some pb := fun e => cells_ne (h.grid.ro _ e) h.rp (by decide) rfl
  have hnm : ov.ownBlock ≠ some mb := fun e => cells_ne (h.grid.ro _ e) h.rm (by decide) rfl
  have hpm : pb ≠ mb := cells_ne h.rp h.rm (by decide)
  have hpl := h.box.lt
  have hml := h.map.lt
  have hsel : selV (F.map Sp.ent) s = [] := selV_none _ _ (fun x hx => by
    obtain ⟨f, hf, rfl⟩ := List.mem_map.1 hx
    exact fun e => hs (e ▸ h.nms f hf))
  have g2 := g1.push (ov' := ov') (by rw [gridOf_len]; exact ho) hk
  rw [hz, ← gridOf_push N _ s (fun x hx => by obtain ⟨f, hf, rfl⟩ := List.mem_map.1 hx; exact h.nms f hf) hs] at g2
  have b2 : Box w2 pb #[.string ByteArray.empty, .bool false, .map (some mb), ov] 84 :=
    (h.box.of_heap (hg1.block pb hpl (by simp; exact hpm))).of_heap (hk.1 pb (by omega) hnb)
  have m2 : MapIs w2 mb (idxL (N ++ [s])) := by rw [idxL_snoc]; exact hm.of_heap (hk.1 mb (by omega) hnm)
  have hup : ∀ k, k < w.heap.size → roleUp role w.heap.size 1 k = role k := fun k hk => roleUp_old hk
  have o3 : ∀ k, k ≠ pb → w3.heap[k]? = w2.heap[k]? := fun k hk => by rw [h3]; exact Below.heap_setCell _ _ _ _ hk
  have s3 : w3.heap.size = w2.heap.size := by rw [h3]; simp [World.setCell]
  have still : Still0 w w3 role (roleUp role w.heap.size 1) := ⟨fun k hkl h0 => by
    rw [o3 k (cells_ne h0 h.rp (by decide)), hk.1 k (by omega) (fun e => cells_ne (h.grid.ro _ e) h0 (by decide) rfl)]
    exact hg1.block k hkl (by simp; exact cells_ne h0 h.rm (by decide)), hup, by omega⟩
  refine ⟨⟨?_, m2.of_heap (o3 mb hpm.symm), g2.frame (fun k hk' h1 => o3 k (fun e => ?_)) (fun _ _ => rfl), (hup pb hpl).trans h.rp, (hup mb hml).trans h.rm, h.bp, h.bm, ?_, fun f hf => List.mem_append_left _ (h.nms f hf), fun f hf => (h.sp f hf).frame still⟩, still⟩
  · rw [h3]; exact b2.set 3 ov'
  · rw [e, hup pb hpl, h.rp] at h1; cases h1
  · rw [List.nodup_append]
    exact ⟨h.nod, by simp, fun a ha b hb => by simp at hb; subst hb; exact fun e => hs (e ▸ ha)⟩

/-- A span more, at place m. -/
theorem WorkIs.added {w w1 w2 : World} {base : Nat} {role : Nat → Nat} {pb mb g cap m : Nat} {v' : Value} {vs : List Value} {N : List ByteArray} {F : List Sp} {ps : List KP} {f : Sp} (h : WorkIs w base role pb mb (.slice (some ⟨g, 0, none⟩) N.length cap) vs N F ps)
    (hm : m < N.length) (hmv : m < vs.length) (ho : w1.ownsRow base 89 2 v' ((selV (F.map Sp.ent) N[m]).length + 1) (cells2 (selV (F.map Sp.ent) N[m]) ++ [f.rv, f.tv])) (hk : Keeps w w1 vs[m] v') (hsz : w.heap.size ≤ w1.heap.size)
    (h2 : w2 = w1.setCell ⟨g, m, none⟩ v') (hf : SpanOk w role ps f) (hn : f.nm = N[m]) :
    WorkIs w2 base (roleUp role w.heap.size 1) pb mb (.slice (some ⟨g, 0, none⟩) N.length cap) (vs.set m v') N (F ++ [f]) ps ∧ Still0 w w2 role (roleUp role w.heap.size 1) := by
  have hgl := gridOf_len N (F.map Sp.ent)
  have G : Grid w base 85 89 role 1 (.slice (some ⟨g, 0, none⟩) (gridOf N (F.map Sp.ent)).length cap) vs (gridOf N (F.map Sp.ent)) := by rw [hgl]; exact h.grid
  have hmg : m < (gridOf N (F.map Sp.ent)).length := by omega
  have hget : (gridOf N (F.map Sp.ent))[m] = selV (F.map Sp.ent) N[m] := gridOf_get N _ m hm
  have g2 := G.add (w1 := w1) (w2 := w2) (x := (f.rv, f.tv)) hmg hmv (by rw [hget]; exact ho) hk h2
  rw [hget, ← gridOf_add N (F.map Sp.ent) m hm (f.rv, f.tv) h.nod, hgl, show (N[m], (f.rv, f.tv)) = f.ent by simp [Sp.ent, hn], show F.map Sp.ent ++ [f.ent] = (F ++ [f]).map Sp.ent by simp] at g2
  have hpl := h.box.lt
  have hml := h.map.lt
  have rg : role g = 1 := h.grid.ro g rfl
  have hup : ∀ k, k < w.heap.size → roleUp role w.heap.size 1 k = role k := fun k hk => roleUp_old hk
  have hvs : ∀ k, role k ≠ 1 → vs[m].ownBlock ≠ some k := fun k h0 e => h0 (h.grid.ri m k hmv e)
  have o2 : ∀ k, k < w.heap.size → role k ≠ 1 → w2.heap[k]? = w.heap[k]? := fun k hkl h0 => by
    rw [h2, Below.heap_setCell _ _ _ _ (fun e => h0 (by rw [e]; exact rg))]
    exact hk.1 k hkl (hvs k h0)
  have s2 : w2.heap.size = w1.heap.size := by rw [h2]; simp [World.setCell]
  have still : Still0 w w2 role (roleUp role w.heap.size 1) := ⟨fun k hkl h0 => o2 k hkl (by rw [h0]; decide), hup, by omega⟩
  refine ⟨⟨h.box.of_heap (o2 pb hpl (by rw [h.rp]; decide)), h.map.of_heap (o2 mb hml (by rw [h.rm]; decide)), g2, (hup pb hpl).trans h.rp, (hup mb hml).trans h.rm, h.bp, h.bm, h.nod, fun f' hf' => ?_, fun f' hf' => ?_⟩, still⟩
  · rcases List.mem_append.1 hf' with h' | h'
    · exact h.nms f' h'
    · simp at h'; subst h'; rw [hn]; exact List.getElem_mem hm
  · rcases List.mem_append.1 hf' with h' | h'
    · exact (h.sp f' h').frame still
    · simp at h'; subst h'; exact hf.frame still

end Go.Proofs.Qxb6000140a
