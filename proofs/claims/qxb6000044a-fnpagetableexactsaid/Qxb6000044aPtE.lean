import Derived.Test.Qxb6000044aPtD
namespace Go.Proofs.Qxb6000044a
open Go.RowKit

theorem Try.info42 : (Try.prog.info? 42).map (fun i => (i.zero, i.size, i.bytes)) = some (some (.agg #[.string ByteArray.empty, .bool false]), 2, 24) := by kernel_rfl
theorem Try.info36 : (Try.prog.info? 36).map (fun i => (i.zero, i.size, i.bytes)) = some (some (.slice none 0 0), 1, 24) := by kernel_rfl

/-- The cells of page cells. -/
def pcs (l : List (ByteArray × Bool)) : List Value := l.flatMap fun p => [.string p.1, .bool p.2]
theorem pcs_snoc (l : List (ByteArray × Bool)) (p : ByteArray × Bool) : pcs (l ++ [p]) = pcs l ++ [.string p.1, .bool p.2] := by simp [pcs]
theorem pcs_len (l : List (ByteArray × Bool)) : (pcs l).length = l.length * 2 := by
  induction l with
  | nil => rfl
  | cons p l ih => simp [pcs] at ih ⊢; omega
theorem pcs_get (l : List (ByteArray × Bool)) (i : Nat) (h : i < l.length) : (pcs l)[i * 2]? = some (.string l[i].1) ∧ (pcs l)[i * 2 + 1]? = some (.bool l[i].2) := by
  induction l generalizing i with
  | nil => simp at h
  | cons p l ih =>
    cases i with
    | zero => simp [pcs]
    | succ i =>
      have := ih i (by simpa using h)
      simp only [pcs, List.flatMap_cons] at this ⊢
      rw [List.getElem?_append_right (by simp; omega), List.getElem?_append_right (by simp; omega)]
      simpa [show (i + 1) * 2 - 2 = i * 2 by omega, show (i + 1) * 2 + 1 - 2 = i * 2 + 1 by omega] using this

/-- A block of three cells: what its cells hold; that they may be written. -/
theorem three_cells {w : World} {b : Nat} {x y z : Value} {t : TypeId} (h : w.heap[b]? = some (.cells #[x, y, z] t (0, 0))) :
    w.cell? ⟨b, 0, none⟩ = some x ∧ w.cell? ⟨b, 1, none⟩ = some y ∧ w.cell? ⟨b, 2, none⟩ = some z ∧ w.frozen? ⟨b, 0, none⟩ = false ∧ w.frozen? ⟨b, 1, none⟩ = false ∧ w.frozen? ⟨b, 2, none⟩ = false := by
  simp [World.cell?, World.frozen?, h]
theorem three_set1 {w : World} {b : Nat} {x y z u : Value} {t : TypeId} (h : w.heap[b]? = some (.cells #[x, y, z] t (0, 0))) : (w.setCell ⟨b, 1, none⟩ u).heap[b]? = some (.cells #[x, u, z] t (0, 0)) := by
  rw [heap_setCell_same w b 1 _ t u h]; rfl
theorem three_set2 {w : World} {b : Nat} {x y z u : Value} {t : TypeId} (h : w.heap[b]? = some (.cells #[x, y, z] t (0, 0))) : (w.setCell ⟨b, 2, none⟩ u).heap[b]? = some (.cells #[x, y, u] t (0, 0)) := by
  rw [heap_setCell_same w b 2 _ t u h]; rfl

/-- What newPageTable is told of the report: its columns, its rows. -/
structure RepOk (w : World) (rp cb nT : Nat) (ar : Option Addr) (nR cR : Nat) (tb : List (ByteArray × Bool)) (rows : List RowD) : Prop where
  c0 : w.cell? ⟨rp, 0, none⟩ = some (.slice (some ⟨cb, 0, none⟩) nT nT)
  c1 : w.cell? ⟨rp, 1, none⟩ = some (.slice ar nR cR)
  cols : ∀ i (h : i < tb.length), w.cell? ⟨cb, i * 3, none⟩ = some (.string ByteArray.empty) ∧ w.cell? ⟨cb, i * 3 + 1, none⟩ = some (.string tb[i].1) ∧ w.cell? ⟨cb, i * 3 + 2, none⟩ = some (.bool tb[i].2)
  lenT : tb.length = nT
  lenR : rows.length = nR
  rr : RR w ar rows
  fit : ∀ r ∈ rows, r.ss.length ≤ nT

theorem RepOk.later {w w' : World} {rp cb nT : Nat} {ar : Option Addr} {nR cR : Nat} {tb : List (ByteArray × Bool)} {rows : List RowD} (h : RepOk w rp cb nT ar nR cR tb rows) (hb : Below w.heap.size w w') : RepOk w' rp cb nT ar nR cR tb rows :=
  ⟨cell_later hb h.c0, cell_later hb h.c1, fun i hi => ⟨cell_later hb (h.cols i hi).1, cell_later hb (h.cols i hi).2.1, cell_later hb (h.cols i hi).2.2⟩, h.lenT, h.lenR, h.rr.later hb, h.fit⟩

/-- Page cells lie in block M. -/
def PageRow (w : World) (M : Nat) (l : List (ByteArray × Bool)) : Prop := ∀ i (h : i < l.length), w.cell? ⟨M, i * 2, none⟩ = some (.string l[i].1) ∧ w.cell? ⟨M, i * 2 + 1, none⟩ = some (.bool l[i].2)

/-- What newPageTable leaves. -/
def PtPost (w : World) (cp : ByteArray) (nT nR : Nat) (tb : List (ByteArray × Bool)) (rows : List RowD) (e : Ending) (w' : World) : Prop :=
  ∃ (ah ag : Option Addr) (ch cg : Nat), e = .returned (.agg #[.string cp, .slice ah nT ch, .slice ag nR cg]) ∧ Below w.heap.size w w' ∧
    (0 < nT → ∃ g, ah = some ⟨g, 0, none⟩ ∧ w.heap.size ≤ g ∧ PageRow w' g tb) ∧
    (0 < nR → ∃ g, ag = some ⟨g, 0, none⟩ ∧ w.heap.size ≤ g ∧ ∀ j (h : j < rows.length), ∃ M, w.heap.size ≤ M ∧ w'.cell? ⟨g, j, none⟩ = some (.slice (some ⟨M, 0, none⟩) rows[j].ss.length rows[j].ss.length) ∧ PageRow w' M (rows[j].ss.zip (tb.map Prod.snd)))

/-- What stands at the head of the first loop's round k. -/
structure L1 (w : World) (cp : ByteArray) (tb : List (ByteArray × Bool)) (k : Nat) (a : Option Addr) (c : Nat) (wr : World) : Prop where
  res : wr.heap[w.heap.size]? = some (.cells #[.string ByteArray.empty, .slice none 0 0, .slice none 0 0] 39 (0, 0))
  tblk : wr.heap[w.heap.size + 1]? = some (.cells #[.string cp, .slice a k c, .slice none 0 0] 39 (0, 0))
  own : wr.ownsRow (w.heap.size + 2) 42 2 (.slice a k c) k (pcs (tb.take k))
  bel : Below w.heap.size w wr
  siz : w.heap.size + 2 ≤ wr.heap.size

theorem L1.next {w : World} {cp : ByteArray} {tb : List (ByteArray × Bool)} {k : Nat} {a : Option Addr} {c : Nat} {wr w2 : World} {o : Obj} {g cap : Nat} (h : L1 w cp tb k a c wr) (hk : k < tb.length)
    (hb : Below (w.heap.size + 2) (wr.alloc o) w2) (ho : w2.ownsRow (w.heap.size + 2) 42 2 (.slice (some ⟨g, 0, none⟩) (k + 1) cap) (k + 1) (pcs (tb.take k) ++ [.string tb[k].1, .bool tb[k].2])) :
    L1 w cp tb (k + 1) (some ⟨g, 0, none⟩) cap (w2.setCell ⟨w.heap.size + 1, 1, none⟩ (.slice (some ⟨g, 0, none⟩) (k + 1) cap)) := by
  have hs := h.siz
  have e0 : ∀ j, j < w.heap.size + 2 → w2.heap[j]? = wr.heap[j]? := fun j hj => by rw [hb.block j hj, Below.heap_alloc _ _ _ (by omega)]
  refine ⟨?_, ?_, ?_, ?_, ?_⟩
  · rw [Below.heap_setCell _ _ _ _ (by simp), e0 _ (by omega)]; exact h.res
  · exact three_set1 (by rw [e0 _ (by omega)]; exact h.tblk)
  · rw [List.take_succ_eq_append_getElem hk, pcs_snoc]
    exact ownsRow_setCell_below ho (by simp) _
  · exact ((h.bel.alloc h.bel.size _).trans (hb.mono (by omega))).setCell (by simp) _
  · have := hb.size; simp [World.setCell] at this ⊢; omega

/-- The slice that stands for a row of the page: its cells lie in block M. -/
def pv (r : RowD) (M : Nat) : Value := .slice (some ⟨M, 0, none⟩) r.ss.length r.ss.length

theorem own_low {w w' : World} {base : Nat} {e : TypeId} {size n B : Nat} {v : Value} {xs : List Value} (h : w.ownsRow base e size v n xs) (hb : Below B w w') (hl : ∀ g, v.ownBlock = some g → g < B) : w'.ownsRow base e size v n xs := by
  refine ⟨h.1, ?_⟩
  rcases h.2 with h2 | ⟨g, cap, cur, hv, hg, hh, r⟩
  · exact .inl h2
  · subst hv
    exact .inr ⟨g, cap, cur, rfl, hg, by rw [hb.block g (hl g rfl)]; exact hh, r⟩

theorem PageRow.same {w w' : World} {M : Nat} {l : List (ByteArray × Bool)} (h : PageRow w M l) (hb : w'.heap[M]? = w.heap[M]?) : PageRow w' M l :=
  fun i hi => ⟨(World.cell?_of_block (w := w) hb).trans (h i hi).1, (World.cell?_of_block (w := w) hb).trans (h i hi).2⟩

/-- What stands at the head of the second loop's round k. -/
structure L2 (w : World) (cp : ByteArray) (tb : List (ByteArray × Bool)) (rows : List RowD) (nT B : Nat) (ah : Option Addr) (ch k : Nat) (Ms : List Nat) (ag : Option Addr) (cg : Nat) (wr : World) : Prop where
  res : wr.heap[w.heap.size]? = some (.cells #[.string ByteArray.empty, .slice none 0 0, .slice none 0 0] 39 (0, 0))
  tblk : wr.heap[w.heap.size + 1]? = some (.cells #[.string cp, .slice ah nT ch, .slice ag k cg] 39 (0, 0))
  head : wr.ownsRow (w.heap.size + 2) 42 2 (.slice ah nT ch) nT (pcs tb)
  hlow : ∀ g, (Value.slice ah nT ch).ownBlock = some g → g < B
  bel : Below w.heap.size w wr
  siz : w.heap.size + 2 ≤ B ∧ B ≤ wr.heap.size
  lenM : Ms.length = k
  own : wr.ownsRow B 36 1 (.slice ag k cg) k (List.zipWith pv (rows.take k) Ms)
  pages : ∀ j (h : j < Ms.length) (h' : j < rows.length), B ≤ Ms[j] ∧ Ms[j] < wr.heap.size ∧ (Value.slice ag k cg).ownBlock ≠ some Ms[j] ∧ PageRow wr Ms[j] (rows[j].ss.zip (tb.map Prod.snd))

theorem L2.next {w : World} {cp : ByteArray} {tb : List (ByteArray × Bool)} {rows : List RowD} {nT B : Nat} {ah : Option Addr} {ch k : Nat} {Ms : List Nat} {ag : Option Addr} {cg : Nat} {wr wi w2 : World} {g cap : Nat}
    (h : L2 w cp tb rows nT B ah ch k Ms ag cg wr) (hk : k < rows.length) (hi : Below wr.heap.size wr wi) (hM : wr.heap.size < wi.heap.size) (hp : PageRow wi wr.heap.size (rows[k].ss.zip (tb.map Prod.snd)))
    (ho : w2.ownsRow B 36 1 (.slice (some ⟨g, 0, none⟩) (k + 1) cap) (k + 1) (List.zipWith pv (rows.take k) Ms ++ [pv rows[k] wr.heap.size])) (hb : Below B wi w2) (hkp : Keeps wi w2 (.slice ag k cg) (.slice (some ⟨g, 0, none⟩) (k + 1) cap)) :
    L2 w cp tb rows nT B ah ch (k + 1) (Ms ++ [wr.heap.size]) (some ⟨g, 0, none⟩) cap (w2.setCell ⟨w.heap.size + 1, 2, none⟩ (.slice (some ⟨g, 0, none⟩) (k + 1) cap)) := by
  obtain ⟨s1, s2⟩ := h.siz
  have e0 : ∀ j, j < B → w2.heap[j]? = wr.heap[j]? := fun j hj => by rw [hb.block j hj, hi.block j (by omega)]
  have hag : ∀ j, (Value.slice ag k cg).ownBlock = some j → j < wr.heap.size := fun j hj => (h.own.lt j hj).2
  refine ⟨?_, ?_, ?_, h.hlow, ?_, ?_, ?_, ?_, ?_⟩
  · rw [Below.heap_setCell _ _ _ _ (by simp), e0 _ (by omega)]; exact h.res
  · exact three_set2 (by rw [e0 _ (by omega)]; exact h.tblk)
  · exact ownsRow_setCell_below (own_low (own_later h.head hi) hb h.hlow) (by simp) _
  · exact ((h.bel.trans (hi.mono h.bel.size)).trans (hb.mono (by omega))).setCell (by simp) _
  · have := hb.size; simp [World.setCell]; omega
  · simp [h.lenM]
  · rw [List.take_succ_eq_append_getElem hk, List.zipWith_append (by simp [h.lenM]; omega)]
    exact ownsRow_setCell_below ho (by simp; omega) _
  · intro j hj hj'
    have hsz := hb.size
    have key : ∀ M, B ≤ M → M < wi.heap.size → (Value.slice ag k cg).ownBlock ≠ some M → ∀ l, PageRow wi M l →
        B ≤ M ∧ M < (w2.setCell ⟨w.heap.size + 1, 2, none⟩ (.slice (some ⟨g, 0, none⟩) (k + 1) cap)).heap.size ∧ (Value.slice (some ⟨g, 0, none⟩) (k + 1) cap).ownBlock ≠ some M ∧ PageRow (w2.setCell ⟨w.heap.size + 1, 2, none⟩ (.slice (some ⟨g, 0, none⟩) (k + 1) cap)) M l := by
      intro M m1 m2 m3 l hl
      refine ⟨m1, by simp [World.setCell]; omega, fun e => m3 (hkp.2 M e m2), hl.same ?_⟩
      rw [Below.heap_setCell _ _ _ _ (by simp; omega)]
      exact hkp.1 M m2 m3
    by_cases hjk : j < Ms.length
    · obtain ⟨p1, p2, p3, p4⟩ := h.pages j hjk hj'
      rw [List.getElem_append_left hjk]
      exact key _ p1 (by omega) p3 _ (p4.same (hi.block _ p2))
    · have hjk' : j = k := by simp [h.lenM] at hj hjk; omega
      subst hjk'
      rw [List.getElem_append_right (by omega)]
      simp only [h.lenM, Nat.sub_self, List.getElem_cons_zero]
      exact key _ s2 hM (fun e => by have := hag _ e; omega) _ hp

/-- The result's own block is written: what the page table leads to stays. -/
theorem PtPost.put {w w1 w2 : World} {cp : ByteArray} {nT nR : Nat} {tb : List (ByteArray × Bool)} {rows : List RowD} {ah ag : Option Addr} {ch cg : Nat} (hb : Below w.heap.size w w2) (hlt : w.heap.size < w1.heap.size)
    (hh : 0 < nT → ∃ g, ah = some ⟨g, 0, none⟩ ∧ w1.heap.size ≤ g ∧ PageRow w2 g tb)
    (hg : 0 < nR → ∃ g, ag = some ⟨g, 0, none⟩ ∧ w1.heap.size ≤ g ∧ ∀ j (h : j < rows.length), ∃ M, w1.heap.size ≤ M ∧ w2.cell? ⟨g, j, none⟩ = some (.slice (some ⟨M, 0, none⟩) rows[j].ss.length rows[j].ss.length) ∧ PageRow w2 M (rows[j].ss.zip (tb.map Prod.snd))) {x y z : Value} :
    PtPost w cp nT nR tb rows (.returned (.agg #[.string cp, .slice ah nT ch, .slice ag nR cg])) (((w2.setCell ⟨w.heap.size, 0, none⟩ x).setCell ⟨w.heap.size, 1, none⟩ y).setCell ⟨w.heap.size, 2, none⟩ z) := by
  have e : ∀ b, b ≠ w.heap.size → (((w2.setCell ⟨w.heap.size, 0, none⟩ x).setCell ⟨w.heap.size, 1, none⟩ y).setCell ⟨w.heap.size, 2, none⟩ z).heap[b]? = w2.heap[b]? := fun b hb => by
    rw [Below.heap_setCell _ _ _ _ hb, Below.heap_setCell _ _ _ _ hb, Below.heap_setCell _ _ _ _ hb]
  refine ⟨ah, ag, ch, cg, rfl, ((hb.setCell (Nat.le_refl _) _).setCell (Nat.le_refl _) _).setCell (Nat.le_refl _) _, fun hp => ?_, fun hp => ?_⟩
  · obtain ⟨g, h1, h2, h3⟩ := hh hp
    exact ⟨g, h1, by omega, h3.same (e _ (by omega))⟩
  · obtain ⟨g, h1, h2, h3⟩ := hg hp
    refine ⟨g, h1, by omega, fun j hj => ?_⟩
    obtain ⟨M, m1, m2, m3⟩ := h3 j hj
    exact ⟨M, by omega, (World.cell?_of_block (e g (by omega))).trans m2, m3.same (e _ (by omega))⟩

theorem L2.done {w : World} {cp : ByteArray} {tb : List (ByteArray × Bool)} {rows : List RowD} {nT B : Nat} {ah : Option Addr} {ch nR : Nat} {Ms : List Nat} {ag : Option Addr} {cg : Nat} {wr : World} (h : L2 w cp tb rows nT B ah ch nR Ms ag cg wr) (hT : tb.length = nT) (hR : rows.length = nR) {x y z : Value} :
    PtPost w cp nT nR tb rows (.returned (.agg #[.string cp, .slice ah nT ch, .slice ag nR cg])) (((wr.setCell ⟨w.heap.size, 0, none⟩ x).setCell ⟨w.heap.size, 1, none⟩ y).setCell ⟨w.heap.size, 2, none⟩ z) := by
  obtain ⟨s1, s2⟩ := h.siz
  have e : ∀ b, b ≠ w.heap.size → (((wr.setCell ⟨w.heap.size, 0, none⟩ x).setCell ⟨w.heap.size, 1, none⟩ y).setCell ⟨w.heap.size, 2, none⟩ z).heap[b]? = wr.heap[b]? := fun b hb => by
    rw [Below.heap_setCell _ _ _ _ hb, Below.heap_setCell _ _ _ _ hb, Below.heap_setCell _ _ _ _ hb]
  have ec : ∀ b o, b ≠ w.heap.size → (((wr.setCell ⟨w.heap.size, 0, none⟩ x).setCell ⟨w.heap.size, 1, none⟩ y).setCell ⟨w.heap.size, 2, none⟩ z).cell? ⟨b, o, none⟩ = wr.cell? ⟨b, o, none⟩ := fun b o hb => World.cell?_of_block (e b hb)
  refine ⟨ah, ag, ch, cg, rfl, ((h.bel.setCell (Nat.le_refl _) _).setCell (Nat.le_refl _) _).setCell (Nat.le_refl _) _, fun hp => ?_, fun hp => ?_⟩
  · rcases h.head.2 with ⟨_, h0⟩ | ⟨g, cap, cur, hv, hg, _⟩
    · omega
    · simp only [Value.slice.injEq] at hv
      obtain ⟨rfl, _, rfl⟩ := hv
      refine ⟨g, rfl, by omega, fun i hi => ?_⟩
      rw [ec _ _ (by omega), ec _ _ (by omega), h.head.cellAt _ (by omega), h.head.cellAt _ (by omega)]
      exact pcs_get tb i hi
  · rcases h.own.2 with ⟨_, h0⟩ | ⟨g, cap, cur, hv, hg, _⟩
    · omega
    · simp only [Value.slice.injEq] at hv
      obtain ⟨rfl, _, rfl⟩ := hv
      refine ⟨g, rfl, by omega, fun j hj => ?_⟩
      have hjM : j < Ms.length := by rw [h.lenM]; omega
      obtain ⟨p1, p2, p3, p4⟩ := h.pages j hjM hj
      refine ⟨Ms[j], by omega, ?_, p4.same (e _ (by omega))⟩
      rw [ec _ _ (by omega), h.own.cellAt _ (by omega), List.take_of_length_le (by omega)]
      simp [List.getElem?_zipWith, hj, hjM, pv]

set_option maxRecDepth 100000 in
set_option maxHeartbeats 2000000 in
theorem page_any (cp : ByteArray) (rp cb nT : Nat) (ar : Option Addr) (nR cR : Nat) (tb : List (ByteArray × Bool)) (rows : List RowD) (w : World) (H : RepOk w rp cb nT ar nR cR tb rows) (hT : nT ≤ 1048576) (hR : nR ≤ 1048576) :
    Calls Try.prog 23 #[.string cp, .pointer (some ⟨rp, 0, none⟩)] w (PtPost w cp nT nR tb rows) := by
  obtain ⟨i0, hi, hz0, hz1, hz2⟩ := info_parts Try.info42
  have c0 := H.c0
  have lrp := World.block_lt_of_cell? _ _ c0
  have HH := hid H
  clear H
  go_enter Try.func23, Try.ntmps23
  go_wp2
  go_loopw [20] (fun i wr => ∃ (k : Nat) (a : Option Addr) (c : Nat), k ≤ nT ∧ i = .int .i64 k ∧ L1 w cp tb k a c wr) (fun i _ => nT - (intOf i).toNat)
  case atStart =>
    refine ⟨0, none, 0, Nat.zero_le _, rfl, ?_, ?_, ?_, ?_, ?_⟩
    · rw [Below.heap_alloc _ _ _ (by simp)]; exact heap_alloc_new w _
    · have := heap_alloc_new (w.alloc (.cells #[.string ByteArray.empty, .slice none 0 0, .slice none 0 0] 39)) (.cells #[.string cp, .slice none 0 0, .slice none 0 0] 39)
      rw [World.size_alloc] at this
      exact this
    · exact World.ownsRow_nil _ _ _ _
    · exact ((Below.refl _ _).alloc (Nat.le_refl _) _).alloc (by simp) _
    · simp
  case round =>
    obtain ⟨k, a, c, hk, rfl, h⟩ := hrel
    have HL := hid h
    obtain ⟨t0, t1, t2, f0, f1, f2⟩ := three_cells h.tblk
    have hR' := HH.out.later h.bel
    have hsz := h.siz
    clear c0 lrp h
    by_cases hlt : k < nT
    · obtain ⟨q0, q1, q2⟩ := hR'.cols k (by rw [hR'.lenT]; exact hlt)
      have hkt : k < tb.length := by rw [hR'.lenT]; exact hlt
      obtain ⟨tx, htx⟩ : ∃ t, t = tb[k].1 := ⟨_, rfl⟩
      obtain ⟨bx, hbx⟩ : ∃ b, b = tb[k].2 := ⟨_, rfl⟩
      rw [← htx] at q1
      rw [← hbx] at q2
      have HTX := hid htx
      have HBX := hid hbx
      have HW := hid HL.out.own
      have hs1 : w.heap.size + 1 < wr.heap.size := by omega
      clear htx hbx hR'
      go_wp2_with (at_builtin; refine wpList_append_into (wr.alloc (.cells #[.string ByteArray.empty, .string tx, .bool bx] 46)) rfl _ _ 36 rfl (w.heap.size + 2) 42 i0 _ 2 24 Try.underlying36 hi hz0 hz1 hz2 rfl (by decide) (.slice a k c) k (pcs (tb.take k)) rfl (Or.inl (HW.out.alloc _)) 1 1 [.string tx, .bool bx] (by simp [Act.eval]) rfl (by decide) ?_ (by unfold maxLen; omega) (by omega) (by simp; omega) ?_)
      case _ => intro u hu; simp at hu; rcases hu with rfl | rfl <;> rfl
      intro g cap w2 ho2 hb2
      have hT2 : w2.heap[w.heap.size + 1]? = some (.cells #[.string cp, .slice a k c, .slice none 0 0] 39 (0, 0)) := by
        rw [hb2.block _ (by omega), Below.heap_alloc _ _ _ hs1]; exact HL.out.tblk
      obtain ⟨_, x1, _, _, y1, _⟩ := three_cells hT2
      have R := HL.out.next hkt hb2 (by rw [← HTX.out, ← HBX.out]; exact ho2)
      clear hT2 ho2 hb2 HL HW HTX HBX t0 t1 t2 f0 f1 f2 q0 q1 q2 hs1
      go_wp2
      go_roundw
      case rel => exact ⟨k + 1, _, _, by omega, by go_num, R⟩
      case measure => simp [intOf]; omega
    · have hkn : k = nT := by omega
      subst hkn
      have c1 := hR'.c1
      clear t0 t1 t2 f0 f1 f2 hR'
      go_wp2
      obtain ⟨B, hB⟩ : ∃ B, B = wr.heap.size := ⟨_, rfl⟩
      have HB := hid hB
      clear hB c1
      go_loopw [40] (fun i wx => ∃ (j : Nat) (Ms : List Nat) (ag : Option Addr) (cg : Nat), j ≤ nR ∧ i = .int .i64 j ∧ L2 w cp tb rows k B a c j Ms ag cg wx) (fun i _ => nR - (intOf i).toNat)
      case atStart =>
        have h := HL.out
        refine ⟨0, [], none, 0, Nat.zero_le _, rfl, h.res, h.tblk, ?_, ?_, h.bel, ⟨by rw [HB.out]; exact h.siz, by rw [HB.out]; exact Nat.le_refl _⟩, rfl, World.ownsRow_nil _ _ _ _, fun j hj => by simp at hj⟩
        · have := h.own
          rwa [List.take_of_length_le (by rw [HH.out.lenT]; exact Nat.le_refl _)] at this
        · intro g hg
          rw [HB.out]
          exact (h.own.lt g hg).2
      case round =>
        clear HL hsz hk hlt HB
        obtain ⟨j, Ms, ag, cg, hj, rfl, h⟩ := hrel
        obtain ⟨wo, hwo⟩ : ∃ wo : World, wo = wr := ⟨_, rfl⟩
        subst hwo
        have H2 := hid h
        obtain ⟨t0, t1, t2, f0, f1, f2⟩ := three_cells h.tblk
        obtain ⟨s0, s1, s2, g0, g1, g2⟩ := three_cells h.res
        obtain ⟨sz1, sz2⟩ := h.siz
        have hR' := HH.out.later h.bel
        have c0 := hR'.c0
        by_cases hlt : j < nR
        · have hjr : j < rows.length := by rw [hR'.lenR]; exact hlt
          obtain ⟨b, o, ha, hc, hrv, hrn⟩ := hR'.rr.at hjr
          have hfit := hR'.fit _ (List.getElem_mem hjr)
          obtain ⟨r, hr⟩ : ∃ r, r = rows[j] := ⟨_, rfl⟩
          rw [← hr] at hc hrv hfit
          have HRk := hid hr
          have HRV := hid hrv
          have HRR := hid hR'
          obtain ⟨n', hn'⟩ : ∃ n', n' = r.ss.length := ⟨_, rfl⟩
          unfold RowD.val at hc
          rw [← hn'] at hc hfit
          have HN := hid hn'
          clear hn' hr hrv hrn h
          subst ha
          go_wp2_with (at_make; refine wpList_make_full _ rfl _ _ 36 rfl wo.heap.size 42 i0 _ 2 Try.underlying36 hi hz0 hz1 .i64 .i64 _ _ n' rfl rfl rfl rfl (by rw [hz2]; omega) (by unfold maxLen; omega) (Nat.le_refl _) ?_)
          intro w1 hown hgrow
          have hb1 : Below wo.heap.size wo w1 := (Below.refl _ _).grown hgrow (Nat.le_refl _) (by simp)
          clear hgrow hc hR' hi hz0 hz1 hz2
          go_wp2
          go_loopw [49] (fun i wx => ∃ (q : Nat) (cs : List Value), q ≤ n' ∧ i = .int .i64 q ∧ wx.ownsRow wo.heap.size 42 2 (.slice (some ⟨wo.heap.size, 0, none⟩) n' n') n' cs ∧ Below wo.heap.size wo wx ∧
            Hid (∀ t (ht : t < q) (h1 : t < r.ss.length) (h2 : t < tb.length), cs[t * 2]? = some (.string r.ss[t]) ∧ cs[t * 2 + 1]? = some (.bool tb[t].2))) (fun i _ => n' - (intOf i).toNat)
          case atStart => exact ⟨0, _, Nat.zero_le _, rfl, hown, hb1, fun t ht => by omega⟩
          case round =>
            clear hown hb1
            obtain ⟨q, cs, hq, rfl, ho, hbq, HQ⟩ := hrel
            by_cases hlt2 : q < n'
            · have hqs : q < r.ss.length := by rw [← HN.out]; exact hlt2
              have hqt : q < tb.length := by rw [HRR.out.lenT]; omega
              obtain ⟨rb, ro, hra, hrc⟩ := strsV_at (HRV.out.later hbq) hqs
              have hcol := ((HRR.out.later hbq).cols q hqt).2.2
              have hrp := (HRR.out.later hbq).c0
              obtain ⟨tx, htx⟩ : ∃ t, t = r.ss[q] := ⟨_, rfl⟩
              obtain ⟨bx, hbx⟩ : ∃ b, b = tb[q].2 := ⟨_, rfl⟩
              rw [← htx] at hrc
              rw [← hbx] at hcol
              have HTX := hid htx
              have HBX := hid hbx
              have hcl : cs.length = n' * 2 := ho.1
              have e0 := ho.frozenAt (q * 2)
              have e1 := ho.frozenAt (q * 2 + 1)
              obtain ⟨x0, y0⟩ : ∃ x, wr.cell? ⟨wo.heap.size, q * 2, none⟩ = some x := ⟨cs[q * 2]'(by omega), by rw [ho.cellAt (q * 2) (by omega)]; simp⟩
              obtain ⟨x1, y1⟩ : ∃ x, wr.cell? ⟨wo.heap.size, q * 2 + 1, none⟩ = some x := ⟨cs[q * 2 + 1]'(by omega), by rw [ho.cellAt (q * 2 + 1) (by omega)]; simp⟩
              have HO := hid ho
              have HCL := hid hcl
              clear htx hbx hcl ho t0 t1 t2 f0 f1 f2 s0 s1 s2 g0 g1 g2 c0
              unfold RowD.a at hra
              go_wp2
              go_roundw
              case rel =>
                refine ⟨q + 1, _, by omega, by go_num, ((HO.out.stored (q * 2) _).1.stored (q * 2 + 1) _).1, (hbq.setCell (Nat.le_refl _) _).setCell (Nat.le_refl _) _, ?_⟩
                intro t ht h1 h2
                have hcl := HCL.out
                by_cases hte : t = q
                · subst hte
                  rw [← HTX.out, ← HBX.out]
                  constructor
                  · rw [List.getElem?_set_ne (by omega), List.getElem?_set_self (by omega)]
                  · rw [List.getElem?_set_self (by simp; omega)]
                · rw [List.getElem?_set_ne (by omega), List.getElem?_set_ne (by omega), List.getElem?_set_ne (by omega), List.getElem?_set_ne (by omega)]
                  exact HQ.out t (by omega) h1 h2
              case measure => simp [intOf]; omega
            · have hqn : q = n' := by omega
              subst hqn
              have hM := (ho.lt wo.heap.size rfl).2
              have hpage : PageRow wr wo.heap.size (rows[j].ss.zip (tb.map Prod.snd)) := by
                rw [← HRk.out]
                intro t ht
                simp at ht
                have h := HQ.out t (by rw [HN.out]; omega) (by omega) (by omega)
                rw [← ho.cellAt _ (by have := HN.out; omega), ← ho.cellAt _ (by have := HN.out; omega)] at h
                simpa using h
              have hT3 : wr.heap[w.heap.size + 1]? = some (.cells #[.string cp, .slice a k c, .slice ag j cg] 39 (0, 0)) := by
                rw [hbq.block _ (by omega)]; exact H2.out.tblk
              obtain ⟨_, _, z2, _, _, z5⟩ := three_cells hT3
              obtain ⟨i1, hi', hz0', hz1', hz2'⟩ := info_parts Try.info36
              have HOW := hid (own_later H2.out.own hbq)
              have HP := hid hpage
              clear hT3 ho HQ t0 t1 t2 f0 f1 f2 s0 s1 s2 g0 g1 g2 c0 hpage
              go_wp2_with (at_builtin; refine wpList_append_keeps wr rfl _ _ 37 rfl B 36 i1 _ 1 24 Try.underlying37 hi' hz0' hz1' hz2' rfl (by decide) (.slice ag j cg) j (List.zipWith pv (rows.take j) Ms) rfl (Or.inl HOW.out) 1 1 [.slice (some ⟨wo.heap.size, 0, none⟩) q q] rfl rfl (by decide) (by intro u hu; simp at hu; subst hu; rfl) (by unfold maxLen; omega) (by omega) (by omega) ?_)
              intro g cap w2 ho2 hb2 hk2
              have hT4 : w2.heap[w.heap.size + 1]? = some (.cells #[.string cp, .slice a k c, .slice ag j cg] 39 (0, 0)) := by
                rw [hb2.block _ (by omega), hbq.block _ (by omega)]; exact H2.out.tblk
              obtain ⟨_, _, v2, _, _, v5⟩ := three_cells hT4
              have R := H2.out.next hjr hbq hM HP.out (by
                rw [← HRk.out]
                unfold pv
                rw [← HN.out]
                exact ho2) hb2 hk2
              clear hT4 ho2 hb2 hk2 HOW hi' hz0' hz1' hz2' z2 z5 HP H2 hbq
              go_wp2
              go_roundw
              case rel => exact ⟨j + 1, _, _, _, by omega, by go_num, R⟩
              case measure => simp [intOf]; omega
        · have hjn : j = nR := by omega
          subst hjn
          clear hR' c0 hi hz0 hz1 hz2
          go_wp2
          refine bodyPost_ret (v := .agg #[.string cp, .slice a k c, .slice ag j cg]) (by simp [results, Try.results23, go_sem, s0, s1, s2]) rfl ?_
          exact H2.out.done HH.out.lenT HH.out.lenR

end Go.Proofs.Qxb6000044a
