/-
  General laws for this seat's walks: append onto a slice that is the call's own or that is full; rows that are filled cell by cell. They speak of no program.
-/
import Derived.WalkKit
import Derived.WalkSpells
namespace Go.Proofs.Qxb6000140a
open Go.RowKit

/-- What an append may go onto: a slice that the call owns (from block 'base' on); or one without spare room, whose cells can be read. -/
def Into (w : World) (base : Nat) (e : TypeId) (size : Nat) (v : Value) (n : Nat) (xs : List Value) : Prop :=
  w.ownsRow base e size v n xs ∨
  (xs.length = n * size ∧ ∃ a, v = .slice a n n ∧ (a = none → n = 0) ∧ ∀ x, a = some x → ∀ j u, xs[j]? = some u → w.cell? (x.add j) = some u)

theorem cell_alloc_lit {w : World} {news : List Value} {e : TypeId} : ∀ j u, news[j]? = some u → (w.alloc (.cells news.toArray e)).cell? ((⟨w.heap.size, 0, none⟩ : Addr).add j) = some u := by
  intro j u hj
  have h := heap_alloc_new w (.cells news.toArray e)
  rw [Addr.add_lit, cell_of_row _ _ _ _ _ _ h]
  simpa using hj

/-- From (w, v) to (w', v'): of the blocks that were there only the one that v leads to may have turned; v' leads to that one or to a new one. -/
def Keeps (w w' : World) (v v' : Value) : Prop :=
  (∀ k, k < w.heap.size → v.ownBlock ≠ some k → w'.heap[k]? = w.heap[k]?) ∧ ∀ k, v'.ownBlock = some k → k < w.heap.size → v.ownBlock = some k

theorem Keeps.refl (w : World) (v : Value) : Keeps w w v v := ⟨fun _ _ _ => rfl, fun _ h _ => h⟩

theorem Keeps.trans {w w1 w2 : World} {v v1 v2 : Value} (h : Keeps w w1 v v1) (h' : Keeps w1 w2 v1 v2) (hs : w.heap.size ≤ w1.heap.size) : Keeps w w2 v v2 :=
  ⟨fun k hk hne => (h'.1 k (by omega) (fun e => hne (h.2 k e hk))).trans (h.1 k hk hne), fun k e hk => h.2 k (h'.2 k e (by omega)) hk⟩

/-- Where an append onto a slice of the call's own leads to. -/
theorem append_block {P : Program} (w : World) (base : Nat) (t ty e : TypeId) (i : TypeInfo) (z : Value) (size bytes : Nat) (ht : P.underlying t = some (.slice e)) (hi : P.info? e = some i) (hz : i.zero = some z)
    (hsize : i.size = size) (hby : i.bytes = bytes)
    (v : Value) (n : Nat) (xs : List Value) (hown : w.ownsRow base e size v n xs)
    (a : Addr) (m c : Nat) (news : List Value) (hl : news.length = m * size) (hm : 0 < m) (hnews : ∀ j u, news[j]? = some u → w.cell? (a.add j) = some u) (h1 : ∀ u ∈ news, u.oneCell' = true)
    (h63 : n + m ≤ maxLen) (hbytes : (n + m) * bytes ≤ 140737488355328) (v' : Value) (w' : World)
    (hrun : (Builtin.append_ #[t, t] ty #[v, .slice (some a) m c]).run P w = .ok v' w') : ∀ k, v'.ownBlock = some k → v.ownBlock = some k ∨ w.heap.size ≤ k := by
  subst hsize
  subst hby
  have hsmall : n + m ≤ 9223372036854775807 := by simp only [maxLen] at h63; omega
  intro k hk
  rcases hown.2 with ⟨rfl, rfl⟩ | ⟨g, cap, cur, rfl, hbg, hg, hnc, hcm, hcs, htake⟩
  · have hr := run_append_nil (P := P) w t ty e i z ht hi hz a m c news hl hnews hm (by omega) (by have hb := hbytes; simp only [Nat.zero_add] at hb; omega)
    rw [hr] at hrun
    injection hrun with e1 e2
    subst e1
    simp [Value.ownBlock] at hk
    omega
  · by_cases hroom : n + m ≤ cap
    · have hfit : n * i.size + news.length ≤ cur.size := by rw [hl, hcs, ← Nat.add_mul]; exact Nat.mul_le_mul_right _ hroom
      have hr := run_append_room (P := P) w t ty e i ht hi g n cap cur hg a m c news hl hnews h1 hroom hfit
      rw [hr] at hrun
      injection hrun with e1 e2
      subst e1
      exact .inl hk
    · have holds : ∀ j u, xs[j]? = some u → w.cell? ((⟨g, 0, none⟩ : Addr).add j) = some u := hown.cells (g := g) rfl
      have hr := run_append_grow (P := P) w t ty e i z ht hi hz ⟨g, 0, none⟩ n cap xs hown.1 holds a m c news hl hnews (by omega) (by omega) (growslice_fits (by omega) hbytes)
      rw [hr] at hrun
      injection hrun with e1 e2
      subst e1
      simp [Value.ownBlock] at hk
      omega

theorem run_append_into {P : Program} (w : World) (base : Nat) (t ty e : TypeId) (i : TypeInfo) (z : Value) (size bytes : Nat) (ht : P.underlying t = some (.slice e)) (hi : P.info? e = some i) (hz : i.zero = some z)
    (hsize : i.size = size) (hby : i.bytes = bytes) (hzs : z.cells.size = size) (hsz : 0 < size)
    (v : Value) (n : Nat) (xs : List Value) (hown : Into w base e size v n xs)
    (m c : Nat) (news : List Value) (hl : news.length = m * size) (hm : 0 < m) (h1 : ∀ u ∈ news, u.oneCell' = true)
    (h63 : n + m ≤ maxLen) (hbytes : (n + m) * bytes ≤ 140737488355328) (hbase : base ≤ w.heap.size) :
    ∃ g cap w', (Builtin.append_ #[t, t] ty #[v, .slice (some ⟨w.heap.size, 0, none⟩) m c]).run P (w.alloc (.cells news.toArray e)) = .ok (.slice (some ⟨g, 0, none⟩) (n + m) cap) w' ∧
      w'.ownsRow base e size (.slice (some ⟨g, 0, none⟩) (n + m) cap) (n + m) (xs ++ news) ∧ Below base w w' ∧ Keeps w w' v (.slice (some ⟨g, 0, none⟩) (n + m) cap) := by
  have hb0 : Below base w (w.alloc (.cells news.toArray e)) := (Below.refl _ _).alloc hbase _
  have hsz' : base ≤ (w.alloc (.cells news.toArray e)).heap.size := by simp; omega
  rcases hown with hown | ⟨hxl, a, rfl, hnone, hcells⟩
  · obtain ⟨v', w', hrun, h2, h3, h4⟩ := run_append_own (P := P) (w.alloc (.cells news.toArray e)) base t ty e i z size bytes ht hi hz hsize hby hzs hsz v n xs (hown.alloc _) ⟨w.heap.size, 0, none⟩ m c news hl cell_alloc_lit h1 h63 hbytes hsz'
    have hne : ∃ g cap, v' = .slice (some ⟨g, 0, none⟩) (n + m) cap := by
      rcases h2.2 with ⟨_, h⟩ | ⟨g, cap, cur, h, _⟩
      · omega
      · exact ⟨g, cap, h⟩
    obtain ⟨g, cap, rfl⟩ := hne
    have hab := append_block (P := P) (w.alloc (.cells news.toArray e)) base t ty e i z size bytes ht hi hz hsize hby v n xs (hown.alloc _) ⟨w.heap.size, 0, none⟩ m c news hl hm cell_alloc_lit h1 h63 hbytes _ w' hrun
    refine ⟨g, cap, w', hrun, h2, hb0.grown h3 hsz' (fun k hk => (hown.lt k hk).1), fun k hk hne => ?_, fun k hk hlt => ?_⟩
    · rw [h3.block k (by simp; omega) (fun e => hne e.symm), Below.heap_alloc _ _ _ hk]
    · rcases hab k hk with h | h
      · exact h
      · simp at h; omega
  · cases a with
    | none =>
      obtain rfl := hnone rfl
      obtain rfl : xs = [] := List.eq_nil_of_length_eq_zero (by simpa using hxl)
      obtain ⟨v', w', hrun, h2, h3, h4⟩ := run_append_own (P := P) (w.alloc (.cells news.toArray e)) base t ty e i z size bytes ht hi hz hsize hby hzs hsz (.slice none 0 0) 0 [] (World.ownsRow_nil _ _ e size) ⟨w.heap.size, 0, none⟩ m c news hl cell_alloc_lit h1 h63 hbytes hsz'
      have hne : ∃ g cap, v' = .slice (some ⟨g, 0, none⟩) (0 + m) cap := by
        rcases h2.2 with ⟨_, h⟩ | ⟨g, cap, cur, h, _⟩
        · omega
        · exact ⟨g, cap, h⟩
      obtain ⟨g, cap, rfl⟩ := hne
      have hab := append_block (P := P) (w.alloc (.cells news.toArray e)) base t ty e i z size bytes ht hi hz hsize hby (.slice none 0 0) 0 [] (World.ownsRow_nil _ _ e size) ⟨w.heap.size, 0, none⟩ m c news hl hm cell_alloc_lit h1 h63 hbytes _ w' hrun
      refine ⟨g, cap, w', hrun, h2, hb0.grown h3 hsz' (fun k hk => by simp [Value.ownBlock] at hk), fun k hk hne => ?_, fun k hk hlt => ?_⟩
      · rw [h3.block k (by simp; omega) (by simp [Value.ownBlock]), Below.heap_alloc _ _ _ hk]
      · rcases hab k hk with h | h
        · exact h
        · simp at h; omega
    | some x =>
      obtain ⟨v', w', hrun, h2, h3⟩ := run_append_arg_grows (P := P) (w.alloc (.cells news.toArray e)) t ty e i z size bytes ht hi hz hsize hby hzs hsz x n n xs hxl (fun j u hj => cell_later ((Below.refl _ _).alloc (Nat.le_refl _) _) (hcells x rfl j u hj)) ⟨w.heap.size, 0, none⟩ m c news hl cell_alloc_lit (by omega) h63 hbytes
      have hne : ∃ g cap, v' = .slice (some ⟨g, 0, none⟩) (n + m) cap := by
        rcases h2.2 with ⟨_, h⟩ | ⟨g, cap, cur, h, _⟩
        · omega
        · exact ⟨g, cap, h⟩
      obtain ⟨g, cap, rfl⟩ := hne
      refine ⟨g, cap, w', hrun, ?_, hb0.grown h3 hsz' (fun k hk => by simp at hk), fun k hk hne => ?_, fun k hk hlt => ?_⟩
      · refine ⟨h2.1, ?_⟩
        rcases h2.2 with h | ⟨g', cap', cur, h, hg, r⟩
        · exact .inl h
        · exact .inr ⟨g', cap', cur, h, by simp at hg; omega, r⟩
      · rw [h3.block k (by simp; omega) (by simp), Below.heap_alloc _ _ _ hk]
      · have := (h2.lt k hk).1
        simp at this
        omega

/-- The same as a law of the walk: 'append(v, x1, .., xm)', the new elements laid in a block of their own just ahead. -/
theorem wpList_append_into {P : Program} (w : World) {ops : Array Oper} {rest : List Oper} {o : Oper} {a : Act} {Q : Exit → Act → World → Prop} (hgd : o.guard = none) (s x : Operand) (t : TypeId)
    (ho : o.op = .call { callee := .builtin .append, args := #[s, x], argTypes := #[t, t] })
    (base : Nat) (e : TypeId) (i : TypeInfo) (z : Value) (size bytes : Nat) (ht : P.underlying t = some (.slice e)) (hi : P.info? e = some i) (hz : i.zero = some z)
    (hsize : i.size = size) (hby : i.bytes = bytes) (hzs : z.cells.size = size) (hsz : 0 < size)
    (v : Value) (n : Nat) (xs : List Value) (hs : a.eval s = v) (hown : Into w base e size v n xs)
    (m c : Nat) (news : List Value) (hx : a.eval x = .slice (some ⟨w.heap.size, 0, none⟩) m c) (hl : news.length = m * size) (hm : 0 < m) (h1 : ∀ u ∈ news, u.oneCell' = true)
    (h63 : n + m ≤ maxLen) (hbytes : (n + m) * bytes ≤ 140737488355328) (hbase : base ≤ w.heap.size)
    (h : ∀ g cap w', w'.ownsRow base e size (.slice (some ⟨g, 0, none⟩) (n + m) cap) (n + m) (xs ++ news) → Below base w w' → wpList P ops Q rest (a.put o.dst (.slice (some ⟨g, 0, none⟩) (n + m) cap)) w') :
    wpList P ops Q (o :: rest) a (w.alloc (.cells news.toArray e)) := by
  refine wpList_plain hgd fun K hK => ?_
  obtain ⟨g, cap, w', hr, h2, h3, _⟩ := run_append_into (P := P) w base t o.type e i z size bytes ht hi hz hsize hby hzs hsz v n xs hown m c news hl hm h1 h63 hbytes hbase
  unfold Oper.wp execOp
  simp only [ho, resolve, invoke, builtin, Sem.run_bind, Sem.run_pure, Result.andThen_ok, List.map_toArray, List.map_cons, List.map_nil, hs, hx, hr]
  exact hK _ _ (h g cap w' h2 h3)

/-- The same as a law of the walk: 'append(v, x1, .., xm)', the new elements laid in a block of their own just ahead. -/
theorem wpList_append_keeps {P : Program} (w : World) {ops : Array Oper} {rest : List Oper} {o : Oper} {a : Act} {Q : Exit → Act → World → Prop} (hgd : o.guard = none) (s x : Operand) (t : TypeId)
    (ho : o.op = .call { callee := .builtin .append, args := #[s, x], argTypes := #[t, t] })
    (base : Nat) (e : TypeId) (i : TypeInfo) (z : Value) (size bytes : Nat) (ht : P.underlying t = some (.slice e)) (hi : P.info? e = some i) (hz : i.zero = some z)
    (hsize : i.size = size) (hby : i.bytes = bytes) (hzs : z.cells.size = size) (hsz : 0 < size)
    (v : Value) (n : Nat) (xs : List Value) (hs : a.eval s = v) (hown : Into w base e size v n xs)
    (m c : Nat) (news : List Value) (hx : a.eval x = .slice (some ⟨w.heap.size, 0, none⟩) m c) (hl : news.length = m * size) (hm : 0 < m) (h1 : ∀ u ∈ news, u.oneCell' = true)
    (h63 : n + m ≤ maxLen) (hbytes : (n + m) * bytes ≤ 140737488355328) (hbase : base ≤ w.heap.size)
    (h : ∀ g cap w', w'.ownsRow base e size (.slice (some ⟨g, 0, none⟩) (n + m) cap) (n + m) (xs ++ news) → Below base w w' → Keeps w w' v (.slice (some ⟨g, 0, none⟩) (n + m) cap) → wpList P ops Q rest (a.put o.dst (.slice (some ⟨g, 0, none⟩) (n + m) cap)) w') :
    wpList P ops Q (o :: rest) a (w.alloc (.cells news.toArray e)) := by
  refine wpList_plain hgd fun K hK => ?_
  obtain ⟨g, cap, w', hr, h2, h3, h4⟩ := run_append_into (P := P) w base t o.type e i z size bytes ht hi hz hsize hby hzs hsz v n xs hown m c news hl hm h1 h63 hbytes hbase
  unfold Oper.wp execOp
  simp only [ho, resolve, invoke, builtin, Sem.run_bind, Sem.run_pure, Result.andThen_ok, List.map_toArray, List.map_cons, List.map_nil, hs, hx, hr]
  exact hK _ _ (h g cap w' h2 h3 h4)

/-- The same as one step of a region that draws its order. -/
theorem step_append_into {P : Program} (w : World) {ops : Array Oper} {o : Oper} {a : Act} {K : Act → World → Prop} {Q : Exit → Act → World → Prop} {E : Prop} (hgd : o.guard = none) (s x : Operand) (t : TypeId)
    (ho : o.op = .call { callee := .builtin .append, args := #[s, x], argTypes := #[t, t] })
    (base : Nat) (e : TypeId) (i : TypeInfo) (z : Value) (size bytes : Nat) (ht : P.underlying t = some (.slice e)) (hi : P.info? e = some i) (hz : i.zero = some z)
    (hsize : i.size = size) (hby : i.bytes = bytes) (hzs : z.cells.size = size) (hsz : 0 < size)
    (v : Value) (n : Nat) (xs : List Value) (hs : a.eval s = v) (hown : Into w base e size v n xs)
    (m c : Nat) (news : List Value) (hx : a.eval x = .slice (some ⟨w.heap.size, 0, none⟩) m c) (hl : news.length = m * size) (hm : 0 < m) (h1 : ∀ u ∈ news, u.oneCell' = true)
    (h63 : n + m ≤ maxLen) (hbytes : (n + m) * bytes ≤ 140737488355328) (hbase : base ≤ w.heap.size)
    (h : ∀ g cap w', w'.ownsRow base e size (.slice (some ⟨g, 0, none⟩) (n + m) cap) (n + m) (xs ++ news) → Below base w w' → K (a.put o.dst (.slice (some ⟨g, 0, none⟩) (n + m) cap)) w') :
    if Region.wanted o (yielded ops a.tmps) = true then Oper.wp P o a (w.alloc (.cells news.toArray e)) K Q else E := by
  have hw : Region.wanted o (yielded ops a.tmps) = true := by simp [Region.wanted, hgd]
  rw [if_pos hw]
  obtain ⟨g, cap, w', hr, h2, h3, _⟩ := run_append_into (P := P) w base t o.type e i z size bytes ht hi hz hsize hby hzs hsz v n xs hown m c news hl hm h1 h63 hbytes hbase
  unfold Oper.wp execOp
  simp only [ho, resolve, invoke, builtin, Sem.run_bind, Sem.run_pure, Result.andThen_ok, List.map_toArray, List.map_cons, List.map_nil, hs, hx, hr]
  exact h g cap w' h2 h3

/-- The same as one step of a region that draws its order. -/
theorem step_append_keeps {P : Program} (w : World) {ops : Array Oper} {o : Oper} {a : Act} {K : Act → World → Prop} {Q : Exit → Act → World → Prop} {E : Prop} (hgd : o.guard = none) (s x : Operand) (t : TypeId)
    (ho : o.op = .call { callee := .builtin .append, args := #[s, x], argTypes := #[t, t] })
    (base : Nat) (e : TypeId) (i : TypeInfo) (z : Value) (size bytes : Nat) (ht : P.underlying t = some (.slice e)) (hi : P.info? e = some i) (hz : i.zero = some z)
    (hsize : i.size = size) (hby : i.bytes = bytes) (hzs : z.cells.size = size) (hsz : 0 < size)
    (v : Value) (n : Nat) (xs : List Value) (hs : a.eval s = v) (hown : Into w base e size v n xs)
    (m c : Nat) (news : List Value) (hx : a.eval x = .slice (some ⟨w.heap.size, 0, none⟩) m c) (hl : news.length = m * size) (hm : 0 < m) (h1 : ∀ u ∈ news, u.oneCell' = true)
    (h63 : n + m ≤ maxLen) (hbytes : (n + m) * bytes ≤ 140737488355328) (hbase : base ≤ w.heap.size)
    (h : ∀ g cap w', w'.ownsRow base e size (.slice (some ⟨g, 0, none⟩) (n + m) cap) (n + m) (xs ++ news) → Below base w w' → Keeps w w' v (.slice (some ⟨g, 0, none⟩) (n + m) cap) → K (a.put o.dst (.slice (some ⟨g, 0, none⟩) (n + m) cap)) w') :
    if Region.wanted o (yielded ops a.tmps) = true then Oper.wp P o a (w.alloc (.cells news.toArray e)) K Q else E := by
  have hw : Region.wanted o (yielded ops a.tmps) = true := by simp [Region.wanted, hgd]
  rw [if_pos hw]
  obtain ⟨g, cap, w', hr, h2, h3, h4⟩ := run_append_into (P := P) w base t o.type e i z size bytes ht hi hz hsize hby hzs hsz v n xs hown m c news hl hm h1 h63 hbytes hbase
  unfold Oper.wp execOp
  simp only [ho, resolve, invoke, builtin, Sem.run_bind, Sem.run_pure, Result.andThen_ok, List.map_toArray, List.map_cons, List.map_nil, hs, hx, hr]
  exact h g cap w' h2 h3 h4

/-- A row of zeros that is filled from the left. -/
theorem fill_step {Y : List Value} {z : Value} {k len : Nat} (h : Y.length = len) (hk : k < len) : (Y.take k ++ List.replicate (len - k) z).set k (Y[k]'(by omega)) = Y.take (k + 1) ++ List.replicate (len - (k + 1)) z := by
  apply List.ext_getElem?
  intro j
  have e : (Y.take k).length = k := by simp; omega
  rw [List.getElem?_set, List.getElem?_append, List.getElem?_append]
  simp only [e, List.length_append, List.length_replicate, List.length_take, List.getElem?_take, List.getElem?_replicate]
  by_cases h1 : k = j
  · subst h1
    simp [show k < k + 1 by omega, show k + (len - k) > k by omega, h, hk]
    intro h3; omega
  · by_cases h2 : j < k
    · simp [h1, h2, show j < k + 1 by omega, h]
      intro h3; omega
    · simp [h1, h2, show ¬ j < k + 1 by omega, h, show min (k + 1) len = k + 1 by omega]
      by_cases h3 : j < len
      · simp [show j - k < len - k by omega, show j - (k + 1) < len - (k + 1) by omega]
      · simp [show ¬ j - k < len - k by omega, show ¬ j - (k + 1) < len - (k + 1) by omega]

theorem fill_cell {Y : List Value} {z : Value} {k len : Nat} (h : Y.length = len) (hk : k < len) : (Y.take k ++ List.replicate (len - k) z)[k]? = some z := by
  have e : (Y.take k).length = k := by simp; omega
  rw [List.getElem?_append_right (by omega), e]
  simp [show 0 < len - k by omega]

end Go.Proofs.Qxb6000140a
