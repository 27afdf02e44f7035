/-
  The law on keep: its state.
-/
import Derived.Test.Qxb6000140aKL
namespace Go.Proofs.Qxb6000140a
open Go.RowKit

theorem Try.info9 : (Try.prog.info? 9).map (fun i => (i.zero, i.size, i.bytes)) = some (some (.string ByteArray.empty), 1, 16) := by kernel_rfl
theorem Try.info52 : (Try.prog.info? 52).map (fun i => (i.zero, i.size, i.bytes)) = some (some (.slice none 0 0), 1, 24) := by kernel_rfl
theorem Try.info55 : (Try.prog.info? 55).map (fun i => (i.zero, i.size, i.bytes)) = some (some (.slice none 0 0), 1, 24) := by kernel_rfl
theorem Try.info54 : (Try.prog.info? 54).map (fun i => (i.zero, i.size, i.bytes)) = some (some (.agg #[.int .i64 0, .int .i64 0]), 2, 16) := by kernel_rfl
theorem Try.info57 : (Try.prog.info? 57).map (fun i => (i.zero, i.size, i.bytes)) = some (some (.agg #[.int .i64 0, .int .i64 0]), 2, 16) := by kernel_rfl

theorem addName_mem (N : List ByteArray) (s : ByteArray) : s ∈ addName N s := by
  unfold addName; split
  · assumption
  · simp
theorem addName_sub {N : List ByteArray} {s t : ByteArray} (h : t ∈ N) : t ∈ addName N s := by
  unfold addName; split
  · exact h
  · simp [h]
theorem addName_nodup {N : List ByteArray} (h : N.Nodup) (s : ByteArray) : (addName N s).Nodup := by
  unfold addName; split
  · exact h
  · rename_i hs
    rw [List.nodup_append]
    exact ⟨h, by simp, fun a ha b hb => by simp at hb; subst hb; exact fun e => hs (e ▸ ha)⟩
theorem foldl_nodup : ∀ (l N : List ByteArray), N.Nodup → (l.foldl addName N).Nodup
  | [], _, h => h
  | s :: l, _, h => foldl_nodup l _ (addName_nodup h s)
theorem foldl_sub : ∀ (l N : List ByteArray) (t : ByteArray), t ∈ N → t ∈ l.foldl addName N
  | [], _, _, h => h
  | _ :: l, _, t, h => foldl_sub l _ t (addName_sub h)
theorem foldl_mem : ∀ (l N : List ByteArray) (t : ByteArray), t ∈ l → t ∈ l.foldl addName N
  | s :: l, N, t, h => by
    rcases List.mem_cons.1 h with rfl | h
    · exact foldl_sub l _ _ (addName_mem N _)
    · exact foldl_mem l _ t h
theorem firsts_nodup (l : List ByteArray) : (firsts l).Nodup := foldl_nodup l [] List.nodup_nil
theorem firsts_mem {l : List ByteArray} {t : ByteArray} (h : t ∈ l) : t ∈ firsts l := foldl_mem l [] t h

/-- The law's books over the flat list K of runs and the wanted rows G; the block qb holds the part that is read. -/
def LQ (base im qb : Nat) (cs : Array Value) (nv sv wv : Value) (K : List Key) (G : List Rf) (w : World) : Prop :=
  ∃ role svs wvs, LawIs w base role im nv sv svs wv wvs (firsts (K.map fun k => k.nm)) (firsts (K.map fun k => k.nm)) (firsts (K.map fun k => k.nm)) (firsts (K.map fun k => k.nm)) K G ∧ (∀ g ∈ G, g.nm ∈ firsts (K.map fun k => k.nm)) ∧ role qb = 0 ∧ Box w qb cs 48

def LS (base im : Nat) (nv sv wv : Value) (K : List Key) (G : List Rf) (w : World) : Prop :=
  ∃ role svs wvs, LawIs w base role im nv sv svs wv wvs (firsts (K.map fun k => k.nm)) (firsts (K.map fun k => k.nm)) (firsts (K.map fun k => k.nm)) (firsts (K.map fun k => k.nm)) K G ∧ (∀ g ∈ G, g.nm ∈ firsts (K.map fun k => k.nm))

theorem LQ.ls {base im qb : Nat} {cs : Array Value} {nv sv wv : Value} {K : List Key} {G : List Rf} {w : World} (h : LQ base im qb cs nv sv wv K G w) : LS base im nv sv wv K G w := by
  obtain ⟨role, svs, wvs, h1, h2, _⟩ := h
  exact ⟨role, svs, wvs, h1, h2⟩

/-- The part that is read is laid in a new block. -/
theorem LS.lq {base im : Nat} {cs : Array Value} {nv sv wv : Value} {K : List Key} {G : List Rf} {w : World} (h : LS base im nv sv wv K G w) : LQ base im w.heap.size cs nv sv wv K G (w.alloc (.cells cs 48)) := by
  obtain ⟨role, svs, wvs, h1, h2⟩ := h
  exact ⟨_, svs, wvs, h1.norm.later ((Below.refl _ _).alloc (Nat.le_refl _) _), h2, by simp [roleUp], box_new _ _ _⟩

theorem LQ.drewN {base im qb : Nat} {cs : Array Value} {nv sv wv : Value} {K : List Key} {G : List Rf} {w : World} (h : LQ base im qb cs nv sv wv K G w) (n : Nat) : LQ base im qb cs nv sv wv K G (w.drewN n) := by
  obtain ⟨role, svs, wvs, h1, h2, h3, h4⟩ := h
  exact ⟨role, svs, wvs, h1.frame (fun _ _ => rfl) (fun _ _ => rfl), h2, h3, h4⟩

theorem LQ.box {base im qb : Nat} {cs : Array Value} {nv sv wv : Value} {K : List Key} {G : List Rf} {w : World} (h : LQ base im qb cs nv sv wv K G w) : Box w qb cs 48 := by
  obtain ⟨role, svs, wvs, h1, h2, h3, h4⟩ := h
  exact h4

/-- How the three slices look. -/
theorem own_shape {w : World} {base : Nat} {e : TypeId} {size n : Nat} {v : Value} {xs : List Value} (h : w.ownsRow base e size v n xs) : ∃ a c, v = .slice a n c ∧ (0 < n → ∃ g, a = some ⟨g, 0, none⟩) := by
  rcases h.2 with ⟨e, hn⟩ | ⟨g, cap, cur, e, _⟩
  · exact ⟨none, 0, by rw [e, hn], fun h0 => by omega⟩
  · exact ⟨_, cap, e, fun _ => ⟨g, rfl⟩⟩

end Go.Proofs.Qxb6000140a
