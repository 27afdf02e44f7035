/-
  A map keyed by strings, as the list of its entries; new keys alone are stored. It speaks of no program.
-/
import Derived.WalkKit
import Derived.MapKept
import Derived.Maps.OwnOps
import Derived.Maps.OwnSet
namespace Go.Proofs.Qxb6000140a
open Go.RowKit Go.ChangeMaps

/-- Block b is a map that holds these entries (in the order in which they came). -/
def MapIs (w : World) (b : Nat) (l : List (ByteArray × Value)) : Prop :=
  ∃ es clock, w.heap[b]? = some (.map es clock) ∧ es.toList.map (fun e => (e.key, e.val)) = l.map (fun p => (Value.string p.1, p.2))

def lk (l : List (ByteArray × Value)) (s : ByteArray) : Option Value := (l.find? (fun p => decide (p.1 = s))).map (·.2)

theorem findNow_lk (s : ByteArray) : ∀ (es : List MapEntry) (l : List (ByteArray × Value)) (i : Nat), es.map (fun e => (e.key, e.val)) = l.map (fun p => (Value.string p.1, p.2)) →
    (lk l s = none ∧ Instr.findNow .string (.string s) es i = some none) ∨ ∃ j v, lk l s = some v ∧ Instr.findNow .string (.string s) es i = some (some (j, v))
  | [], [], _, _ => .inl ⟨rfl, rfl⟩
  | [], _ :: _, _, h => by simp at h
  | _ :: _, [], _, h => by simp at h
  | e :: es, p :: l, i, h => by
    simp only [List.map_cons, List.cons.injEq, Prod.mk.injEq] at h
    obtain ⟨⟨hk, hv⟩, ht⟩ := h
    by_cases he : p.1 = s
    · refine .inr ⟨i, p.2, by simp [lk, he], ?_⟩
      have hs := (MapKept.bytes_beq s s).2 rfl
      simp [Instr.findNow, hk, Instr.sameNow, he, hv, hs]
    · have hne : ¬ s = p.1 := fun q => he q.symm
      have e1 : lk (p :: l) s = lk l s := by simp [lk, he]
      have e2 : Instr.findNow .string (.string s) (e :: es) i = Instr.findNow .string (.string s) es (i + 1) := by
        have hb : (s == p.1) = false := by
          cases q : (s == p.1) with
          | false => rfl
          | true => exact absurd ((MapKept.bytes_beq _ _).1 q) hne
        simp [Instr.findNow, hk, Instr.sameNow, hb]
      rw [e1, e2]
      exact findNow_lk s es l (i + 1) ht

variable {P : Program} {w : World} {b : Nat} {l : List (ByteArray × Value)}

theorem MapIs.lt (h : MapIs w b l) : b < w.heap.size := by
  obtain ⟨es, clock, hb, _⟩ := h
  exact (Array.getElem?_eq_some_iff.1 hb).1

theorem MapIs.of_heap {w' : World} (h : MapIs w b l) (he : w'.heap[b]? = w.heap[b]?) : MapIs w' b l := by
  obtain ⟨es, clock, hb, hl⟩ := h
  exact ⟨es, clock, he.trans hb, hl⟩

theorem MapIs.later {w' : World} (h : MapIs w b l) (hb : Below w.heap.size w w') : MapIs w' b l := h.of_heap (hb.block b h.lt)

theorem mapIs_made (w : World) : MapIs (w.alloc (.map #[] 0)) w.heap.size [] := ⟨#[], 0, (MapKept.heap_alloc w _).1, rfl⟩

theorem MapIs.lookup {t k e : TypeId} (h : MapIs w b l) (ht : P.underlying t = some (.map k e)) (hk : P.underlying k = some .string) {z : Value} (hz : (zeroValue e).run P w = .ok z w) (s : ByteArray) (c : Bool) :
    (Instr.lookup t (.map (some b)) (.string s) c).run P w = .ok (if c then .tuple #[(lk l s).getD z, .bool (lk l s).isSome] else (lk l s).getD z) w := by
  obtain ⟨es, clock, hb, hl⟩ := h
  have hck : ∀ x : Bool, (Instr.checkKey x 10000 k (.string s)).run P w = .ok () w := fun x => MapKept.run_checkKey hk (by simp [MapKept.IsKey]) x 9999
  rcases findNow_lk s es.toList l 0 hl with ⟨h1, h2⟩ | ⟨j, v, h1, h2⟩
  · have hf := MapKept.run_findKey (P := P) (w := w) hk h2
    simp [Instr.lookup, run_underlying ht, MapKept.run_getObj_map hb, hck, hf, hz, h1, Result.andThen]
  · have hf := MapKept.run_findKey (P := P) (w := w) hk h2
    simp [Instr.lookup, run_underlying ht, MapKept.run_getObj_map hb, hck, hf, h1, Result.andThen]

theorem MapIs.update {t k e : TypeId} (h : MapIs w b l) (ht : P.underlying t = some (.map k e)) (hk : P.underlying k = some .string) (s : ByteArray) (v : Value) (hs : lk l s = none) :
    ∃ w', (Instr.mapUpdate t (.map (some b)) (.string s) v).run P w = .ok () w' ∧ MapIs w' b (l ++ [(s, v)]) ∧ w.grownBy w' (some b) ∧ w'.heap.size = w.heap.size := by
  obtain ⟨es, clock, hb, hl⟩ := h
  have hck : ∀ x : Bool, (Instr.checkKey x 10000 k (.string s)).run P w = .ok () w := fun x => MapKept.run_checkKey hk (by simp [MapKept.IsKey]) x 9999
  rcases findNow_lk s es.toList l 0 hl with ⟨_, h2⟩ | ⟨j, u, h1, _⟩
  · have hf := MapKept.run_findKey (P := P) (w := w) hk h2
    refine ⟨setBlock w b (.map (es.push ⟨.string s, v, clock⟩) (clock + 1)), ?_, ⟨_, _, heap_setBlock_same hb _, ?_⟩, ⟨rfl, rfl, rfl, by simp [setBlock], fun i _ hi => heap_setBlock_other hb _ (fun e => hi (by rw [e]))⟩, by simp [setBlock]⟩
    · simp [Instr.mapUpdate, run_underlying ht, MapKept.run_getObj_map hb, hck, hf, MapKept.run_setObj_map _ hb, Result.andThen, setBlock]
    · simp [hl]
  · rw [hs] at h1; cases h1

theorem MapIs.len {t k e : TypeId} (h : MapIs w b l) (ht : P.underlying t = some (.map k e)) (ty : TypeId) : (Builtin.len_ #[t] ty #[.map (some b)]).run P w = .ok (.int .i64 l.length) w := by
  obtain ⟨es, clock, hb, hl⟩ := h
  have e1 : es.size = l.length := by have := congrArg List.length hl; simpa using this
  simp [Builtin.len_, run_underlying ht, MapKept.run_getObj_map hb, goInt, Result.andThen, e1]

theorem wpList_mapUpdate_new {P : Program} (w : World) {ops : Array Oper} {rest : List Oper} {o : Oper} {a : Act} {Q : Exit → Act → World → Prop}
    (hg : o.guard = none) (m x v : Operand) (t : TypeId) (hop : o.op = Op.mapUpdate t m x v)
    (k e : TypeId) (ht : P.underlying t = some (.map k e)) (hk : P.underlying k = some .string) (b : Nat) (l : List (ByteArray × Value))
    (hm : a.eval m = .map (some b)) (hown : MapIs w b l) (s : ByteArray) (val : Value) (hx : a.eval x = .string s) (hv : a.eval v = val) (hs : lk l s = none)
    (hK : ∀ w', MapIs w' b (l ++ [(s, val)]) → w.grownBy w' (some b) → w'.heap.size = w.heap.size → wpList P ops Q rest (a.put o.dst undef) w') :
    wpList P ops Q (o :: rest) a w := by
  refine wpList_plain hg fun K' hK' => ?_
  obtain ⟨w', hrun, r1, r2, r3⟩ := hown.update (P := P) ht hk s val hs
  unfold Oper.wp
  simp [execOp, hop, hm, hx, hv, hrun, Result.andThen]
  exact hK' _ _ (hK w' r1 r2 r3)

theorem wpList_lookup_str {P : Program} (w : World) {ops : Array Oper} {rest : List Oper} {o : Oper} {a : Act} {Q : Exit → Act → World → Prop}
    (hg : o.guard = none) (m x : Operand) (t : TypeId) (c : Bool) (hop : o.op = Op.lookup t m x c)
    (k e : TypeId) (ht : P.underlying t = some (.map k e)) (hk : P.underlying k = some .string) (b : Nat) (l : List (ByteArray × Value))
    (hm : a.eval m = .map (some b)) (hown : MapIs w b l) (z : Value) (hz : (zeroValue e).run P w = .ok z w) (s : ByteArray) (hx : a.eval x = .string s)
    (hK : wpList P ops Q rest (a.put o.dst (if c then .tuple #[(lk l s).getD z, .bool (lk l s).isSome] else (lk l s).getD z)) w) :
    wpList P ops Q (o :: rest) a w := by
  refine wpList_plain hg fun K' hK' => ?_
  unfold Oper.wp
  simp [execOp, hop, hm, hx, hown.lookup ht hk hz, Result.andThen]
  exact hK' _ _ (by simpa using hK)

end Go.Proofs.Qxb6000140a
