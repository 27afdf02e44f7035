/-
  ZZNewWork, ZZNewPart, ZZPartSetRow, ZZPartSetRate, ZZPartAddRun.
-/
import Derived.Test.Qxb6000140aKC
import Derived.Test.Qxb6000140aKD
import Derived.Test.Qxb6000140aQt
import Derived.Test.Qxb6000140aFl
namespace Go.Proofs.Qxb6000140a
open Go.RowKit

theorem Try.info85 : (Try.prog.info? 85).map (fun i => (i.zero, i.size, i.bytes)) = some (some (.slice none 0 0), 1, 24) := by kernel_rfl
theorem Try.info91 : (Try.prog.info? 91).map (fun i => (i.zero, i.size, i.bytes)) = some (some (.agg #[.int .i32 0, .int .u32 0, .int .i64 0]), 3, 16) := by kernel_rfl
theorem Try.info31 : (Try.prog.info? 31).map (fun i => (i.zero, i.size, i.bytes)) = some (some (.int .i64 0), 1, 8) := by kernel_rfl
theorem Try.info89 : (Try.prog.info? 89).map (fun i => (i.zero, i.size, i.bytes)) = some (some (.agg #[.slice none 0 0, .slice none 0 0]), 2, 48) := by kernel_rfl
theorem Try.info97 : (Try.prog.info? 97).map (fun i => (i.zero, i.size, i.bytes)) = some (some (.agg #[.string ByteArray.empty, .int .i64 0, .bool false, .int .i64 0]), 4, 40) := by kernel_rfl

/-- A block of the call's own that holds these cells. -/
def Box (w : World) (b : Nat) (cs : Array Value) (t : TypeId) : Prop := w.heap[b]? = some (.cells cs t (0, 0))
theorem Box.cell {w : World} {b : Nat} {cs : Array Value} {t : TypeId} (h : Box w b cs t) (i : Nat) : w.cell? ⟨b, i, none⟩ = cs[i]? := cell_of_row _ _ _ _ _ _ h
theorem Box.frozen {w : World} {b : Nat} {cs : Array Value} {t : TypeId} (h : Box w b cs t) (i : Nat) : w.frozen? ⟨b, i, none⟩ = false := by
  unfold Box at h
  simp [World.frozen?, h]
theorem Box.lt {w : World} {b : Nat} {cs : Array Value} {t : TypeId} (h : Box w b cs t) : b < w.heap.size := (Array.getElem?_eq_some_iff.1 h).1
theorem Box.of_heap {w w' : World} {b : Nat} {cs : Array Value} {t : TypeId} (h : Box w b cs t) (e : w'.heap[b]? = w.heap[b]?) : Box w' b cs t := e.trans h
theorem Box.later {w w' : World} {b : Nat} {cs : Array Value} {t : TypeId} (h : Box w b cs t) (hb : Below w.heap.size w w') : Box w' b cs t := h.of_heap (hb.block b h.lt)
theorem Box.set {w : World} {b : Nat} {cs : Array Value} {t : TypeId} (h : Box w b cs t) (i : Nat) (u : Value) : Box (w.setCell ⟨b, i, none⟩ u) b (cs.setIfInBounds i u) t := by
  have hl := h.lt
  unfold Box at *
  simp [World.setCell, Array.getElem?_modify, h]
theorem box_new (w : World) (cs : Array Value) (t : TypeId) : Box (w.alloc (.cells cs t)) w.heap.size cs t := heap_alloc_new w _
theorem grown_setCell (w : World) (b i : Nat) (u : Value) : w.grownBy (w.setCell ⟨b, i, none⟩ u) (some b) :=
  ⟨rfl, rfl, rfl, by simp [World.setCell], fun k _ hk => Below.heap_setCell w _ u k (fun e => hk (by rw [e]))⟩

/-! ZZNewWork -/
theorem newWork_any (w : World) : Calls Try.prog 34 #[] w fun e w' => e = .returned (.pointer (some ⟨w.heap.size + 1, 0, none⟩)) ∧ w' = (w.alloc (.map #[] 0)).alloc (.cells #[.string ByteArray.empty, .bool false, .map (some w.heap.size), .slice none 0 0] 84) := by
  have hmm := @run_makeMap Try.prog
  go_enter Try.func34, Try.ntmps34
  go_wp2
  go_ret
  exact ⟨rfl, rfl⟩

/-! ZZPartSetRow, ZZPartSetRate -/
def SetPost (w : World) (B rb : Nat) (e : TypeId) (size n : Nat) (R : List Value) (x : Ending) (w' : World) : Prop :=
  x = .returned (.tuple #[]) ∧ w'.ownsRow B e size (.slice (some ⟨rb, 0, none⟩) n n) n R ∧ w.grownBy w' (some rb)

theorem grownBy_trans {w w1 w2 : World} {r : Option Nat} (h : w.grownBy w1 r) (h' : w1.grownBy w2 r) : w.grownBy w2 r := h.trans h'

set_option maxHeartbeats 1000000 in
theorem setRow_any (pp rb rn B : Nat) (tv uv : Value) (R : List Value) (i : Nat) (mo li ho : Int) (w : World) (hb : Box w pp #[.pointer none, .slice (some ⟨rb, 0, none⟩) rn rn, tv, uv] 95)
    (ho' : w.ownsRow B 91 3 (.slice (some ⟨rb, 0, none⟩) rn rn) rn R) (hi : i < rn) :
    Calls Try.prog 36 #[.pointer (some ⟨pp, 0, none⟩), .int .i64 (i : Int), .int .i32 mo, .int .u32 li, .int .i64 ho] w (SetPost w B rb 91 3 rn (((R.set (i * 3) (.int .i32 mo)).set (i * 3 + 1) (.int .u32 li)).set (i * 3 + 2) (.int .i64 ho))) := by
  have c1 : w.cell? ⟨pp, 1, none⟩ = some (.slice (some ⟨rb, 0, none⟩) rn rn) := by rw [hb.cell]; rfl
  have hcl : R.length = rn * 3 := ho'.1
  have f0 := ho'.frozenAt (i * 3)
  have f1 := ho'.frozenAt (i * 3 + 1)
  have f2 := ho'.frozenAt (i * 3 + 2)
  obtain ⟨x0, g0⟩ : ∃ x, w.cell? ⟨rb, i * 3, none⟩ = some x := ⟨R[i * 3]'(by omega), by rw [ho'.cellAt (i * 3) (by omega)]; simp⟩
  obtain ⟨x1, g1⟩ : ∃ x, w.cell? ⟨rb, i * 3 + 1, none⟩ = some x := ⟨R[i * 3 + 1]'(by omega), by rw [ho'.cellAt (i * 3 + 1) (by omega)]; simp⟩
  obtain ⟨x2, g2⟩ : ∃ x, w.cell? ⟨rb, i * 3 + 2, none⟩ = some x := ⟨R[i * 3 + 2]'(by omega), by rw [ho'.cellAt (i * 3 + 2) (by omega)]; simp⟩
  have HO := hid ho'
  clear hb ho' hcl
  have hii : (i : Int) < (rn : Int) := by omega
  go_enter Try.func36, Try.ntmps36
  go_wp2
  go_end0
  refine ⟨rfl, ?_, ?_⟩
  · exact (((HO.out.stored (i * 3) _).1.stored (i * 3 + 1) _).1.stored (i * 3 + 2) _).1
  · exact ((grown_setCell _ _ _ _).trans (grown_setCell _ _ _ _)).trans (grown_setCell _ _ _ _)

set_option maxHeartbeats 1000000 in
theorem setRate_any (pp tb rn B : Nat) (rv uv : Value) (R : List Value) (i : Nat) (x : Int) (w : World) (hb : Box w pp #[.pointer none, rv, .slice (some ⟨tb, 0, none⟩) rn rn, uv] 95)
    (ho' : w.ownsRow B 31 1 (.slice (some ⟨tb, 0, none⟩) rn rn) rn R) (hi : i < rn) :
    Calls Try.prog 37 #[.pointer (some ⟨pp, 0, none⟩), .int .i64 (i : Int), .int .i64 x] w (SetPost w B tb 31 1 rn (R.set i (.int .i64 x))) := by
  have c1 : w.cell? ⟨pp, 2, none⟩ = some (.slice (some ⟨tb, 0, none⟩) rn rn) := by rw [hb.cell]; rfl
  have hcl : R.length = rn * 1 := ho'.1
  have f0 := ho'.frozenAt i
  obtain ⟨x0, g0⟩ : ∃ x, w.cell? ⟨tb, i, none⟩ = some x := ⟨R[i]'(by omega), by rw [ho'.cellAt i (by omega)]; simp⟩
  have HO := hid ho'
  clear hb ho' hcl
  have hii : (i : Int) < (rn : Int) := by omega
  go_enter Try.func37, Try.ntmps37
  go_wp2
  go_end0
  exact ⟨rfl, (HO.out.stored i _).1, grown_setCell _ _ _ _⟩

/-! ZZPartAddRun -/
def K4.vs (q : K4) : List Value := [.string q.mem, .int .i64 q.born, .bool q.lst, .int .i64 q.en]
def k4cs (l : List K4) : List Value := l.flatMap K4.vs
theorem k4cs_snoc (l : List K4) (q : K4) : k4cs (l ++ [q]) = k4cs l ++ q.vs := by simp [k4cs]
theorem k4cs_len (l : List K4) : (k4cs l).length = l.length * 4 := by
  induction l with
  | nil => rfl
  | cons p l ih => simp [k4cs, K4.vs] at ih ⊢; omega

/-- A run more. -/
def AddPost (w : World) (B pp : Nat) (rv tv uv : Value) (U : List K4) (q : K4) (x : Ending) (w' : World) : Prop :=
  x = .returned (.tuple #[]) ∧ ∃ uv', Box w' pp #[.pointer none, rv, tv, uv'] 95 ∧ w'.ownsRow B 97 4 uv' (U.length + 1) (k4cs (U ++ [q])) ∧ Below B w w' ∧ (∀ k, k < w.heap.size → k ≠ pp → uv.ownBlock ≠ some k → w'.heap[k]? = w.heap[k]?) ∧ ∀ k, uv'.ownBlock = some k → uv.ownBlock = some k ∨ w.heap.size ≤ k

set_option maxHeartbeats 1000000 in
theorem addRun_any (pp B : Nat) (rv tv uv : Value) (U : List K4) (q : K4) (w : World) (hb : Box w pp #[.pointer none, rv, tv, uv] 95)
    (ho' : w.ownsRow B 97 4 uv U.length (k4cs U)) (hU : U.length ≤ 32768) (hB : B ≤ pp) (hne : uv.ownBlock ≠ some pp) :
    Calls Try.prog 38 #[.pointer (some ⟨pp, 0, none⟩), .string q.mem, .int .i64 q.born, .bool q.lst, .int .i64 q.en] w (AddPost w B pp rv tv uv U q) := by
  obtain ⟨i0, hi, hz0, hz1, hz2⟩ := info_parts Try.info97
  have hpl := hb.lt
  have c3 : w.cell? ⟨pp, 3, none⟩ = some uv := by rw [hb.cell]; rfl
  have HB := hid hb
  have HU := hid hU
  clear hU hb
  go_enter Try.func38, Try.ntmps38
  go_wp2_with (at_builtin; refine wpList_append_keeps w rfl _ _ 93 rfl B 97 i0 _ 4 40 Try.underlying93 hi hz0 hz1 hz2 rfl (by decide) uv U.length (k4cs U) rfl (.inl ho') 1 1 [.string q.mem, .int .i64 q.born, .bool q.lst, .int .i64 q.en] (by simp [Act.eval]) rfl (by decide) (by simp [Value.oneCell']) (by have := HU.out; unfold maxLen; omega) (by have := HU.out; omega) (by omega) ?_; intro g cap w' hown hbel hkeep; have k3 : w'.heap[pp]? = w.heap[pp]? := hkeep.1 pp hpl hne; have c3' : w'.cell? ⟨pp, 3, none⟩ = some uv := (World.cell?_of_block (w := w) (a := ⟨pp, 3, none⟩) k3).trans c3; have fz : w'.frozen? ⟨pp, 3, none⟩ = false := (HB.out.of_heap k3).frozen 3)
  go_end0
  refine ⟨rfl, _, ((HB.out.of_heap k3).set 3 _), ?_, hbel.setCell hB _, fun k hk hkp hku => ?_, fun k hk => ?_⟩
  · rw [k4cs_snoc]
    exact ownsRow_setCell_other hown (fun e => hne (hkeep.2 pp e hpl)) _
  · rw [Below.heap_setCell _ _ _ _ hkp]
    exact hkeep.1 k hk hku
  · by_cases hlt : k < w.heap.size
    · exact .inl (hkeep.2 k hk hlt)
    · exact .inr (by omega)

/-! ZZNewPart -/
def NpPost (w : World) (n : Nat) (r : Bool) (x : Ending) (w' : World) : Prop :=
  ∃ pp tv R, x = .returned (.pointer (some ⟨pp, 0, none⟩)) ∧ w.heap.size < pp ∧ Box w' pp #[.pointer none, .slice (some ⟨w.heap.size, 0, none⟩) n n, tv, .slice none 0 0] 95 ∧
    w'.ownsRow w.heap.size 91 3 (.slice (some ⟨w.heap.size, 0, none⟩) n n) n R ∧ Below w.heap.size w w' ∧
    ((r = false ∧ tv = .slice none 0 0) ∨ (r = true ∧ ∃ tb T, tv = .slice (some ⟨tb, 0, none⟩) n n ∧ pp < tb ∧ w'.ownsRow w.heap.size 31 1 tv n T))

set_option maxHeartbeats 1000000 in
theorem newPart_any (n : Nat) (r : Bool) (w : World) (hn : n ≤ 65536) : Calls Try.prog 35 #[.int .i64 (n : Int), .bool r] w (NpPost w n r) := by
  obtain ⟨i0, hi, hz0, hz1, hz2⟩ := info_parts Try.info91
  obtain ⟨i1, hi', hz0', hz1', hz2'⟩ := info_parts Try.info31
  cases r with
  | false =>
    go_enter Try.func35, Try.ntmps35
    go_wp2_with (at_make; refine wpList_make_full _ rfl _ _ 86 rfl w.heap.size 91 i0 _ 3 Try.underlying86 hi hz0 hz1 .i64 .i64 _ _ n rfl rfl rfl rfl (by rw [hz2]; omega) (by unfold maxLen; omega) (Nat.le_refl _) ?_; intro w1 hown hgrow)
    have hl := (hown.lt _ rfl).2
    have hb1 : Below w.heap.size w w1 := (Below.refl _ _).grown hgrow (Nat.le_refl _) (by simp)
    go_ret
    exact ⟨_, _, _, rfl, hl, box_new _ _ _, hown.alloc _, hb1.alloc hb1.size _, .inl ⟨rfl, rfl⟩⟩
  | true =>
    go_enter Try.func35, Try.ntmps35
    go_wp2_with (first
      | (at_make; refine wpList_make_full _ rfl _ _ 86 rfl w.heap.size 91 i0 _ 3 Try.underlying86 hi hz0 hz1 .i64 .i64 _ _ n rfl rfl rfl rfl (by rw [hz2]; omega) (by unfold maxLen; omega) (Nat.le_refl _) ?_; intro w1 hown hgrow; have hl := (hown.lt _ rfl).2; have hb1 : Below w.heap.size w w1 := (Below.refl _ _).grown hgrow (Nat.le_refl _) (by simp))
      | (at_make; refine wpList_make_full _ rfl _ _ 87 rfl w.heap.size 31 i1 _ 1 Try.underlying87 hi' hz0' hz1' .i64 .i64 _ _ n rfl rfl rfl rfl (by rw [hz2']; omega) (by unfold maxLen; omega) (by simp; have := hb1.size; omega) ?_; intro w2 hown2 hgrow2; have hbx : Box w2 w1.heap.size _ 95 := (box_new w1 _ 95).of_heap (hgrow2.block _ (by simp) (by simp)); have c2 : w2.cell? ⟨w1.heap.size, 2, none⟩ = some (.slice none 0 0) := hbx.cell 2; have fz := hbx.frozen 2))
    go_ret
    have hl2 := (hown2.lt _ rfl).2
    have hb2 : Below w.heap.size w w2 := (hb1.alloc hb1.size _).trans ((Below.refl _ _).grown hgrow2 (by simp; have := hb1.size; omega) (by simp))
    have hs1 : w1.heap.size ≠ w.heap.size := by omega
    have o1 := ownsRow_setCell_other (a := ⟨w1.heap.size, 2, none⟩) ((hown.alloc (.cells #[.pointer none, .slice (some ⟨w.heap.size, 0, none⟩) n n, .slice none 0 0, .slice none 0 0] 95)).kept hgrow2 (Classical.em _)) (by simp [Value.ownBlock]; omega) (.slice (some ⟨w1.heap.size + 1, 0, none⟩) n n)
    have o2 := ownsRow_setCell_other (a := ⟨w1.heap.size, 2, none⟩) hown2 (by simp [Value.ownBlock]) (.slice (some ⟨w1.heap.size + 1, 0, none⟩) n n)
    exact ⟨_, _, _, rfl, hl, hbx.set 2 _, o1, hb2.setCell (by have := hb1.size; exact this) _, .inr ⟨rfl, _, _, rfl, by simp, by simpa using o2⟩⟩

end Go.Proofs.Qxb6000140a
