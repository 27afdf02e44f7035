/-
  A region that draws its order: its first m operations only read and yield the same in every world of a class C; those from m to n may write but keep to the class, and stand in the order of the text once the first m are done (the first may be drawn after them); the rest is forced. One walk in the order of the text serves every order. It speaks of no program.
-/
import Derived.StillTail
import Derived.Deep.QuietTactic
import Derived.BigQuiet
import Derived.WalkSpells
namespace Go.Proofs.Qxb6000140a
open Go.RowKit

section
variable {P : Program} {ops : Array Oper} {md : Region.Mode} {C : World → Prop}

def loudUpon (o : Oper) (a : Act) (next : Act → World → Prop) : Result Next → Prop
  | .ok (.value v) w' => next (a.put o.dst v) w'
  | .ok .skip w' => next (a.put o.dst undef) w'
  | _ => False

def loud (P : Program) (o : Oper) (a : Act) (w : World) (next : Act → World → Prop) : Prop := loudUpon o a next ((execOp a.eval o).run P w)

def lOp (P : Program) (ops : Array Oper) (i : Nat) (K : Act → World → Prop) (a : Act) (w : World) : Prop :=
  match ops[i]? with
  | none => K a w
  | some o => if Region.wanted o (yielded ops a.tmps) then loud P o a w K else K (a.put o.dst undef) w

def pureUpon (w : World) (v : Value) : Result Next → Prop
  | .ok (.value u) w' => w' = w ∧ u = v
  | .ok .skip w' => w' = w ∧ v = undef
  | _ => False

def pureIn (P : Program) (o : Oper) (a : Act) (C : World → Prop) (next : Act → Prop) : Prop := ∃ v, (∀ w, C w → pureUpon w v ((execOp a.eval o).run P w)) ∧ next (a.put o.dst v)

def PYields (P : Program) (ops : Array Oper) (C : World → Prop) (o : Oper) (v : Value) (a : Act) : Prop :=
  (Region.wanted o (yielded ops a.tmps) = true ∧ ∀ w, C w → pureUpon w v ((execOp a.eval o).run P w)) ∨ (Region.wanted o (yielded ops a.tmps) = false ∧ v = undef)

def wpPure (P : Program) (ops : Array Oper) (C : World → Prop) (Q : Act → Prop) : List Oper → Act → Prop
  | [], a => Q a
  | o :: rest, a => if Region.wanted o (yielded ops a.tmps) then pureIn P o a C (wpPure P ops C Q rest) else wpPure P ops C Q rest (a.put o.dst undef)

def wpMid (P : Program) (ops : Array Oper) (C : World → Prop) (L : Act → World → Prop) : List Oper → Act → World → Prop
  | [], a, w => C w ∧ L a w
  | o :: rest, a, w => C w ∧ if Region.wanted o (yielded ops a.tmps) then loud P o a w (wpMid P ops C L rest) else wpMid P ops C L rest (a.put o.dst undef) w

def wpAnyM (P : Program) (md : Region.Mode) (ops : Array Oper) (C : World → Prop) (n : Nat) (L : Array Bool → Act → World → Prop) : Nat → Array Bool → Act → World → Prop
  | 0, listed, a, w => C w ∧ L listed a w
  | f + 1, listed, a, w => C w ∧ Region.ready md ops listed ≠ [] ∧ ∀ i ∈ Region.ready md ops listed, i < n ∧ lOp P ops i (wpAnyM P md ops C n L f (listed.setIfInBounds i true)) a w

theorem wpAnyM_cls {n : Nat} {L : Array Bool → Act → World → Prop} : ∀ {f : Nat} {listed : Array Bool} {a : Act} {w : World}, wpAnyM P md ops C n L f listed a w → C w
  | 0, _, _, _, h => h.1
  | _ + 1, _, _, _, h => h.1

theorem wp_of_loud {o : Oper} {a : Act} {w : World} {K K' : Act → World → Prop} {Q : Exit → Act → World → Prop} (h : ∀ a w, K a w → K' a w) (hh : loud P o a w K) : o.wp P a w K' Q := by
  unfold loud at hh
  unfold Oper.wp
  generalize (execOp a.eval o).run P w = r at *
  cases r with
  | ok n w' =>
    cases n <;> simp only [loudUpon] at hh <;> simp only [Oper.upon] <;> exact h _ _ hh
  | halt x w' => simp only [loudUpon] at hh

theorem loud_mono {o : Oper} {a : Act} {w : World} {K K' : Act → World → Prop} (h : ∀ a w, K a w → K' a w) (hh : loud P o a w K) : loud P o a w K' := by
  unfold loud at *
  generalize (execOp a.eval o).run P w = r at *
  cases r with
  | ok n w' =>
    cases n <;> simp only [loudUpon] at hh ⊢ <;> exact h _ _ hh
  | halt x w' => simp only [loudUpon] at hh

theorem lOp_mono {i : Nat} {a : Act} {w : World} {K K' : Act → World → Prop} (h : ∀ a w, K a w → K' a w) (hh : lOp P ops i K a w) : lOp P ops i K' a w := by
  unfold lOp at *
  split
  · exact h _ _ (by simpa [*] using hh)
  · rename_i o ho
    simp only [ho] at hh
    split
    · rename_i hw; simp only [hw, if_true] at hh; exact loud_mono h hh
    · rename_i hw; simp only [hw] at hh; exact h _ _ hh

theorem wpOp_of_lOp {i : Nat} {a : Act} {w : World} {K K' : Act → World → Prop} {Q : Exit → Act → World → Prop} (h : ∀ a w, K a w → K' a w) (hh : lOp P ops i K a w) : wpOp P ops Q i K' a w := by
  unfold lOp at hh
  unfold wpOp
  split
  · rename_i ho; simp only [ho] at hh; exact h _ _ hh
  · rename_i o ho
    simp only [ho] at hh
    split
    · rename_i hw; simp only [hw, if_true] at hh; exact .inl (wp_of_loud h hh)
    · rename_i hw; simp only [hw] at hh; exact h _ _ hh

theorem wpAny_of_headM {n g : Nat} {L : Array Bool → Act → World → Prop} {Q' : Exit → Act → World → Prop} (hL : ∀ listed a w, L listed a w → wpAny P md ops Q' g listed a w) :
    ∀ (f : Nat) (listed : Array Bool) (a : Act) (w : World), wpAnyM P md ops C n L f listed a w → wpAny P md ops Q' (f + g) listed a w
  | 0, listed, a, w, h => by rw [Nat.zero_add]; exact hL _ _ _ h.2
  | f + 1, listed, a, w, h => by
    rw [show f + 1 + g = (f + g) + 1 by omega]
    exact ⟨fun h0 => absurd h0 h.2.1, fun i hi => wpOp_of_lOp (fun a' w' h' => wpAny_of_headM hL f _ a' w' h') (h.2.2 i hi).2⟩

theorem PYields.of_same {o : Oper} {v : Value} {a a' : Act} (hy : PYields P ops C o v a) (he : execOp a'.eval o = execOp a.eval o)
    (hw : Region.wanted o (yielded ops a'.tmps) = Region.wanted o (yielded ops a.tmps)) : PYields P ops C o v a' := by
  unfold PYields at *
  rw [he, hw]
  exact hy

theorem PYields.lOp {i : Nat} {o : Oper} {v : Value} {a : Act} {w : World} (hi : ops[i]? = some o) (hC : C w) (hy : PYields P ops C o v a) {K : Act → World → Prop} (h : K (a.put o.dst v) w) : lOp P ops i K a w := by
  unfold Qxb6000140a.lOp
  simp only [hi]
  rcases hy with ⟨hw, hv⟩ | ⟨hw, rfl⟩
  · simp only [hw, if_true, loud]
    have := hv w hC
    generalize (execOp a.eval o).run P w = r at *
    cases r with
    | ok n w' =>
      cases n <;> simp only [pureUpon] at this <;> simp only [loudUpon]
      · obtain ⟨e1, e2⟩ := this; rw [e1, e2]; exact h
      · obtain ⟨e1, e2⟩ := this; rw [e1, ← e2]; exact h
    | halt x w' => simp only [pureUpon] at this
  · simp only [hw, Bool.false_eq_true, if_false]; exact h

theorem lOp_put {j : Nat} {oi oj : Oper} {v : Value} {w : World} (hj : ops[j]? = some oj) (hap : oi.apart ops oj = true)
    (hsi : ∀ cs b, oi.op ≠ .select cs b) (hsj : ∀ cs b, oj.op ≠ .select cs b) {K : Act → World → Prop} {a : Act}
    (hy : PYields P ops C oi v a) (h : lOp P ops j K (a.put oi.dst v) w) :
    lOp P ops j (fun a' w' => PYields P ops C oi v a' ∧ K (a'.put oi.dst v) w') a w := by
  obtain ⟨h1, h2, h3⟩ := Oper.apart_spec hap
  have keep : ∀ (a : Act), PYields P ops C oi v a → ∀ u, PYields P ops C oi v (a.put oj.dst u) := fun a hy u =>
    hy.of_same (execOp_put oi hsi a oj.dst u h3) (wanted_put oi a oj.dst u h3)
  unfold lOp at *
  simp only [hj] at *
  rw [wanted_put oj a oi.dst v h1] at h
  split
  · rename_i hw
    simp only [hw, if_true] at h
    unfold loud at *
    rw [execOp_put oj hsj a oi.dst v h1] at h
    generalize (execOp a.eval oj).run P w = r at *
    cases r with
    | ok n w' =>
      cases n <;> simp only [loudUpon] at h ⊢
      case value u => exact ⟨keep a hy u, by rw [← Act.put_comm a v u h2]; exact h⟩
      case skip => exact ⟨keep a hy _, by rw [← Act.put_comm a v undef h2]; exact h⟩
    | halt x w' => simp only [loudUpon] at h
  · rename_i hw
    simp only [hw] at h
    exact ⟨keep a hy _, by rw [← Act.put_comm a v undef h2]; exact h⟩

theorem wpAnyM_first {n i : Nat} {oi : Oper} {v : Value} {L : Array Bool → Act → World → Prop} (hi : ops[i]? = some oi) (hsel : ∀ (j : Nat) (o : Oper) cs b, ops[j]? = some o → o.op ≠ .select cs b)
    (hs : Region.sinkB md ops n = true) (hc : Region.chainB md ops n = true) (hn : n < ops.size) (hin : i < n)
    (hdone : ∀ listed a w, L listed a w → ∀ j ∈ Region.ready md ops listed, n ≤ j) :
    ∀ (f : Nat) (listed : Array Bool) (a : Act) (w : World), HeadInv md ops n listed →
      (∀ j oj, ops[j]? = some oj → j ≠ i → listed.getD j true = false → (∀ e ∈ oj.after, Region.binds md e = true → e.on ≠ i) → oi.apart ops oj = true) →
      i ∈ Region.ready md ops listed → PYields P ops C oi v a →
      wpAnyM P md ops C n L f (listed.setIfInBounds i true) (a.put oi.dst v) w → wpAnyM P md ops C n L (f + 1) listed a w := by
  intro f
  induction f with
  | zero =>
    intro listed a w inv _ hr hy H
    have hun := (mem_ready.1 hr).1
    refine ⟨H.1, fun h => (by rw [h] at hr; cases hr), fun j hj => ?_⟩
    have hjn : j < n := by
      rcases Nat.lt_or_ge j n with h | h
      · exact h
      · exact absurd hj (tail_waits hs hc hn inv _ i rfl hin hun j h)
    refine ⟨hjn, ?_⟩
    by_cases hji : j = i
    · subst hji; exact hy.lOp hi H.1 H
    · have := hdone _ _ _ H.2 j (ready_mono hj hji)
      omega
  | succ f ih =>
    intro listed a w inv hfree hr hy H
    have hun := (mem_ready.1 hr).1
    refine ⟨H.1, fun h => (by rw [h] at hr; cases hr), fun j hj => ?_⟩
    have hjn : j < n := by
      rcases Nat.lt_or_ge j n with h | h
      · exact h
      · exact absurd hj (tail_waits hs hc hn inv _ i rfl hin hun j h)
    refine ⟨hjn, ?_⟩
    by_cases hji : j = i
    · subst hji; exact hy.lOp hi H.1 H
    · have h1 := (H.2.2 j (ready_mono hj hji)).2
      obtain ⟨hjun, oj, hoj, hall⟩ := mem_ready.1 hj
      have hnot : ∀ e ∈ oj.after, Region.binds md e = true → e.on ≠ i := fun e he hb heq => by
        have h1 := hall e he hb
        rw [heq, getD_both hun] at h1
        cases h1
      have h2 := lOp_put hoj (hfree j oj hoj hji hjun hnot) (fun cs b => hsel i oi cs b hi) (fun cs b => hsel j oj cs b hoj) hy h1
      have hfree' : ∀ k ok, ops[k]? = some ok → k ≠ i → (listed.setIfInBounds j true).getD k true = false →
          (∀ e ∈ ok.after, Region.binds md e = true → e.on ≠ i) → oi.apart ops ok = true := fun k ok hk hki hun hno => by
        refine hfree k ok hk hki ?_ hno
        by_cases hjk : j = k
        · subst hjk; exact hjun
        · rw [getD_set_ne true hjk] at hun; exact hun
      refine lOp_mono (fun a' w' h3 => ih (listed.setIfInBounds j true) a' w' (inv.set hj hjn) hfree' (ready_mono hr (Ne.symm hji)) h3.1 ?_) h2
      rw [Array.setIfInBounds_comm _ _ hji]
      exact h3.2

theorem wpAnyM_mid {n g : Nat} {Lq : Act → World → Prop} : ∀ (l : List Oper) (k : Nat) (listed : Array Bool) (a : Act) (w : World), (∀ j, j < l.length → l[j]? = ops[k + j]?) → k + l.length = n →
    Region.seqB md ops (l.length + g) k listed = true → wpMid P ops C Lq l a w →
    wpAnyM P md ops C n (fun listed' a' w' => Region.seqB md ops g n listed' = true ∧ Lq a' w') l.length listed a w
  | [], k, listed, a, w, _, hk, hB, h => by
    have : k = n := by simpa using hk
    subst this
    exact ⟨h.1, by simpa using hB, h.2⟩
  | o :: l, k, listed, a, w, hl, hk, hB, h => by
    have h0 : ops[k]? = some o := by simpa using (hl 0 (by simp)).symm
    rw [show (o :: l).length + g = (l.length + g) + 1 by simp; omega] at hB
    simp only [Region.seqB, Bool.and_eq_true, decide_eq_true_eq] at hB
    obtain ⟨hr, hB'⟩ := hB
    refine ⟨h.1, by rw [hr]; simp, fun i hi => ?_⟩
    rw [hr] at hi
    obtain rfl : i = k := by simpa using hi
    refine ⟨by simp only [List.length_cons] at hk; omega, ?_⟩
    have hst : lOp P ops i (wpMid P ops C Lq l) a w := by unfold lOp; simp only [h0]; exact h.2
    exact lOp_mono (fun a' w' h' => wpAnyM_mid l (i + 1) _ a' w' (fun j hj => by have := hl (j + 1) (by simp; omega); simpa [Nat.add_assoc, Nat.add_comm 1 j] using this) (by simp only [List.length_cons] at hk; omega) hB' h') hst

theorem wpAnyM_lex {m n g : Nat} {Lq : Act → Prop} {L : Array Bool → Act → World → Prop} {f0 : Nat} {w : World} (hsel : Region.noSelect ops = true) (hs : Region.sinkB md ops n = true) (hc : Region.chainB md ops n = true) (hn : n < ops.size) (hmn : m ≤ n)
    (hdone : ∀ listed a w, L listed a w → ∀ j ∈ Region.ready md ops listed, n ≤ j)
    (hbase : ∀ listed a, Region.seqB md ops g m listed = true → Lq a → wpAnyM P md ops C n L f0 listed a w) :
    ∀ (l : List Oper) (k : Nat) (listed : Array Bool) (a : Act), (∀ j, j < l.length → l[j]? = ops[k + j]?) → k + l.length = m → HeadInv md ops n listed →
    Region.lexHead md ops g l.length k listed = true → wpPure P ops C Lq l a →
    wpAnyM P md ops C n L (l.length + f0) listed a w
  | [], k, listed, a, _, hk, _, hB, h => by
    have : k = m := by simpa using hk
    subst this
    simpa using hbase listed a (by simpa [Region.lexHead] using hB) h
  | o :: l, k, listed, a, hl, hk, inv, hB, h => by
    have h0 : ops[k]? = some o := by simpa using (hl 0 (by simp)).symm
    simp only [List.length_cons, Region.lexHead, Bool.and_eq_true] at hB
    obtain ⟨⟨hr, hf⟩, hB'⟩ := hB
    have hkn : k < n := by simp only [List.length_cons] at hk; omega
    have hr' : k ∈ Region.ready md ops listed := by simpa using hr
    obtain ⟨v, hy, hK⟩ : ∃ v, PYields P ops C o v a ∧ wpPure P ops C Lq l (a.put o.dst v) := by
      unfold wpPure at h
      by_cases hw : Region.wanted o (yielded ops a.tmps) = true
      · simp only [hw, if_true] at h
        obtain ⟨v, h1, h2⟩ := h
        exact ⟨v, .inl ⟨hw, h1⟩, h2⟩
      · simp only [hw] at h
        exact ⟨undef, .inr ⟨by simpa using hw, rfl⟩, h⟩
    rw [show (o :: l).length + f0 = (l.length + f0) + 1 by simp; omega]
    exact wpAnyM_first h0 (Region.noSelect_spec hsel) hs hc hn hkn hdone (l.length + f0) listed a w inv (Region.free_spec h0 hf) hr' hy
      (wpAnyM_lex hsel hs hc hn hmn hdone hbase l (k + 1) _ _ (fun j hj => by have := hl (j + 1) (by simp; omega); simpa [Nat.add_assoc, Nat.add_comm 1 j] using this) (by simp only [List.length_cons] at hk; omega) (inv.set hr' hkn) hB' hK)

def lexFloatB (md : Region.Mode) (ops : Array Oper) (m n : Nat) : Bool :=
  Region.noSelect ops && decide (n < ops.size) && decide (m ≤ n) && Region.sinkB md ops n && Region.chainB md ops n && Region.lexHead md ops (ops.size - m) m 0 (Array.replicate ops.size false)

theorem wp_region_float {id : Nat} {Q : Exit → Act → World → Prop} {a : Act} {w : World} {l : List Oper} (C : World → Prop) (m n : Nat) (hm : P.follows .mixedOrders = true) (hB : lexFloatB .any l.toArray m n = true)
    (h : wpPure P l.toArray C (fun a' => wpMid P l.toArray C (fun a'' w'' => wpList P l.toArray Q (l.drop n) a'' w'') ((l.take n).drop m) a' { w with drawn := w.drawn + 1 }) (l.take m) a) : (Code.region id l.toArray true).wp P Q a w := by
  simp only [lexFloatB, Bool.and_eq_true, decide_eq_true_eq] at hB
  obtain ⟨⟨⟨⟨⟨hsel, hn⟩, hmn⟩, hs⟩, hc⟩, hlex⟩ := hB
  have hn' : n < l.length := by simpa using hn
  have htl : (l.take m).length = m := by simp; omega
  have hml : ((l.take n).drop m).length = n - m := by simp; omega
  have hdl : (l.drop n).length = l.toArray.size - n := by simp
  have inv0 : HeadInv .any l.toArray n (Array.replicate l.toArray.size false) :=
    ⟨by simp, fun j oj _ hl => (by rw [getD_replicate_false] at hl; cases hl), fun t _ ht => getD_in (by simpa using ht) (getD_replicate_false _ _)⟩
  have H := wpAnyM_lex (P := P) (C := C) (md := .any) (ops := l.toArray) (m := m) (n := n) (g := l.toArray.size - m) (f0 := n - m) (w := { w with drawn := w.drawn + 1 })
    (L := fun listed' a' w' => Region.seqB .any l.toArray (l.toArray.size - n) n listed' = true ∧ wpList P l.toArray Q (l.drop n) a' w') hsel hs hc hn hmn
    (fun listed' a' w' hL => seqB_ready hL.1)
    (fun listed a hseq hq => by
      have := wpAnyM_mid (P := P) (C := C) (md := .any) (ops := l.toArray) (n := n) (g := l.toArray.size - n) ((l.take n).drop m) m listed a { w with drawn := w.drawn + 1 } (fun j hj => by
        rw [hml] at hj
        simp [List.getElem?_drop, show m + j < n by omega]) (by rw [hml]; omega) (by rw [hml, show n - m + (l.toArray.size - n) = l.toArray.size - m by omega]; exact hseq) hq
      rwa [hml] at this)
    (l.take m) 0 _ a (fun j hj => by
    have hj' : j < m := by rw [htl] at hj; exact hj
    simp [hj']) (by simpa using htl) inv0 (by rw [htl]; exact hlex) h
  refine wp_region_any hm ?_
  have := wpAny_of_headM (Q' := Q) (g := l.toArray.size - n) (fun listed a' w' hL => by
    have := wpAny_of_seq (md := .any) (Q' := Q) (l.drop n) n listed a' w' (fun j => by simp [List.getElem?_drop]) (by rw [hdl]; exact hL.1) hL.2
    rwa [hdl] at this) _ _ _ _ H
  rw [htl, show m + (n - m) + (l.toArray.size - n) = l.toArray.size by omega] at this
  exact this

theorem wpPure_nil {Q : Act → Prop} {a : Act} (h : Q a) : wpPure P ops C Q [] a := h
theorem wpPure_step {Q : Act → Prop} {a : Act} {o : Oper} {rest : List Oper}
    (h : ∀ K : Act → Prop, (∀ a, wpPure P ops C Q rest a → K a) → if Region.wanted o (yielded ops a.tmps) then pureIn P o a C K else K (a.put o.dst undef)) : wpPure P ops C Q (o :: rest) a :=
  h _ (fun _ h => h)
theorem wpMid_nil {L : Act → World → Prop} {a : Act} {w : World} (hC : C w) (h : L a w) : wpMid P ops C L [] a w := ⟨hC, h⟩
theorem wpMid_step {L : Act → World → Prop} {a : Act} {w : World} {o : Oper} {rest : List Oper} (hC : C w)
    (h : ∀ K : Act → World → Prop, (∀ a w, wpMid P ops C L rest a w → K a w) → if Region.wanted o (yielded ops a.tmps) then loud P o a w K else K (a.put o.dst undef) w) : wpMid P ops C L (o :: rest) a w :=
  ⟨hC, h _ (fun _ _ h => h)⟩
end

end Go.Proofs.Qxb6000140a
