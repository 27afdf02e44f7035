/-
  The statement FnPageTableExactSaid: the row's step (after the kit's shell, turned to slices of strings, of bools and of slices of strings); the walk is pt_walk.
-/
import Derived.Test.Qxb6000044aRows
import Derived.Test.Qxb6000044aPtG
import Derived.WalkKit
import Derived.ProofKit
import Derived.OpenShut
import Derived.ShutString
import Derived.ChangeOld
import Derived.Below
import Derived.SliceStrings
import Derived.Deep.Grids
namespace Go.Proofs.Qxb6000044a.fnPageTableExact
open Go.ChangeShapes Go.WideShapes Go.ChangeAt Go.RowKit
open Go.ChangeMaps (open_string shut_string)
set_option linter.unusedVariables false

theorem own : ownKnob Try.prog.godebug = none := by kernel_rfl
theorem laidOut : laidOutB Try.prog = true := by kernel_rfl

theorem strsIn {H : Type} {enc : TypeId × Value → H} {W : World} {fuel : Nat} {v : Value} {x : DataW H × List MemPlace}
    (hf : DataW.trod enc Try.prog W 0 (fun _ => true) true fuel 27 [v] = some x) :
    ∃ r : RowD, v = r.val ∧ RV W r.a (strsV r.ss) ∧ (r.a = none → r.cap = 0) ∧ r.ss.length ≤ maxLen ∧ ∀ s ∈ r.ss, s.size ≤ maxLen := by
  rcases open_strings Try.underlying27 Try.underlying9 (by kernel_rfl) hf with ⟨hcs, _⟩ | ⟨a, l, c, zs, hcs, _, hl, hm, hz, _, hcell, hwz⟩
  · simp at hcs
    subst hcs
    exact ⟨⟨none, 0, []⟩, rfl, rv_nil _, fun _ => rfl, Nat.zero_le _, fun s hs => by simp at hs⟩
  · simp at hcs
    subst hcs
    simp only [if_true] at hz
    have hlen : (zs.take l).length = l := by simp; omega
    refine ⟨⟨some a, c, zs.take l⟩, by simp [RowD.val, hlen], ⟨fun e => (by cases e), fun y hy j u hj => ?_⟩, fun e => (by cases e), by simp [hlen]; omega, fun s hs => hwz s (List.mem_of_mem_take hs)⟩
    obtain rfl := Option.some.inj hy
    have hj' : j < l := by have := (List.getElem?_eq_some_iff.1 hj).1; simp [strsV] at this; omega
    rw [hcell j (by omega), ← hj]
    simp [strsV, hj', List.getD, show j < zs.length by omega]

theorem strsOf {H : Type} {enc : TypeId × Value → H} {W : World} {a : Option Addr} {len cap : Nat} {d : DataW H} {p : List MemPlace}
    (h : DataW.Trod enc Try.prog W 0 (fun _ => true) true 27 (.slice a len cap) d p) : ∃ ss : List ByteArray, ss.length = len ∧ len ≤ maxLen ∧ RV W a (strsV ss) ∧ (a = none → cap = 0) ∧ ∀ s ∈ ss, s.size ≤ maxLen := by
  obtain ⟨fuel, hf⟩ := h
  obtain ⟨⟨ra, rc, rs⟩, hv, h1, h2, h3, h4⟩ := strsIn (v := .slice a len cap) (by simpa [Value.cells] using hf)
  simp [RowD.val] at hv
  obtain ⟨rfl, rfl, rfl⟩ := hv
  exact ⟨rs, rfl, h3, h1, h2, h4⟩

theorem boolsOf {H : Type} {enc : TypeId × Value → H} {W : World} {a : Option Addr} {len cap : Nat} {d : DataW H} {p : List MemPlace}
    (h : DataW.Trod enc Try.prog W 0 (fun _ => true) true 28 (.slice a len cap) d p) : ∃ bs : List Bool, bs.length = len ∧ len ≤ maxLen ∧ RV W a (bs.map Value.bool) ∧ (a = none → cap = 0) := by
  obtain ⟨fuel, hf⟩ := h
  rcases Go.Deep.open_bools Try.underlying28 Try.underlying4 (by kernel_rfl) hf with ⟨hcs, _⟩ | ⟨x, l, c, B, hcs, _, hl, hm, _, hcell⟩
  · simp [Value.cells] at hcs
    obtain ⟨rfl, rfl, rfl⟩ := hcs
    exact ⟨[], rfl, Nat.zero_le _, rv_nil _, fun _ => rfl⟩
  · simp [Value.cells] at hcs
    obtain ⟨rfl, rfl, rfl⟩ := hcs
    refine ⟨(List.range len).map B, by simp, by omega, ⟨fun e => (by cases e), fun y hy j u hj => ?_⟩, fun e => (by cases e)⟩
    obtain rfl := Option.some.inj hy
    have hj' : j < len := by have := (List.getElem?_eq_some_iff.1 hj).1; simpa using this
    rw [hcell j (by omega), ← hj]
    simp [hj']

theorem rowsOf {H : Type} {enc : TypeId × Value → H} {W : World} {a : Option Addr} {len cap : Nat} {d : DataW H} {p : List MemPlace}
    (h : DataW.Trod enc Try.prog W 0 (fun _ => true) true 29 (.slice a len cap) d p) : ∃ rows : List RowD, rows.length = len ∧ len ≤ maxLen ∧ RR W a rows ∧ (a = none → cap = 0) ∧ ∀ r ∈ rows, r.ss.length ≤ maxLen ∧ ∀ s ∈ r.ss, s.size ≤ maxLen := by
  obtain ⟨fuel, hf⟩ := h
  rcases Go.Deep.open_slice1 Try.underlying29 (by kernel_rfl) hf with ⟨hcs, _⟩ | ⟨x, l, c, m, n, V, D, Pl, hcs, _, hl, hm, hmm, _, hx⟩
  · simp [Value.cells] at hcs
    obtain ⟨rfl, rfl, rfl⟩ := hcs
    exact ⟨[], rfl, Nat.zero_le _, ⟨rv_nil _, fun r hr => by simp at hr⟩, fun _ => rfl, fun r hr => by simp at hr⟩
  · simp [Value.cells] at hcs
    obtain ⟨rfl, rfl, rfl⟩ := hcs
    simp only [if_true] at hmm
    subst hmm
    have hI : Inhabited RowD := ⟨⟨none, 0, []⟩⟩
    obtain ⟨f, hf'⟩ := Go.Deep.choose_lt (α := RowD) (n := m) (p := fun i r => V i = r.val ∧ RV W r.a (strsV r.ss) ∧ (r.a = none → r.cap = 0) ∧ r.ss.length ≤ maxLen ∧ ∀ s ∈ r.ss, s.size ≤ maxLen) (fun i hi => strsIn (hx i hi).2)
    refine ⟨(List.range len).map f, by simp, by omega, ⟨⟨fun e => (by cases e), fun y hy j u hj => ?_⟩, fun r hr => ?_⟩, fun e => (by cases e), fun r hr => ?_⟩
    · obtain rfl := Option.some.inj hy
      have hj' : j < len := by have := (List.getElem?_eq_some_iff.1 hj).1; simpa using this
      rw [(hx j (by omega)).1, ← hj, (hf' j (by omega)).1]
      simp [hj']
    · obtain ⟨i, hi, rfl⟩ := List.mem_map.1 hr
      have hi' := List.mem_range.1 hi
      exact ⟨(hf' i (by omega)).2.1, (hf' i (by omega)).2.2.1⟩
    · obtain ⟨i, hi, rfl⟩ := List.mem_map.1 hr
      have hi' := List.mem_range.1 hi
      exact (hf' i (by omega)).2.2.2

set_option maxRecDepth 100000 in
theorem lifted (os : Os) (started : os.Started) (H : Type) (enc : TypeId × Value → H) :
    ReturnsInHanded {} Try.checked os 5 .any (Rows.fnPageTableExactSpec.pre6 enc Try.prog Try.f5 Rows.fnPageTableExactRow.domain false) (Rows.fnPageTableExactSpec.post enc Try.prog Try.f5 false true false false) := by
  refine returnsInHanded_of_change (C := Try.checked) own started (by kernel_rfl) Try.func5
    (ChangeSpec.witness6 (enc := enc) (C := Try.checked) false ⟨#[], #[.string ByteArray.empty, .slice none 0 0, .slice none 0 0, .slice none 0 0], []⟩ 8 (by kernel_rfl) (by kernel_rfl) (by kernel_rfl) (by kernel_rfl)) ?_
  intro W base args ds gs before hval0 hW hcnd _
  have hval : ∀ (j : Nat) t v, Try.f5.params[j]? = some t → args[j]? = some v → Value.okWide Try.prog W .any base t v := hval0
  have hW' := hW
  obtain ⟨p, q, hA0, hV, rfl, hfz, hnd⟩ := hW
  have hA : DataW.TrodAll enc Try.prog W 0 (fun _ => true) true Try.f5.params.toList args.toList ds p := hA0
  rw [Try.params5] at hA hval
  obtain ⟨v0, vs0, d0, ds0, p0, q0, hargs, rfl, rfl, h0, r0⟩ := trodAll_cons hA
  obtain ⟨v1, vs1, d1, ds1, p1, q1, rfl, rfl, rfl, h1, r1⟩ := trodAll_cons r0
  obtain ⟨v2, vs2, d2, ds2, p2, q2, rfl, rfl, rfl, h2, r2⟩ := trodAll_cons r1
  obtain ⟨v3, vs3, d3, ds3, p3, q3, rfl, rfl, rfl, h3, r3⟩ := trodAll_cons r2
  obtain ⟨rfl, rfl, rfl⟩ := trodAll_nil r3
  obtain rfl : args = #[v0, v1, v2, v3] := by cases args; simp_all
  obtain ⟨rfl, rfl⟩ := trodVars_none hV
  obtain ⟨a1, len1, cap1, rfl⟩ := okWide_slice Try.underlying27 (hval 1 27 v1 rfl rfl)
  obtain ⟨a2, len2, cap2, rfl⟩ := okWide_slice Try.underlying28 (hval 2 28 v2 rfl rfl)
  obtain ⟨a3, len3, cap3, rfl⟩ := okWide_slice Try.underlying29 (hval 3 29 v3 rfl rfl)
  have k1 := h1
  have k2 := h2
  have k3 := h3
  have lt1 : ∀ x ∈ p1, x.block < W.heap.size := by obtain ⟨m, hm⟩ := k1; exact DataW.trod_lt m _ _ _ hm
  have lt2 : ∀ x ∈ p2, x.block < W.heap.size := by obtain ⟨m, hm⟩ := k2; exact DataW.trod_lt m _ _ _ hm
  have lt3 : ∀ x ∈ p3, x.block < W.heap.size := by obtain ⟨m, hm⟩ := k3; exact DataW.trod_lt m _ _ _ hm
  obtain ⟨ts, n1, m1, e1, c1, z1⟩ := strsOf h1
  obtain ⟨bs, n2, m2, e2, c2⟩ := boolsOf h2
  obtain ⟨rows, n3, m3, e3, c3, z3⟩ := rowsOf h3
  obtain ⟨a0, rfl, rfl, rfl, w0⟩ := open_string Try.underlying9 (hval 0 9 v0 rfl rfl) h0
  clear hA0 hval0
  refine (pt_walk a0 a1 a2 a3 len1 len2 len3 cap1 cap2 cap3 ts bs rows W w0 n1 n2 n3 m1 m2 m3 e1 e2 e3 c1 c2 c3 z1 z3).mono fun e W' ⟨he, bel⟩ => ?_
  subst he
  exact ⟨_, rfl, _, _, _, [], _, [], hW', trodAll_mk1 (shut_bool Try.underlying4 _), (trodAll_cons_mk (shut_string Try.underlying9 w0) (trodAll_cons_mk (Below.trod laidOut (by kernel_rfl) (of_decide_eq_true (by kernel_rfl)) k1 bel lt1) (trodAll_cons_mk (Below.trod laidOut (by kernel_rfl) (of_decide_eq_true (by kernel_rfl)) k2 bel lt2) (trodAll_cons_mk (Below.trod laidOut (by kernel_rfl) (of_decide_eq_true (by kernel_rfl)) k3 bel lt3) trodAll_mk0)))), rfl, bel.frame _, fun h => by cases h⟩

theorem over : Rows.fnPageTableExactRow.holds Try.pinned (OpenSpec.ofChange Rows.fnPageTableExactSpec) :=
  OpenClaim.holds_of_wide 5 Try.f5 rfl rfl rfl rfl rfl rfl rfl ⟨rfl, rfl, rfl, rfl, rfl⟩ rfl rfl rfl rfl rfl (by kernel_rfl) Try.func5 (by kernel_rfl)
    (of_decide_eq_true (by kernel_rfl)) (by unfold Func.isWrapper; first | (rw [if_pos (by decide +kernel)]; kernel_rfl) | (rw [if_neg (by decide +kernel)]; exact ⟨rfl, rfl⟩))
    (fun os started H enc _ => lifted os started H enc)

theorem proved : Rows.FnPageTableExactSaid := over
end Go.Proofs.Qxb6000044a.fnPageTableExact
