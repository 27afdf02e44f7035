/-
  The statement FnBeforeIsTheFilterOfEarlierMonthsSaid: the row's step (after the kit's shell, turned to a slice of rows of four integers); the walk is be_walk.
-/
import Derived.Test.Qxb6000140aRows
import Derived.Test.Qxb6000140aBeE
import Derived.WalkKit
import Derived.ProofKit
import Derived.OpenShut
import Derived.ShutString
import Derived.ChangeOld
import Derived.Below
import Derived.Deep.Slices
import Derived.Lib.SmallJoins
namespace Go.Proofs.Qxb6000140a.fnBeforeIsTheFilterOfEarlierMonths
open Go.ChangeShapes Go.WideShapes Go.ChangeAt Go.RowKit
set_option linter.unusedVariables false

theorem own : ownKnob Try.prog.godebug = none := by kernel_rfl
theorem laidOut : laidOutB Try.prog = true := by kernel_rfl
theorem cells30 : Try.prog.cellsOf 30 = 4 := by kernel_rfl
theorem cells3 : Try.prog.cellsOf 3 = 1 := by kernel_rfl
theorem cells2 : Try.prog.cellsOf 2 = 1 := by kernel_rfl

theorem qIn {H : Type} {enc : TypeId × Value → H} {W : World} {fuel : Nat} {a : Addr} {i : Nat} {cs : List Value} {x : DataW H × List MemPlace}
    (hc : W.cells? 0 (a.add (i * 4)) 4 = some cs)
    (hf : DataW.trod enc Try.prog W 0 (fun _ => true) true fuel 30 cs = some x) :
    ∃ q : Q4, W.cell? ((a.add (i * 4)).add 0) = some (.int .i64 q.m) ∧ W.cell? ((a.add (i * 4)).add 1) = some (.int .i64 q.h) ∧ W.cell? ((a.add (i * 4)).add 2) = some (.int .i64 q.r) ∧ W.cell? ((a.add (i * 4)).add 3) = some (.int .i64 q.l) := by
  obtain ⟨y0, y1, y2, y3, n, rfl, hl, h0, h1, h2, h3⟩ := Go.Joins.trod_struct4 Try.underlying30 hf
  obtain ⟨_, _, hcell⟩ := World.cells?_some hc
  rw [cells30] at hl
  simp only [cells3, cells2] at h0 h1 h2 h3
  match cs, hl with
  | [c0, c1, c2, c3], _ =>
    obtain ⟨m, e0, _, _⟩ := DataW.trod_int Try.underlying3 h0
    obtain ⟨h, e1, _, _⟩ := DataW.trod_int Try.underlying2 h1
    obtain ⟨r, e2, _, _⟩ := DataW.trod_int Try.underlying2 h2
    obtain ⟨l, e3, _, _⟩ := DataW.trod_int Try.underlying3 h3
    simp at e0 e1 e2 e3
    refine ⟨⟨m, h, r, l⟩, ?_, ?_, ?_, ?_⟩
    · rw [hcell 0 (by omega)]; simp [e0]
    · rw [hcell 1 (by omega)]; simp [e1]
    · rw [hcell 2 (by omega)]; simp [e2]
    · rw [hcell 3 (by omega)]; simp [e3]

theorem qsOf {H : Type} {enc : TypeId × Value → H} {W : World} {a : Option Addr} {len cap : Nat} {d : DataW H} {p : List MemPlace}
    (h : DataW.Trod enc Try.prog W 0 (fun _ => true) true 22 (.slice a len cap) d p) : ∃ l : List Q4, l.length = len ∧ len ≤ maxLen ∧ (0 < len → ∃ b o, a = some ⟨b, o, none⟩ ∧ RQ W b o l) := by
  obtain ⟨fuel, hf⟩ := h
  rcases Go.Deep.open_slice Try.underlying22 hf with ⟨hcs, _⟩ | ⟨x, l, c, m, n, D, Pl, hcs, _, hl, hm, hmm, _, hx⟩
  · simp [Value.cells] at hcs
    obtain ⟨rfl, rfl, rfl⟩ := hcs
    exact ⟨[], rfl, Nat.zero_le _, fun h => absurd h (by omega)⟩
  · simp [Value.cells] at hcs
    obtain ⟨rfl, rfl, rfl⟩ := hcs
    simp only [if_true] at hmm
    subst hmm
    rw [cells30] at hx
    have hI : Inhabited Q4 := ⟨⟨0, 0, 0, 0⟩⟩
    obtain ⟨f, hf'⟩ := Go.Deep.choose_lt (α := Q4) (n := m) (p := fun i q => W.cell? ((x.add (i * 4)).add 0) = some (.int .i64 q.m) ∧ W.cell? ((x.add (i * 4)).add 1) = some (.int .i64 q.h) ∧ W.cell? ((x.add (i * 4)).add 2) = some (.int .i64 q.r) ∧ W.cell? ((x.add (i * 4)).add 3) = some (.int .i64 q.l)) (fun i hi => by
      obtain ⟨cs', hc, ht⟩ := hx i hi
      exact qIn hc ht)
    refine ⟨(List.range len).map f, by simp, by omega, fun hpos => ?_⟩
    have hs := World.cell?_spot (hf' 0 (by omega)).1
    obtain ⟨b, o, s⟩ := x
    have hs : s = none := by simpa [Addr.add] using hs
    subst hs
    refine ⟨b, o, rfl, fun i hi => ?_⟩
    have hi' : i < len := by simpa using hi
    have := hf' i (by omega)
    simpa [Addr.add_lit] using this

set_option maxRecDepth 100000 in
theorem lifted (os : Os) (started : os.Started) (H : Type) (enc : TypeId × Value → H) :
    ReturnsInHanded {} Try.checked os 3 .any (Rows.fnBeforeIsTheFilterOfEarlierMonthsSpec.pre6 enc Try.prog Try.f3 Rows.fnBeforeIsTheFilterOfEarlierMonthsRow.domain false) (Rows.fnBeforeIsTheFilterOfEarlierMonthsSpec.post enc Try.prog Try.f3 false true false false) := by
  refine returnsInHanded_of_change (C := Try.checked) own started (by kernel_rfl) Try.func3
    (ChangeSpec.witness6 (enc := enc) (C := Try.checked) false ⟨#[], #[.slice none 0 0, .int .i64 0], []⟩ 8 (by kernel_rfl) (by kernel_rfl) (by kernel_rfl) (by kernel_rfl)) ?_
  intro W base args ds gs before hval0 hW hcnd _
  have hval : ∀ (j : Nat) t v, Try.f3.params[j]? = some t → args[j]? = some v → Value.okWide Try.prog W .any base t v := hval0
  have hW' := hW
  obtain ⟨p, q, hA0, hV, rfl, hfz, hnd⟩ := hW
  have hA : DataW.TrodAll enc Try.prog W 0 (fun _ => true) true Try.f3.params.toList args.toList ds p := hA0
  rw [Try.params3] at hA hval
  obtain ⟨v0, vs0, d0, ds0, p0, q0, hargs, rfl, rfl, h0, r0⟩ := trodAll_cons hA
  obtain ⟨v1, vs1, d1, ds1, p1, q1, rfl, rfl, rfl, h1, r1⟩ := trodAll_cons r0
  obtain ⟨rfl, rfl, rfl⟩ := trodAll_nil r1
  obtain rfl : args = #[v0, v1] := by cases args; simp_all
  obtain ⟨rfl, rfl⟩ := trodVars_none hV
  obtain ⟨a0, len0, cap0, rfl⟩ := okWide_slice Try.underlying22 (hval 0 22 v0 rfl rfl)
  have k0 := h0
  have lt0 : ∀ x ∈ p0, x.block < W.heap.size := by obtain ⟨m, hm⟩ := k0; exact DataW.trod_lt m _ _ _ hm
  obtain ⟨l, n0, m0, e0⟩ := qsOf h0
  obtain ⟨a1, rfl, rfl, rfl, w1⟩ := open_int Try.underlying3 (hval 1 3 v1 rfl rfl) h1
  clear hA0 hval0
  refine (be_walk a0 len0 cap0 a1 l W n0 m0 e0).mono fun e W' ⟨he, bel⟩ => ?_
  subst he
  exact ⟨_, rfl, _, _, _, [], _, [], hW', trodAll_mk1 (shut_bool Try.underlying4 _), (trodAll_cons_mk (Below.trod laidOut (by kernel_rfl) (of_decide_eq_true (by kernel_rfl)) k0 bel lt0) (trodAll_cons_mk (shut_int Try.underlying3 w1) trodAll_mk0)), rfl, bel.frame _, fun h => by cases h⟩

theorem over : Rows.fnBeforeIsTheFilterOfEarlierMonthsRow.holds Try.pinned (OpenSpec.ofChange Rows.fnBeforeIsTheFilterOfEarlierMonthsSpec) :=
  OpenClaim.holds_of_wide 3 Try.f3 rfl rfl rfl rfl rfl rfl rfl ⟨rfl, rfl, rfl, rfl, rfl⟩ rfl rfl rfl rfl rfl (by kernel_rfl) Try.func3 (by kernel_rfl)
    (of_decide_eq_true (by kernel_rfl)) (by unfold Func.isWrapper; first | (rw [if_pos (by decide +kernel)]; kernel_rfl) | (rw [if_neg (by decide +kernel)]; exact ⟨rfl, rfl⟩))
    (fun os started H enc _ => lifted os started H enc)

theorem proved : Rows.FnBeforeIsTheFilterOfEarlierMonthsSaid := over
end Go.Proofs.Qxb6000140a.fnBeforeIsTheFilterOfEarlierMonths
