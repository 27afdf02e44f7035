/-
  The statement FnKeySetAddAnswersIsNewSaid: the row's step (after the kit's shell, turned to a slice of strings); the walk is ks_walk.
-/
import Derived.Test.Qxb6000994aRows
import Derived.Test.Qxb6000994aE
import Derived.WalkKit
import Derived.ProofKit
import Derived.OpenShut
import Derived.ShutString
import Derived.ChangeOld
import Derived.Below
import Derived.Deep.Slices
namespace Go.Proofs.Qxb6000994a.fnKeySetAddAnswersIsNew
open Go.ChangeShapes Go.WideShapes Go.ChangeAt Go.RowKit
set_option linter.unusedVariables false

theorem own : ownKnob Try.prog.godebug = none := by kernel_rfl
theorem laidOut : laidOutB Try.prog = true := by kernel_rfl
theorem cells9 : Try.prog.cellsOf 9 = 1 := by kernel_rfl

theorem strsOf {H : Type} {enc : TypeId × Value → H} {W : World} {a : Option Addr} {len cap : Nat} {d : DataW H} {p : List MemPlace}
    (h : DataW.Trod enc Try.prog W 0 (fun _ => true) true 22 (.slice a len cap) d p) : ∃ ss : List ByteArray, ss.length = len ∧ len ≤ maxLen ∧ RS W a ss ∧ ∀ s ∈ ss, s.size ≤ 9223372036854775807 := by
  obtain ⟨fuel, hf⟩ := h
  rcases Go.Deep.open_slice1 Try.underlying22 cells9 hf with ⟨hcs, _⟩ | ⟨x, l, c, m, n, V, D, Pl, hcs, _, hl, hm, hmm, _, hx⟩
  · simp [Value.cells] at hcs
    obtain ⟨rfl, rfl, rfl⟩ := hcs
    exact ⟨[], rfl, Nat.zero_le _, fun i hi => by simp at hi, fun s hs => by simp at hs⟩
  · simp [Value.cells] at hcs
    obtain ⟨rfl, rfl, rfl⟩ := hcs
    simp only [if_true] at hmm
    subst hmm
    have hI : Inhabited ByteArray := ⟨ByteArray.empty⟩
    obtain ⟨f, hf'⟩ := Go.Deep.choose_lt (α := ByteArray) (n := m) (p := fun i s => W.cell? (x.add i) = some (.string s) ∧ s.size ≤ 9223372036854775807) (fun i hi => by
      obtain ⟨hc, ht⟩ := hx i hi
      obtain ⟨s, e, _, hs⟩ := DataW.trod_string Try.underlying9 ht
      simp at e
      exact ⟨s, by rw [hc, e], hs⟩)
    refine ⟨(List.range len).map f, by simp, by omega, fun i hi => ?_, fun s hs => ?_⟩
    · have hi' : i < len := by simpa using hi
      have h0 := (hf' i (by omega)).1
      have hs := World.cell?_spot (hf' 0 (by omega)).1
      obtain ⟨b, o, t⟩ := x
      have hs : t = none := by simpa [Addr.add] using hs
      subst hs
      exact ⟨b, o, rfl, by simpa [Addr.add_lit] using h0⟩
    · obtain ⟨i, hi, rfl⟩ := List.mem_map.1 hs
      exact (hf' i (by have := List.mem_range.1 hi; omega)).2

set_option maxRecDepth 100000 in
theorem lifted (os : Os) (started : os.Started) (H : Type) (enc : TypeId × Value → H) :
    ReturnsInHanded {} Try.checked os 3 .any (Rows.fnKeySetAddAnswersIsNewSpec.pre6 enc Try.prog Try.f3 Rows.fnKeySetAddAnswersIsNewRow.domain false) (Rows.fnKeySetAddAnswersIsNewSpec.post enc Try.prog Try.f3 false true false false) := by
  refine returnsInHanded_of_change (C := Try.checked) own started (by kernel_rfl) Try.func3
    (ChangeSpec.witness6 (enc := enc) (C := Try.checked) false ⟨#[], #[.slice none 0 0], []⟩ 8 (by kernel_rfl) (by kernel_rfl) (by kernel_rfl) (by kernel_rfl)) ?_
  intro W base args ds gs before hval0 hW hcnd _
  have hval : ∀ (j : Nat) t v, Try.f3.params[j]? = some t → args[j]? = some v → Value.okWide Try.prog W .any base t v := hval0
  have hW' := hW
  obtain ⟨p, q, hA0, hV, rfl, hfz, hnd⟩ := hW
  have hA : DataW.TrodAll enc Try.prog W 0 (fun _ => true) true Try.f3.params.toList args.toList ds p := hA0
  rw [Try.params3] at hA hval
  obtain ⟨v0, vs0, d0, ds0, p0, q0, hargs, rfl, rfl, h0, r0⟩ := trodAll_cons hA
  obtain ⟨rfl, rfl, rfl⟩ := trodAll_nil r0
  obtain rfl : args = #[v0] := by cases args; simp_all
  obtain ⟨rfl, rfl⟩ := trodVars_none hV
  obtain ⟨a0, len0, cap0, rfl⟩ := okWide_slice Try.underlying22 (hval 0 22 v0 rfl rfl)
  have k0 := h0
  have lt0 : ∀ x ∈ p0, x.block < W.heap.size := by obtain ⟨m, hm⟩ := k0; exact DataW.trod_lt m _ _ _ hm
  obtain ⟨l, n0, m0, e0, e1⟩ := strsOf h0
  clear hA0 hval0
  refine (ks_walk a0 len0 cap0 l W n0 m0 e0 e1).mono fun e W' ⟨he, bel⟩ => ?_
  subst he
  exact ⟨_, rfl, _, _, _, [], _, [], hW', trodAll_mk1 (shut_bool Try.underlying4 _), (trodAll_cons_mk (Below.trod laidOut (by kernel_rfl) (of_decide_eq_true (by kernel_rfl)) k0 bel lt0) trodAll_mk0), rfl, bel.frame _, fun h => by cases h⟩

theorem over : Rows.fnKeySetAddAnswersIsNewRow.holds Try.pinned (OpenSpec.ofChange Rows.fnKeySetAddAnswersIsNewSpec) :=
  OpenClaim.holds_of_wide 3 Try.f3 rfl rfl rfl rfl rfl rfl rfl ⟨rfl, rfl, rfl, rfl, rfl⟩ rfl rfl rfl rfl rfl (by kernel_rfl) Try.func3 (by kernel_rfl)
    (of_decide_eq_true (by kernel_rfl)) (by unfold Func.isWrapper; first | (rw [if_pos (by decide +kernel)]; kernel_rfl) | (rw [if_neg (by decide +kernel)]; exact ⟨rfl, rfl⟩))
    (fun os started H enc _ => lifted os started H enc)

theorem proved : Rows.FnKeySetAddAnswersIsNewSaid := over
end Go.Proofs.Qxb6000994a.fnKeySetAddAnswersIsNew
