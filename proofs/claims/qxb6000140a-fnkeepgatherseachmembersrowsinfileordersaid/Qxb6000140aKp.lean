/-
  The statement FnKeepGathersEachMembersRowsInFileOrderSaid: the row's step (after the kit's shell, turned to a slice of structs of three slices); the walk is kp_walk.
-/
import Derived.Test.Qxb6000140aRows
import Derived.Test.Qxb6000140aKN
import Derived.WalkKit
import Derived.ProofKit
import Derived.OpenShut
import Derived.ShutString
import Derived.ChangeOld
import Derived.Below
import Derived.Deep.Slices
import Derived.Deep.Strs
import Derived.Lib.SmallJoins
namespace Go.Proofs.Qxb6000140a.fnKeepGathersEachMembersRowsInFileOrder
open Go.ChangeShapes Go.WideShapes Go.ChangeAt Go.RowKit
set_option linter.unusedVariables false

theorem own : ownKnob Try.prog.godebug = none := by kernel_rfl
theorem laidOut : laidOutB Try.prog = true := by kernel_rfl

/-- A slice, opened by what one element shows. -/
theorem sliceIn {H : Type} {enc : TypeId × Value → H} {W : World} {fuel : Nat} {v : Value} {x : DataW H × List MemPlace} {α : Type} [Inhabited α] {t e : TypeId} (ht : Try.prog.underlying t = some (.slice e)) (c : Nat) (hc : Try.prog.cellsOf e = c) (Q : Addr → α → Prop)
    (hQ : ∀ a q, Q a q → ∃ u, W.cell? (a.add 0) = some u)
    (h1 : ∀ {n : Nat} {a : Addr} {cs : List Value} {y : DataW H × List MemPlace}, W.cells? 0 a c = some cs → DataW.trod enc Try.prog W 0 (fun _ => true) true n e cs = some y → ∃ q, Q a q)
    (hf : DataW.trod enc Try.prog W 0 (fun _ => true) true fuel t [v] = some x) :
    ∃ (a : Option Addr) (cap : Nat) (l : List α), v = .slice a l.length cap ∧ l.length ≤ maxLen ∧ (a = none → l = [] ∧ cap = 0) ∧ ∀ i (_ : i < l.length), ∃ b o, a = some ⟨b, o, none⟩ ∧ Q ((Addr.mk b o none).add (i * c)) l[i] := by
  rcases Go.Deep.open_slice ht hf with ⟨hcs, _⟩ | ⟨x, l, cp, m, n, D, Pl, hcs, _, hl, hm, hmm, _, hx⟩
  · simp at hcs
    exact ⟨none, 0, [], by simpa using hcs, Nat.zero_le _, fun _ => ⟨rfl, rfl⟩, fun i hi => by simp at hi⟩
  · simp at hcs
    simp only [if_true] at hmm
    subst hmm
    rw [hc] at hx
    obtain ⟨f, hf'⟩ := Go.Deep.choose_lt (α := α) (n := m) (p := fun i q => Q (x.add (i * c)) q) (fun i hi => by
      obtain ⟨cs', hc', ht'⟩ := hx i hi
      exact h1 hc' ht')
    refine ⟨some x, m, (List.range l).map f, by simpa using hcs, by simp; omega, (fun e => by cases e), fun i hi => ?_⟩
    have hi' : i < l := by simpa using hi
    obtain ⟨u, hu⟩ := hQ _ _ (hf' 0 (by omega))
    have hs := World.cell?_spot hu
    obtain ⟨b, o, s⟩ := x
    have hs : s = none := by simpa [Addr.add] using hs
    subst hs
    exact ⟨b, o, rfl, by simpa using hf' i (by omega)⟩

theorem cells67 : Try.prog.cellsOf 67 = 3 := by kernel_rfl
theorem cells51 : Try.prog.cellsOf 51 = 4 := by kernel_rfl
theorem cells48 : Try.prog.cellsOf 48 = 3 := by kernel_rfl
theorem cells44 : Try.prog.cellsOf 44 = 1 := by kernel_rfl
theorem cells45 : Try.prog.cellsOf 45 = 1 := by kernel_rfl
theorem cells46 : Try.prog.cellsOf 46 = 1 := by kernel_rfl
theorem cells2 : Try.prog.cellsOf 2 = 1 := by kernel_rfl
theorem cells3 : Try.prog.cellsOf 3 = 1 := by kernel_rfl
theorem cells4 : Try.prog.cellsOf 4 = 1 := by kernel_rfl
theorem cells9 : Try.prog.cellsOf 9 = 1 := by kernel_rfl
theorem cells21 : Try.prog.cellsOf 21 = 1 := by kernel_rfl
theorem cells63 : Try.prog.cellsOf 63 = 1 := by kernel_rfl

theorem rowsIn {H : Type} {enc : TypeId × Value → H} {W : World} {fuel : Nat} {v : Value} {x : DataW H × List MemPlace}
    (hf : DataW.trod enc Try.prog W 0 (fun _ => true) true fuel 44 [v] = some x) :
    ∃ (a : Option Addr) (cap : Nat) (l : List R3), v = .slice a l.length cap ∧ l.length ≤ maxLen ∧ R3s W a l := by
  have hI : Inhabited R3 := ⟨⟨0, 0, 0⟩⟩
  obtain ⟨a, cap, l, h1, h2, _, h3⟩ := sliceIn Try.underlying44 3 cells67 (fun a (q : R3) => W.cell? (a.add 0) = some (.int .i32 q.mo) ∧ W.cell? (a.add 1) = some (.int .u32 q.li) ∧ W.cell? (a.add 2) = some (.int .i64 q.ho)) (fun a q h => ⟨_, h.1⟩) (fun {n a cs y} hc hf => by
    obtain ⟨y0, y1, y2, n, rfl, hl, h0, h1, h2⟩ := Go.Deep.trod_struct3 Try.underlying67 hf
    obtain ⟨_, _, hcell⟩ := World.cells?_some hc
    rw [cells67] at hl
    simp only [cells2, cells21, cells63] at h0 h1 h2
    match cs, hl with
    | [c0, c1, c2], _ =>
      obtain ⟨m, e0, _, _⟩ := DataW.trod_int Try.underlying21 h0
      obtain ⟨h, e1, _, _⟩ := DataW.trod_int Try.underlying63 h1
      obtain ⟨r, e2, _, _⟩ := DataW.trod_int Try.underlying2 h2
      simp at e0 e1 e2
      refine ⟨⟨m, h, r⟩, ?_, ?_, ?_⟩
      · rw [hcell 0 (by omega)]; simp [e0]
      · rw [hcell 1 (by omega)]; simp [e1]
      · rw [hcell 2 (by omega)]; simp [e2]) hf
  refine ⟨a, cap, l, h1, h2, fun i hi => ?_⟩
  obtain ⟨b, o, e, h⟩ := h3 i hi
  exact ⟨b, o, e, by simpa [Addr.add_lit] using h⟩

theorem ratesIn {H : Type} {enc : TypeId × Value → H} {W : World} {fuel : Nat} {v : Value} {x : DataW H × List MemPlace}
    (hf : DataW.trod enc Try.prog W 0 (fun _ => true) true fuel 45 [v] = some x) :
    ∃ (a : Option Addr) (cap : Nat) (l : List Int), v = .slice a l.length cap ∧ l.length ≤ maxLen ∧ (a = none → l = [] ∧ cap = 0) ∧ RIs W a l := by
  obtain ⟨a, cap, l, h1, h2, hn, h3⟩ := sliceIn Try.underlying45 1 cells2 (fun a (q : Int) => W.cell? (a.add 0) = some (.int .i64 q)) (fun a q h => ⟨_, h⟩) (fun {n a cs y} hc hf => by
    obtain ⟨r, e2, _, _⟩ := DataW.trod_int Try.underlying2 hf
    obtain ⟨_, _, hcell⟩ := World.cells?_some hc
    subst e2
    exact ⟨r, by rw [hcell 0 (by omega)]; simp⟩) hf
  refine ⟨a, cap, l, h1, h2, hn, fun i hi => ?_⟩
  obtain ⟨b, o, e, h⟩ := h3 i hi
  exact ⟨b, o, e, by simpa [Addr.add_lit] using h⟩

theorem runsIn {H : Type} {enc : TypeId × Value → H} {W : World} {fuel : Nat} {v : Value} {x : DataW H × List MemPlace}
    (hf : DataW.trod enc Try.prog W 0 (fun _ => true) true fuel 46 [v] = some x) :
    ∃ (a : Option Addr) (cap : Nat) (l : List K4), v = .slice a l.length cap ∧ l.length ≤ maxLen ∧ K4s W a l ∧ ∀ r ∈ l, r.mem.size ≤ maxLen := by
  have hI : Inhabited K4 := ⟨⟨ByteArray.empty, 0, false, 0⟩⟩
  obtain ⟨a, cap, l, h1, h2, _, h3⟩ := sliceIn Try.underlying46 4 cells51 (fun a (q : K4) => W.cell? (a.add 0) = some (.string q.mem) ∧ W.cell? (a.add 1) = some (.int .i64 q.born) ∧ W.cell? (a.add 2) = some (.bool q.lst) ∧ W.cell? (a.add 3) = some (.int .i64 q.en) ∧ q.mem.size ≤ maxLen) (fun a q h => ⟨_, h.1⟩) (fun {n a cs y} hc hf => by
    obtain ⟨y0, y1, y2, y3, n, rfl, hl, h0, h1, h2, h3⟩ := Go.Joins.trod_struct4 Try.underlying51 hf
    obtain ⟨_, _, hcell⟩ := World.cells?_some hc
    rw [cells51] at hl
    simp only [cells9, cells3, cells4] at h0 h1 h2 h3
    match cs, hl with
    | [c0, c1, c2, c3], _ =>
      obtain ⟨m, e0, _, hm⟩ := DataW.trod_string Try.underlying9 h0
      obtain ⟨h, e1, _, _⟩ := DataW.trod_int Try.underlying3 h1
      obtain ⟨r, e2, _⟩ := DataW.trod_bool Try.underlying4 h2
      obtain ⟨l, e3, _, _⟩ := DataW.trod_int Try.underlying3 h3
      simp at e0 e1 e2 e3
      refine ⟨⟨m, h, r, l⟩, ?_, ?_, ?_, ?_, hm⟩
      · rw [hcell 0 (by omega)]; simp [e0]
      · rw [hcell 1 (by omega)]; simp [e1]
      · rw [hcell 2 (by omega)]; simp [e2]
      · rw [hcell 3 (by omega)]; simp [e3]) hf
  refine ⟨a, cap, l, h1, h2, fun i hi => ?_, fun r hr => ?_⟩
  · obtain ⟨b, o, e, k0, k1, k2, k3, _⟩ := h3 i hi
    exact ⟨b, o, e, by simpa [Addr.add_lit] using k0, by simpa [Addr.add_lit] using k1, by simpa [Addr.add_lit] using k2, by simpa [Addr.add_lit] using k3⟩
  · obtain ⟨i, hi, rfl⟩ := List.getElem_of_mem hr
    obtain ⟨b, o, e, k0, k1, k2, k3, k4⟩ := h3 i hi
    exact k4

theorem partsOf {H : Type} {enc : TypeId × Value → H} {W : World} {a : Option Addr} {len cap : Nat} {d : DataW H} {p : List MemPlace}
    (h : DataW.Trod enc Try.prog W 0 (fun _ => true) true 36 (.slice a len cap) d p) : ∃ ps : List KP, ps.length = len ∧ len ≤ maxLen ∧ KPs W a ps ∧ ∀ p ∈ ps, p.ok := by
  obtain ⟨fuel, hf⟩ := h
  have hI : Inhabited KP := ⟨⟨none, 0, [], none, 0, [], none, 0, []⟩⟩
  obtain ⟨a', cap', l, h1, h2, _, h3⟩ := sliceIn (enc := enc) (v := .slice a len cap) Try.underlying36 3 cells48 (fun a (q : KP) => W.cell? (a.add 0) = some (.slice q.ra q.rows.length q.rc) ∧ W.cell? (a.add 1) = some (.slice q.ta q.rates.length q.tc) ∧ W.cell? (a.add 2) = some (.slice q.ua q.runs.length q.uc) ∧ q.reads W ∧ q.ok) (fun a q h => ⟨_, h.1⟩) (fun {n a cs y} hc hf => by
    obtain ⟨y0, y1, y2, n, rfl, hl, h0, h1, h2⟩ := Go.Deep.trod_struct3 Try.underlying48 hf
    obtain ⟨_, _, hcell⟩ := World.cells?_some hc
    rw [cells48] at hl
    simp only [cells44, cells45, cells46] at h0 h1 h2
    match cs, hl with
    | [c0, c1, c2], _ =>
      simp at h0 h1 h2
      obtain ⟨ra, rc, rows, rfl, hrl, hrs⟩ := rowsIn h0
      obtain ⟨ta, tc, rates, rfl, htl, htn, hts⟩ := ratesIn h1
      obtain ⟨ua, uc, runs, rfl, hul, hus, hum⟩ := runsIn h2
      refine ⟨⟨ra, rc, rows, ta, tc, rates, ua, uc, runs⟩, ?_, ?_, ?_, ⟨hrs, hts, hus⟩, hrl, htl, hul, htn, hum⟩
      · rw [hcell 0 (by omega)]; simp
      · rw [hcell 1 (by omega)]; simp
      · rw [hcell 2 (by omega)]; simp) (by simpa [Value.cells] using hf)
  simp at h1
  obtain ⟨rfl, rfl, rfl⟩ := h1
  refine ⟨l, rfl, h2, fun i hi => ?_, fun r hr => ?_⟩
  · obtain ⟨b, o, e, k0, k1, k2, k3, _⟩ := h3 i hi
    exact ⟨⟨b, o, e, by simpa [Addr.add_lit] using k0, by simpa [Addr.add_lit] using k1, by simpa [Addr.add_lit] using k2⟩, k3⟩
  · obtain ⟨i, hi, rfl⟩ := List.getElem_of_mem hr
    obtain ⟨b, o, e, k0, k1, k2, k3, k4⟩ := h3 i hi
    exact k4

set_option maxRecDepth 100000 in
theorem lifted (os : Os) (started : os.Started) (H : Type) (enc : TypeId × Value → H) :
    ReturnsInHanded {} Try.checked os 5 .any (Rows.fnKeepGathersEachMembersRowsInFileOrderSpec.pre6 enc Try.prog Try.f5 Rows.fnKeepGathersEachMembersRowsInFileOrderRow.domain false) (Rows.fnKeepGathersEachMembersRowsInFileOrderSpec.post enc Try.prog Try.f5 false true false false) := by
  refine returnsInHanded_of_change (C := Try.checked) own started (by kernel_rfl) Try.func5
    (ChangeSpec.witness6 (enc := enc) (C := Try.checked) false ⟨#[], #[.slice none 0 0], []⟩ 8 (by kernel_rfl) (by kernel_rfl) (by kernel_rfl) (by kernel_rfl)) ?_
  intro W base args ds gs before hval0 hW hcnd _
  have hval : ∀ (j : Nat) t v, Try.f5.params[j]? = some t → args[j]? = some v → Value.okWide Try.prog W .any base t v := hval0
  have hW' := hW
  obtain ⟨p, q, hA0, hV, rfl, hfz, hnd⟩ := hW
  have hA : DataW.TrodAll enc Try.prog W 0 (fun _ => true) true Try.f5.params.toList args.toList ds p := hA0
  rw [Try.params5] at hA hval
  obtain ⟨v0, vs0, d0, ds0, p0, q0, hargs, rfl, rfl, h0, r0⟩ := trodAll_cons hA
  obtain ⟨rfl, rfl, rfl⟩ := trodAll_nil r0
  obtain rfl : args = #[v0] := by cases args; simp_all
  obtain ⟨rfl, rfl⟩ := trodVars_none hV
  obtain ⟨a0, len0, cap0, rfl⟩ := okWide_slice Try.underlying36 (hval 0 36 v0 rfl rfl)
  have k0 := h0
  have lt0 : ∀ x ∈ p0, x.block < W.heap.size := by obtain ⟨m, hm⟩ := k0; exact DataW.trod_lt m _ _ _ hm
  obtain ⟨l, n0, m0, e0, e1⟩ := partsOf h0
  clear hA0 hval0
  refine (kp_walk a0 len0 cap0 l W n0 m0 e0 e1).mono fun e W' ⟨he, bel⟩ => ?_
  subst he
  exact ⟨_, rfl, _, _, _, [], _, [], hW', trodAll_mk1 (shut_bool Try.underlying4 _), (trodAll_cons_mk (Below.trod laidOut (by kernel_rfl) (of_decide_eq_true (by kernel_rfl)) k0 bel lt0) trodAll_mk0), rfl, bel.frame _, fun h => by cases h⟩

theorem over : Rows.fnKeepGathersEachMembersRowsInFileOrderRow.holds Try.pinned (OpenSpec.ofChange Rows.fnKeepGathersEachMembersRowsInFileOrderSpec) :=
  OpenClaim.holds_of_wide 5 Try.f5 rfl rfl rfl rfl rfl rfl rfl ⟨rfl, rfl, rfl, rfl, rfl⟩ rfl rfl rfl rfl rfl (by kernel_rfl) Try.func5 (by kernel_rfl)
    (of_decide_eq_true (by kernel_rfl)) (by unfold Func.isWrapper; first | (rw [if_pos (by decide +kernel)]; kernel_rfl) | (rw [if_neg (by decide +kernel)]; exact ⟨rfl, rfl⟩))
    (fun os started H enc _ => lifted os started H enc)

theorem proved : Rows.FnKeepGathersEachMembersRowsInFileOrderSaid := over
end Go.Proofs.Qxb6000140a.fnKeepGathersEachMembersRowsInFileOrder
