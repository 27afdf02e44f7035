/-
  The law on keep: what one span's checks look at.
-/
import Derived.Test.Qxb6000140aKQ
namespace Go.Proofs.Qxb6000140a
open Go.RowKit

theorem quiet_eq {P : Program} {f : FuncId} {args : Array Value} {w : World} {n : Nat} {v : Value} (h : Calls P f args (w.drewN n) fun e w' => e = .returned v ∧ w.drewN n = w') : Calls P f args (w.drewN n) fun e w'' => e = .returned v ∧ ∃ m, w'' = w.drewN m :=
  Calls.quiet_of_same (h.mono fun _ _ ⟨a, b⟩ => ⟨a, b.symm⟩)

theorem below_drewN {B : Nat} {w w' : World} (h : Below B w w') (n : Nat) : Below B w (w'.drewN n) := ⟨h.os, h.tape, h.output, h.size, h.block⟩

/-- Span k of the member at place j: the rows fr .. fr + nk of the part p at place pt. -/
structure L6 (w : World) (g0 gs gw j k : Nat) (KS : List Key) (p : KP) (pt fr nk g1 c1 g3 c3 : Nat) (x : Addr) (y : Option Addr) (ym : Nat) : Prop where
  s : w.cell? ⟨gs, j, none⟩ = some (.slice (some ⟨g1, 0, none⟩) KS.length c1)
  s0 : w.cell? ⟨g1, k * 2, none⟩ = some (.int .i64 (pt : Int))
  s1 : w.cell? ⟨g1, k * 2 + 1, none⟩ = some (.int .i64 (nk : Int))
  t : w.cell? ⟨g0, j, none⟩ = some (.slice (some ⟨g3, 0, none⟩) KS.length c3)
  t0 : w.cell? ⟨g3, k * 2, none⟩ = some (.slice (some x) nk nk)
  t1 : w.cell? ⟨g3, k * 2 + 1, none⟩ = some (.slice y ym ym)
  ys : y.isSome = p.ta.isSome
  yl : p.ta.isSome = true → ym = nk
  off : off KS (k + 1) = off KS k + nk
  le : fr + nk ≤ p.rows.length
  rw : ∀ i, i < nk → ∃ rb, x = ⟨rb, fr * 3, none⟩ ∧ ∃ h : fr + i < p.rows.length, w.cell? ⟨rb, fr * 3 + i * 3, none⟩ = some (.int .i32 p.rows[fr + i].mo) ∧ w.cell? ⟨rb, fr * 3 + i * 3 + 1, none⟩ = some (.int .u32 p.rows[fr + i].li) ∧ w.cell? ⟨rb, fr * 3 + i * 3 + 2, none⟩ = some (.int .i64 p.rows[fr + i].ho)
  rt : ∀ i, i < nk → p.ta.isSome = true → ∃ tb, y = some ⟨tb, fr, none⟩ ∧ ∃ h : fr + i < p.rates.length, w.cell? ⟨tb, fr + i, none⟩ = some (.int .i64 p.rates[fr + i])
  wt : ∀ i, i < nk → Qxb6000140a.off KS k + i < (KS.flatMap Key.rows).length ∧ ∃ g c, w.cell? ⟨gw, j, none⟩ = some (.slice (some ⟨g, 0, none⟩) (KS.flatMap Key.rows).length c) ∧ w.cell? ⟨g, (Qxb6000140a.off KS k + i) * 2, none⟩ = some (.int .i64 (pt : Int)) ∧ w.cell? ⟨g, (Qxb6000140a.off KS k + i) * 2 + 1, none⟩ = some (.int .i64 ((fr + i : Nat) : Int))

theorem L6.later {w w' : World} {g0 gs gw j k : Nat} {KS : List Key} {p : KP} {pt fr nk g1 c1 g3 c3 : Nat} {x : Addr} {y : Option Addr} {ym : Nat} (h : L6 w g0 gs gw j k KS p pt fr nk g1 c1 g3 c3 x y ym) (hb : Below w.heap.size w w') : L6 w' g0 gs gw j k KS p pt fr nk g1 c1 g3 c3 x y ym where
  s := cell_later hb h.s
  s0 := cell_later hb h.s0
  s1 := cell_later hb h.s1
  t := cell_later hb h.t
  t0 := cell_later hb h.t0
  t1 := cell_later hb h.t1
  ys := h.ys
  yl := h.yl
  off := h.off
  le := h.le
  rw i hi := by
    obtain ⟨rb, e, hl, h0, h1, h2⟩ := h.rw i hi
    exact ⟨rb, e, hl, cell_later hb h0, cell_later hb h1, cell_later hb h2⟩
  rt i hi hs := by
    obtain ⟨tb, e, hl, h0⟩ := h.rt i hi hs
    exact ⟨tb, e, hl, cell_later hb h0⟩
  wt i hi := by
    obtain ⟨hl, g, c, h0, h1, h2⟩ := h.wt i hi
    exact ⟨hl, g, c, cell_later hb h0, cell_later hb h1, cell_later hb h2⟩

theorem JOk.l6 {w : World} {role : Nat → Nat} {ps : List KP} {g0 gs gw j k : Nat} {KS : List Key} (J : JOk w role ps g0 gs gw j KS) (hk : k < KS.length) :
    ∃ pt fr nk g1 c1 g3 c3 x y ym, ∃ h : pt < ps.length, L6 w g0 gs gw j k KS ps[pt] pt fr nk g1 c1 g3 c3 x y ym := by
  obtain ⟨⟨a1, c1, e1, h1⟩, ⟨a2, c2, e2, h2⟩, ⟨a3, c3, e3, h3⟩⟩ := J
  obtain ⟨g1, rfl, s0, s1⟩ := h1 k hk
  obtain ⟨g3, rfl, f, hf, t0, t1, so⟩ := h3 k hk
  obtain ⟨hp, hle, ⟨x, hx, hr⟩, ht⟩ := so
  have hoff := off_succ KS k hk
  have hfg := fun i hi => flat_get KS k i hk hi
  rw [← hf] at s0 s1 hoff
  simp only [← hf] at hfg
  rw [hx] at t0
  have hrw : ∀ i, i < f.n → ∃ rb, x = ⟨rb, f.fr * 3, none⟩ ∧ ∃ h : f.fr + i < ps[f.pt].rows.length, w.cell? ⟨rb, f.fr * 3 + i * 3, none⟩ = some (.int .i32 ps[f.pt].rows[f.fr + i].mo) ∧ w.cell? ⟨rb, f.fr * 3 + i * 3 + 1, none⟩ = some (.int .u32 ps[f.pt].rows[f.fr + i].li) ∧ w.cell? ⟨rb, f.fr * 3 + i * 3 + 2, none⟩ = some (.int .i64 ps[f.pt].rows[f.fr + i].ho) := fun i hi => by
    obtain ⟨rb, e, _, _, hR⟩ := hr (by omega)
    obtain ⟨b, o, eb, r0, r1, r2⟩ := hR (f.fr + i) (by omega)
    obtain ⟨rfl, rfl⟩ : rb = b ∧ 0 = o := by simpa using eb
    rw [Nat.zero_add, Nat.add_mul] at r0 r1 r2
    exact ⟨rb, e, by omega, r0, r1, r2⟩
  have hwt : ∀ i, i < f.n → off KS k + i < (KS.flatMap Key.rows).length ∧ ∃ g c, w.cell? ⟨gw, j, none⟩ = some (.slice (some ⟨g, 0, none⟩) (KS.flatMap Key.rows).length c) ∧ w.cell? ⟨g, (off KS k + i) * 2, none⟩ = some (.int .i64 (f.pt : Int)) ∧ w.cell? ⟨g, (off KS k + i) * 2 + 1, none⟩ = some (.int .i64 ((f.fr + i : Nat) : Int)) := fun i hi => by
    have e := hfg i hi
    obtain ⟨hl, e'⟩ := List.getElem?_eq_some_iff.1 e
    obtain ⟨g, rfl, y0, y1⟩ := h2 _ hl
    rw [e'] at y0 y1
    exact ⟨hl, g, c2, e2, y0, y1⟩
  rcases ht with ⟨ha, htv⟩ | ⟨ha, hlen, y, htv, hy⟩
  · rw [htv] at t1
    exact ⟨f.pt, f.fr, f.n, g1, c1, g3, c3, x, none, 0, hp, e1, s0, s1, e3, t0, t1, by rw [ha], fun h => by rw [ha] at h; simp at h, hoff, hle, hrw, fun i _ h => by rw [ha] at h; simp at h, hwt⟩
  · rw [htv] at t1
    have hs : ps[f.pt].ta.isSome = true := by
      cases h : ps[f.pt].ta with
      | none => exact absurd h ha
      | some _ => rfl
    refine ⟨f.pt, f.fr, f.n, g1, c1, g3, c3, x, some y, f.n, hp, e1, s0, s1, e3, t0, t1, by rw [hs]; rfl, fun _ => rfl, hoff, hle, hrw, fun i hi _ => ?_, hwt⟩
    obtain ⟨tb, e, _, _, hR⟩ := hy (by omega)
    obtain ⟨b, o, eb, r0⟩ := hR (f.fr + i) (by omega)
    obtain ⟨rfl, rfl⟩ : tb = b ∧ 0 = o := by simpa using eb
    rw [Nat.zero_add] at r0
    exact ⟨tb, by rw [e], by omega, r0⟩

end Go.Proofs.Qxb6000140a
