/-
  Slices that can be read, whatever their elements (one cell each); a slice of slices of strings.
-/
import Derived.Test.Qxb6000044aProg
import Derived.Test.Qxb6000044aLib
import Derived.BigQuiet
import Derived.Deep.QuietTactic
import Derived.WalkSmall
namespace Go.Proofs.Qxb6000044a
open Go.RowKit

theorem hid {p : Prop} (h : p) : Hid p := h

/-- The slice's address a leads to the cells vs. -/
def RV (w : World) (a : Option Addr) (vs : List Value) : Prop := (a = none → vs = []) ∧ ∀ x, a = some x → ∀ j u, vs[j]? = some u → w.cell? (x.add j) = some u

theorem RV.later {w w' : World} {a : Option Addr} {vs : List Value} (h : RV w a vs) (hb : Below w.heap.size w w') : RV w' a vs :=
  ⟨h.1, fun x hx j u hj => cell_later hb (h.2 x hx j u hj)⟩

theorem RV.lit {w : World} {a : Option Addr} {vs : List Value} (h : RV w a vs) (hl : 0 < vs.length) : ∃ b o, a = some ⟨b, o, none⟩ ∧ ∀ j u, vs[j]? = some u → w.cell? ⟨b, o + j, none⟩ = some u := by
  cases a with
  | none => have := h.1 rfl; rw [this] at hl; simp at hl
  | some x =>
    have h0 := h.2 x rfl 0 _ (List.getElem?_eq_getElem hl)
    obtain ⟨b, o, sp⟩ := x
    have hsp : sp = none := by simpa [Addr.add] using World.cell?_spot h0
    subst hsp
    exact ⟨b, o, rfl, fun j u hj => by rw [← Addr.add_lit]; exact h.2 _ rfl j u hj⟩

theorem RV.at {w : World} {a : Option Addr} {vs : List Value} (h : RV w a vs) {k : Nat} {u : Value} (hk : vs[k]? = some u) : ∃ b o, a = some ⟨b, o, none⟩ ∧ w.cell? ⟨b, o + k, none⟩ = some u := by
  obtain ⟨b, o, ha, hc⟩ := h.lit (by have := (List.getElem?_eq_some_iff.1 hk).1; omega)
  exact ⟨b, o, ha, hc k u hk⟩

theorem RV.into {w : World} {a : Option Addr} {vs : List Value} (h : RV w a vs) (base : Nat) (e : TypeId) : Into w base e 1 (.slice a vs.length vs.length) vs.length vs :=
  .inr ⟨by simp, a, rfl, fun e => by simp [h.1 e], h.2⟩

/-- What is owned can be read. -/
theorem rv_of_own {w : World} {base : Nat} {e : TypeId} {g n cap : Nat} {xs : List Value} (h : w.ownsRow base e 1 (.slice (some ⟨g, 0, none⟩) n cap) n xs) : RV w (some ⟨g, 0, none⟩) xs := by
  refine ⟨fun e => (by cases e), fun x hx j u hj => ?_⟩
  obtain rfl := Option.some.inj hx
  have hlt := (List.getElem?_eq_some_iff.1 hj).1
  rw [Addr.add_lit, Nat.zero_add, h.cellAt j (by have := h.1; omega), hj]

theorem rv_nil (w : World) : RV w none [] := ⟨fun _ => rfl, fun x hx => by cases hx⟩

/-- One row of a slice of slices of strings. -/
structure RowD where
  a : Option Addr
  cap : Nat
  ss : List ByteArray

def RowD.val (r : RowD) : Value := .slice r.a r.ss.length r.cap
def strsV (ss : List ByteArray) : List Value := ss.map Value.string

/-- A slice of slices of strings that can be read. -/
def RR (w : World) (a : Option Addr) (rows : List RowD) : Prop := RV w a (rows.map RowD.val) ∧ ∀ r ∈ rows, RV w r.a (strsV r.ss) ∧ (r.a = none → r.cap = 0)

theorem RR.later {w w' : World} {a : Option Addr} {rows : List RowD} (h : RR w a rows) (hb : Below w.heap.size w w') : RR w' a rows :=
  ⟨h.1.later hb, fun r hr => ⟨(h.2 r hr).1.later hb, (h.2 r hr).2⟩⟩

theorem RR.at {w : World} {a : Option Addr} {rows : List RowD} (h : RR w a rows) {k : Nat} (hk : k < rows.length) : ∃ b o, a = some ⟨b, o, none⟩ ∧ w.cell? ⟨b, o + k, none⟩ = some (rows[k]).val ∧ RV w rows[k].a (strsV rows[k].ss) ∧ (rows[k].a = none → rows[k].cap = 0) := by
  obtain ⟨b, o, ha, hc⟩ := h.1.at (k := k) (u := rows[k].val) (by simp [hk])
  exact ⟨b, o, ha, hc, h.2 _ (List.getElem_mem hk)⟩

theorem strsV_at {w : World} {a : Option Addr} {ss : List ByteArray} (h : RV w a (strsV ss)) {k : Nat} (hk : k < ss.length) : ∃ b o, a = some ⟨b, o, none⟩ ∧ w.cell? ⟨b, o + k, none⟩ = some (.string ss[k]) :=
  h.at (by simp [strsV, hk])

/-- A bool comes back; where it is true, F holds. -/
def BoolThen (e : Ending) (F : Prop) : Prop := ∃ b : Bool, e = .returned (.bool b) ∧ (b = true → F)
theorem bool_false {e : Ending} {F : Prop} (h : e = .returned (.bool false)) : BoolThen e F := ⟨false, h, fun h => by cases h⟩
theorem bool_true {e : Ending} {F : Prop} (h : e = .returned (.bool true)) (hF : F) : BoolThen e F := ⟨true, h, fun _ => hF⟩

end Go.Proofs.Qxb6000044a
