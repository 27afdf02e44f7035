/-
  A slice of strings that can be read; the law's bounds on it; slices.Contains.
-/
import Derived.Test.Qxb6000994aProg
import Derived.Test.Qxb6000994aLib
import Derived.Test.Qxb6000994aMp
import Derived.Test.Qxb6000994aQt
import Derived.BigQuiet
import Derived.Deep.QuietTactic
import Derived.Deep.RegionWith
import Derived.WalkSmall
import Derived.Laws.Cover3
namespace Go.Proofs.Qxb6000994a
open Go.RowKit

theorem hid {p : Prop} (h : p) : Hid p := h

/-- A Boolean comes back; where it is true, p. -/
def BoolThen (e : Ending) (p : Prop) : Prop := ∃ b, e = .returned (.bool b) ∧ (b = true → p)

/-- A block of the call's own that holds these cells. -/
def Box (w : World) (b : Nat) (cs : Array Value) (t : TypeId) : Prop := w.heap[b]? = some (.cells cs t (0, 0))
theorem Box.cell {w : World} {b : Nat} {cs : Array Value} {t : TypeId} (h : Box w b cs t) (i : Nat) : w.cell? ⟨b, i, none⟩ = cs[i]? := cell_of_row _ _ _ _ _ _ h
theorem Box.frozen {w : World} {b : Nat} {cs : Array Value} {t : TypeId} (h : Box w b cs t) (i : Nat) : w.frozen? ⟨b, i, none⟩ = false := by
  unfold Box at h
  simp [World.frozen?, h]
theorem Box.lt {w : World} {b : Nat} {cs : Array Value} {t : TypeId} (h : Box w b cs t) : b < w.heap.size := (Array.getElem?_eq_some_iff.1 h).1
theorem Box.of_heap {w w' : World} {b : Nat} {cs : Array Value} {t : TypeId} (h : Box w b cs t) (e : w'.heap[b]? = w.heap[b]?) : Box w' b cs t := e.trans h
theorem Box.later {w w' : World} {b : Nat} {cs : Array Value} {t : TypeId} (h : Box w b cs t) (hb : Below w.heap.size w w') : Box w' b cs t := h.of_heap (hb.block b h.lt)
theorem Box.set {w : World} {b : Nat} {cs : Array Value} {t : TypeId} (h : Box w b cs t) (i : Nat) (u : Value) : Box (w.setCell ⟨b, i, none⟩ u) b (cs.setIfInBounds i u) t := by
  have hl := h.lt
  unfold Box at *
  simp [World.setCell, Array.getElem?_modify, h]
theorem box_new (w : World) (cs : Array Value) (t : TypeId) : Box (w.alloc (.cells cs t)) w.heap.size cs t := heap_alloc_new w _

/-- The strings ss lie at a. -/
def RS (w : World) (a : Option Addr) (ss : List ByteArray) : Prop := ∀ i (_ : i < ss.length), ∃ b o, a = some ⟨b, o, none⟩ ∧ w.cell? ⟨b, o + i, none⟩ = some (.string ss[i])
theorem RS.later {w w' : World} {a : Option Addr} {ss : List ByteArray} (h : RS w a ss) (hb : Below w.heap.size w w') : RS w' a ss := fun i hi => by
  obtain ⟨b, o, e, hc⟩ := h i hi
  exact ⟨b, o, e, cell_later hb hc⟩

def BigPost (e : Ending) (n : Nat) : Prop := ∃ b, e = .returned (.bool b) ∧ (b = false → n ≤ 4096)
def IdxPost (e : Ending) (s : ByteArray) (ss : List ByteArray) : Prop := ∃ k : Int, e = .returned (.int .i64 k) ∧ (0 ≤ k ↔ s ∈ ss)
theorem beq_false {s t : ByteArray} (h : ¬ s = t) : (s.toList == t.toList) = false := by
  simp [ByteArray.toList_eq]
  exact fun e => h (ByteArray.ext e)

theorem bytes_any (a : Option Addr) (n cap : Nat) (ss : List ByteArray) (w : World) (hl : ss.length = n) (hn : n ≤ maxLen) (hr : RS w a ss) (hk : ∀ s ∈ ss, s.size ≤ 9223372036854775807) :
    Calls Try.prog 5 #[.slice a n cap] w fun e w' => w = w' ∧ BoolThen e (∀ s ∈ ss, s.size ≤ 1048576) := by
  unfold maxLen at hn
  have H : Hid (∀ k, k < n → ∃ b o S, a = some ⟨b, o, none⟩ ∧ S.size ≤ 9223372036854775807 ∧ w.cell? ⟨b, o + k, none⟩ = some (.string S) ∧ Hid (ss[k]? = some S)) := fun k hk' => by
    have hkl : k < ss.length := by omega
    obtain ⟨b, o, ha, hc⟩ := hr k hkl
    exact ⟨b, o, _, ha, hk _ (List.getElem_mem hkl), hc, List.getElem?_eq_getElem hkl⟩
  have L := hid hl
  clear hl hr hk
  go_enter Try.func5, Try.ntmps5
  go_wp2
  any_goals (go_ret; exact ⟨rfl, _, rfl, fun h => by cases h⟩)
  go_loop [3, 4] (fun v i => ∃ (k : Nat) (t : Int), k ≤ n ∧ i = .int .i64 k ∧ v = .int .i64 t ∧ 0 ≤ t ∧ t ≤ 1048576 ∧ Hid (∀ j S, j < k → ss[j]? = some S → S.size ≤ 1048576)) (fun _ i => n - (intOf i).toNat)
  case atStart => exact ⟨0, _, Nat.zero_le _, rfl, rfl, by omega, by omega, fun j S hj => by omega⟩
  case round =>
    obtain ⟨k, t, hk, rfl, rfl, ht0, ht1, HS⟩ := hrel
    by_cases hlt : k < n
    · obtain ⟨b, o, S, ha, hS, hc, hSk⟩ := H.out k hlt
      clear H
      subst ha
      go_wp2
      any_goals (go_ret; exact ⟨rfl, _, rfl, fun h => by cases h⟩)
      go_round
      case rel => exact ⟨k + 1, t + S.size, by omega, by go_num, rfl, by omega, by omega, fun j U hj hU => by
        by_cases e : j = k
        · rw [e, hSk.out] at hU
          obtain rfl := Option.some.inj hU
          omega
        · exact HS.out j U (by omega) hU⟩
      case measure => simp [intOf]; omega
    · go_wp2
      go_ret
      refine ⟨rfl, _, rfl, fun _ s hs => ?_⟩
      obtain ⟨j, hj⟩ := List.mem_iff_getElem?.1 hs
      have hjl : j < ss.length := (List.getElem?_eq_some_iff.1 hj).1
      exact HS.out j s (by have := L.out; omega) hj

/-- keysTooBig answers; where it answers false, there are at most 4096 keys. -/
theorem tooBig_any (a : Option Addr) (n cap : Nat) (ss : List ByteArray) (w : World) (hl : ss.length = n) (hn : n ≤ maxLen) (hr : RS w a ss) (hk : ∀ s ∈ ss, s.size ≤ 1048576) :
    Calls Try.prog 6 #[.slice a n cap, .int .i64 4096] w fun e w' => w = w' ∧ BigPost e n := by
  unfold maxLen at hn
  have H : Hid (∀ k, k < n → ∃ b o S, a = some ⟨b, o, none⟩ ∧ S.size ≤ 1048576 ∧ w.cell? ⟨b, o + k, none⟩ = some (.string S)) := fun k hk' => by
    have hkl : k < ss.length := by omega
    obtain ⟨b, o, ha, hc⟩ := hr k hkl
    exact ⟨b, o, _, ha, hk _ (List.getElem_mem hkl), hc⟩
  clear hl hr hk
  by_cases hb : n ≤ 4096
  · have HB := hid hb
    have d0 : decide ((4096 : Int) < (n : Int)) = false := by simp; omega
    go_enter Try.func6, Try.ntmps6
    go_wp2
    go_loop [5, 17] (fun v i => ∃ (k : Nat) (t : Int), k ≤ n ∧ i = .int .i64 k ∧ v = .int .i64 t ∧ 0 ≤ t ∧ t ≤ 1048576) (fun _ i => n - (intOf i).toNat)
    case atStart => exact ⟨0, _, Nat.zero_le _, rfl, rfl, by omega, by omega⟩
    case round =>
      obtain ⟨k, t, hk, rfl, rfl, ht0, ht1⟩ := hrel
      by_cases hlt : k < n
      · obtain ⟨b, o, S, ha, hS, hc⟩ := H.out k hlt
        clear H
        subst ha
        go_wp2
        any_goals (go_ret; exact ⟨rfl, _, rfl, fun _ => HB.out⟩)
        go_round
        case rel => exact ⟨k + 1, t + S.size, by omega, by go_num, rfl, by omega, by omega⟩
        case measure => simp [intOf]; omega
      · go_wp2
        go_ret
        exact ⟨rfl, _, rfl, fun _ => HB.out⟩
  · have d0 : decide ((4096 : Int) < (n : Int)) = true := by simp; omega
    go_enter Try.func6, Try.ntmps6
    go_wp2
    go_ret
    exact ⟨rfl, _, rfl, fun h => by cases h⟩

theorem index_any (a : Option Addr) (n cap : Nat) (ss : List ByteArray) (s : ByteArray) (w : World) (hl : ss.length = n) (hn : n ≤ 4096) (hr : RS w a ss) :
    Calls Try.prog 13 #[.slice a n cap, .string s] w fun e w' => w = w' ∧ IdxPost e s ss := by
  have H : Hid (∀ k, k < n → ∃ b o S, a = some ⟨b, o, none⟩ ∧ w.cell? ⟨b, o + k, none⟩ = some (.string S) ∧ Hid (ss[k]? = some S)) := fun k hk' => by
    have hkl : k < ss.length := by omega
    obtain ⟨b, o, ha, hc⟩ := hr k hkl
    exact ⟨b, o, _, ha, hc, List.getElem?_eq_getElem hkl⟩
  have L := hid hl
  clear hl hr
  go_enter Try.func13, Try.ntmps13
  go_wp2
  go_loop [8] (fun i => ∃ k : Nat, k ≤ n ∧ i = .int .i64 k ∧ Hid (∀ j, j < k → ss[j]? ≠ some s)) (fun i => n - (intOf i).toNat)
  case atStart => exact ⟨0, Nat.zero_le _, rfl, fun j hj => by omega⟩
  case round =>
    obtain ⟨k, hk, rfl, HN⟩ := hrel
    by_cases hlt : k < n
    · obtain ⟨b, o, S, ha, hc, hS⟩ := H.out k hlt
      have ik : (k : Int) < (n : Int) := by omega
      clear H
      subst ha
      by_cases hs : s = S
      · subst hs
        go_wp2
        go_ret
        exact ⟨rfl, _, rfl, ⟨fun _ => List.mem_of_getElem? hS.out, fun _ => by omega⟩⟩
      · have hs' := beq_false hs
        go_wp2
        go_round
        case rel => exact ⟨k + 1, by omega, by go_num, fun j hj => by
          by_cases e : j = k
          · rw [e, hS.out]; intro e2; exact hs (Option.some.inj e2).symm
          · exact HN.out j (by omega)⟩
        case measure => simp [intOf]; omega
    · go_wp2
      go_ret
      refine ⟨rfl, _, rfl, ⟨fun h => by omega, fun h => ?_⟩⟩
      obtain ⟨j, hj⟩ := List.mem_iff_getElem?.1 h
      have hjl : j < ss.length := (List.getElem?_eq_some_iff.1 hj).1
      exact absurd hj (HN.out j (by have := L.out; omega))

open Classical in
theorem contains_any (a : Option Addr) (n cap : Nat) (ss : List ByteArray) (s : ByteArray) (w : World) (hl : ss.length = n) (hn : n ≤ 4096) (hr : RS w a ss) :
    Calls Try.prog 12 #[.slice a n cap, .string s] w fun e w' => e = .returned (.bool (decide (s ∈ ss))) ∧ w = w' := by
  have H := hid (index_any a n cap ss s w hl hn hr)
  clear hl hr
  go_enter Try.func12, Try.ntmps12
  go_wp2_with fail
  refine Calls.mono H.out ?_
  rintro e w' ⟨rfl, k, rfl, hk⟩
  by_cases h : s ∈ ss
  · have h0 := hk.2 h
    clear hk
    go_wp2
    go_ret
    exact ⟨by simp [h], rfl⟩
  · have h0 : ¬ 0 ≤ k := fun h0 => h (hk.1 h0)
    clear hk
    go_wp2
    go_ret
    exact ⟨by simp [h]; omega, rfl⟩

end Go.Proofs.Qxb6000994a
