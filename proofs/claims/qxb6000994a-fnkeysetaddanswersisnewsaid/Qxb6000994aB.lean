/-
  cloneKeys; ZZNewKeySet; what a keySet is.
-/
import Derived.Test.Qxb6000994aA
import Derived.Laws.CopyOwn
namespace Go.Proofs.Qxb6000994a
open Go.RowKit

theorem info_parts {P : Program} {t : TypeId} {z : Value} {s b : Nat} (h : (P.info? t).map (fun i => (i.zero, i.size, i.bytes)) = some (some z, s, b)) : ∃ i, P.info? t = some i ∧ i.zero = some z ∧ i.size = s ∧ i.bytes = b := by
  cases hi : P.info? t with
  | none => rw [hi] at h; simp at h
  | some i =>
    rw [hi] at h
    simp at h
    exact ⟨i, rfl, h.1, h.2.1, h.2.2⟩

theorem Try.info9 : (Try.prog.info? 9).map (fun i => (i.zero, i.size, i.bytes)) = some (some (.string ByteArray.empty), 1, 16) := by kernel_rfl

theorem eql22 (w : World) (a : Option Addr) (l c : Nat) : (binOp .eql 22 (.slice a l c) (.slice none 0 0)).run Try.prog w = .ok (.bool a.isNone) w := by
  simp only [binOp]
  simp [run_equal_slice_nil w 22 9 a l c Try.underlying22]
theorem eql30 (w : World) (m : Option Nat) : (binOp .eql 30 (.map m) (.map none)).run Try.prog w = .ok (.bool m.isNone) w := by
  simp only [binOp]
  simp [run_equal_map_nil w 30 _ _ m Try.underlying30]

theorem own_cells {w : World} {base : Nat} {e : TypeId} {g n : Nat} {xs : List Value} (h : w.ownsRow base e 1 (.slice (some ⟨g, 0, none⟩) n n) n xs) : ∃ cur : Array Value, Hid (w.heap[g]? = some (.cells cur e (0, 0))) ∧ Hid (cur.size = n) := by
  rcases h.2 with ⟨h, _⟩ | ⟨g', cp, cur, hv, _, hh, _, _, hcs, _⟩
  · cases h
  · obtain ⟨rfl, rfl⟩ : g = g' ∧ n = cp := by simpa using hv
    exact ⟨cur, hh, by simpa [Hid] using hcs⟩

theorem RS.src {w w1 : World} {ad : Addr} {ss : List ByteArray} (h : RS w (some ad) ss) (hb : Below w.heap.size w w1) (j : Nat) (v : Value) (hj : (ss.map Value.string)[j]? = some v) : w1.cell? (ad.add j) = some v := by
  have hjl : j < ss.length := by
    have := (List.getElem?_eq_some_iff.1 hj).1
    simpa using this
  obtain ⟨b, o, e, hc⟩ := h j hjl
  obtain rfl := Option.some.inj e
  rw [List.getElem?_map, List.getElem?_eq_getElem hjl] at hj
  obtain rfl := Option.some.inj hj
  rw [Addr.add_lit]
  exact cell_later hb hc

/-- What cloneKeys leaves. -/
def ClonePost (w : World) (n : Nat) (ss : List ByteArray) (e : Ending) (w' : World) : Prop := ∃ a' cap', e = .returned (.slice a' n cap') ∧ RS w' a' ss ∧ Below w.heap.size w w'

theorem clone_any (a : Option Addr) (n cap : Nat) (ss : List ByteArray) (w : World) (hl : ss.length = n) (hn : n ≤ 4096) (hr : RS w a ss) :
    Calls Try.prog 7 #[.slice a n cap] w (ClonePost w n ss) := by
  cases a with
  | none =>
    have h0 : n = 0 := by
      by_cases h : 0 < n
      · obtain ⟨b, o, e, _⟩ := hr 0 (by omega)
        cases e
      · omega
    subst h0
    obtain rfl : ss = [] := List.eq_nil_of_length_eq_zero hl
    clear hl hr
    have q := eql22
    go_enter Try.func7, Try.ntmps7
    go_wp2
    go_ret
    exact ⟨_, _, rfl, fun i hi => by simp at hi, Below.refl _ _⟩
  | some ad =>
    obtain ⟨i0, hi, hz0, hz1, hz2⟩ := info_parts Try.info9
    have HR := hid hr
    have L := hid hl
    clear hr hl
    have hsz : (Try.prog.info? 9).map (·.size) = some 1 := by rw [hi]; simp [hz1]
    have q := eql22
    go_enter Try.func7, Try.ntmps7
    go_wp2_with (first
      | (at_make; refine wpList_make_full _ rfl _ _ 22 rfl w.heap.size 9 i0 _ 1 Try.underlying22 hi hz0 hz1 .i64 .i64 _ _ n rfl rfl rfl rfl (by rw [hz2]; omega) (by unfold maxLen; omega) (Nat.le_refl _) ?_; intro w1 hown hgrow; have HO := hid hown; have HB1 : Hid (Below w.heap.size w w1) := (Below.refl _ _).grown hgrow (Nat.le_refl _) (by simp); obtain ⟨cur, hcur, hcs⟩ := own_cells hown; clear hown hgrow)
      | (refine wpList_copy_splice rfl _ _ 22 22 rfl 9 Try.underlying22 hsz _ _ _ _ _ _ rfl rfl w.heap.size 0 cur.toList 9 (by simpa using hcur.out) (ss.map Value.string) (by rw [List.length_map, L.out]; exact (Nat.min_self n).symm) (fun h0 => ⟨rfl, ad, rfl, HR.out.src HB1.out⟩) (by simp; have h1 := L.out; have h2 := hcs.out; omega) (by simp [Value.oneCell']) w.heap.size w HB1.out (Nat.le_refl _) ?_; intro w2 HG2 hb2)
      | fail)
    go_ret
    refine ⟨_, _, rfl, fun i hi' => ⟨w.heap.size, 0, rfl, ?_⟩, hb2⟩
    rw [cell_of_row _ _ _ _ _ _ HG2.out]
    have hl2 : (ss.map Value.string).length = cur.toList.length := by simp; rw [L.out, hcs.out]
    have e1 : splice cur.toList 0 (ss.map Value.string) = ss.map Value.string := by
      unfold splice
      simp only [List.take_zero, List.nil_append, Nat.zero_add]
      rw [hl2, List.drop_length, List.append_nil]
    rw [e1]
    simp [hi']

end Go.Proofs.Qxb6000994a
