import Derived.Test.Qxb6000044aProg
import Derived.Test.Qxb6000044aLib
import Derived.BigQuiet
import Derived.Deep.QuietTactic
import Derived.WalkSmall
namespace Go.Proofs.Qxb6000044a
open Go.RowKit

theorem Try.info5 : (Try.prog.info? 5).map (fun i => (i.zero, i.size, i.bytes)) = some (some (.int .u8 0), 1, 1) := by kernel_rfl

/-- The slice value v owns the bytes ys, in a block from 'base' on. -/
def OB (w : World) (base : Nat) (v : Value) (ys : List Int) : Prop := w.ownsRow base 5 1 v ys.length (ys.map (Value.int .u8))
/-- What appendString may go onto. -/
def IB (w : World) (base : Nat) (v : Value) (ys : List Int) : Prop := Into w base 5 1 v ys.length (ys.map (Value.int .u8))

theorem OB.into {w : World} {base : Nat} {v : Value} {ys : List Int} (h : OB w base v ys) : IB w base v ys := Or.inl h

theorem OB.snoc {w : World} {base : Nat} {v : Value} {ys zs : List Int} {m : Nat} (hm : zs.length = m) (h : w.ownsRow base 5 1 v (ys.length + m) (ys.map (Value.int .u8) ++ zs.map (Value.int .u8))) : OB w base v (ys ++ zs) := by
  unfold OB
  rw [List.length_append, hm, List.map_append]
  exact h

/-- What is read out of an owned slice. -/
theorem OB.cell {w : World} {base g cap : Nat} {ys : List Int} (h : OB w base (.slice (some ⟨g, 0, none⟩) ys.length cap) ys) (j : Nat) (hj : j < ys.length) : w.cell? ⟨g, j, none⟩ = some (.int .u8 (ys.getD j 0)) := by
  rw [World.ownsRow.cellAt h j (by omega)]
  simp [List.getD, hj]

/-! cloneBytes -/
theorem clone_nil (w : World) : Calls Try.prog 9 #[.slice none 0 0] w fun e w' => e = .returned (.slice none 0 0) ∧ w' = w := by
  have hnil := fun w => Lib.run_eql_slice_nil (P := Try.prog) w 22 5 none 0 0 0 0 Try.underlying22
  go_enter Try.func9, Try.ntmps9
  go_wp2
  go_ret
  exact ⟨rfl, rfl⟩

set_option maxHeartbeats 400000 in
theorem clone_some (x : Addr) (len cap : Nat) (zs : List Int) (w : World) (hl : len ≤ 1048576) (hz : zs.length = len)
    (hc : ∀ i, i < len → w.cell? (x.add i) = some (.int .u8 (zs.getD i 0))) :
    Calls Try.prog 9 #[.slice (some x) len cap] w fun e w' => e = .returned (.slice (some ⟨w.heap.size, 0, none⟩) len len) ∧ OB w' w.heap.size (.slice (some ⟨w.heap.size, 0, none⟩) len len) zs ∧ Below w.heap.size w w' ∧ w.heap.size < w'.heap.size := by
  obtain ⟨i0, hi, hz0, hz1, hz2⟩ := info_parts Try.info5
  have hnil := fun w => Lib.run_eql_slice_nil (P := Try.prog) w 22 5 (some x) len cap 0 0 Try.underlying22
  go_enter Try.func9, Try.ntmps9
  go_wp2_with (at_make; refine wpList_make_full _ rfl _ _ 22 rfl w.heap.size 5 i0 (.int .u8 0) 1 Try.underlying22 hi hz0 hz1 .i64 .i64 _ _ len rfl rfl rfl rfl (by rw [hz2]; omega) (by unfold maxLen; omega) (Nat.le_refl _) ?_)
  intro w1 hown hgrow
  clear hi hz0 hz1 hz2 hnil
  have hb : Below w.heap.size w w1 := (Below.refl _ _).grown hgrow (Nat.le_refl _) (by simp)
  obtain ⟨Y, hY⟩ : ∃ Y, Y = zs.map (Value.int .u8) := ⟨_, rfl⟩
  have hYl : Y.length = len := by rw [hY]; simpa using hz
  have hYk : ∀ k (h : k < Y.length), Y[k] = .int .u8 (zs.getD k 0) := by intro k h; subst hY; simp at h; simp [h]
  go_wp2
  go_loopw [4] (fun i wr => ∃ k : Nat, k ≤ len ∧ i = .int .i64 k ∧ wr.ownsRow w.heap.size 5 1 (.slice (some ⟨w.heap.size, 0, none⟩) len len) len (Y.take k ++ List.replicate (len - k) (Value.int .u8 0)) ∧ Below w.heap.size w wr) (fun i _ => len - (intOf i).toNat)
  case atStart => exact ⟨0, Nat.zero_le _, rfl, by simpa [Value.cells, toList_madeCells_one] using hown, hb⟩
  case round =>
    obtain ⟨k, hk, rfl, ho, hbr⟩ := hrel
    clear hown hgrow hb
    by_cases hlt : k < len
    · have hcx : wr.cell? (x.add k) = some (.int .u8 (zs.getD k 0)) := by
        rw [hbr.cell (World.block_lt_of_cell? _ _ (hc k hlt))]; exact hc k hlt
      have hfz := ho.frozenAt k
      have hce : wr.cell? ⟨w.heap.size, k, none⟩ = some (.int .u8 0) := by rw [ho.cellAt k (by omega)]; exact fill_cell hYl hlt
      have hst := ho.stored k (.int .u8 (zs.getD k 0))
      rw [← hYk k (by omega), fill_step hYl hlt, hYk k (by omega)] at hst
      have R1 := hst.1
      have R2 : Below w.heap.size w (wr.setCell ⟨w.heap.size, k, none⟩ (.int .u8 (zs.getD k 0))) := hbr.setCell (Nat.le_refl _) _
      clear hst ho hbr hc hY hYl hYk
      go_wp2
      go_roundw
      case rel => exact ⟨k + 1, by omega, by go_num, by simpa [List.getD, hz, hlt] using R1, by simpa [List.getD, hz, hlt] using R2⟩
      case measure => simp [intOf]; omega
    · go_wp2
      go_ret
      have hkl : k = len := by omega
      subst hkl
      refine ⟨rfl, ?_, hbr, ?_⟩
      · unfold OB
        rw [hz, ← hY]
        simpa [List.take_of_length_le (show Y.length ≤ k by omega)] using ho
      · exact (World.ownsRow.lt ho w.heap.size rfl).2

theorem wpList_app {ops : Array Oper} {rest : List Oper} {o : Oper} {a : Act} {Q : Exit → Act → World → Prop} (w : World) (hgd : o.guard = none) (s x : Operand)
    (ho : o.op = .call { callee := .builtin .append, args := #[s, x], argTypes := #[22, 22] })
    (base : Nat) (v : Value) (ys : List Int) (hs : a.eval s = v) (hown : IB w base v ys) (m : Nat) (news : List Int) (hx : a.eval x = .slice (some ⟨w.heap.size, 0, none⟩) m m) (hl : news.length = m) (hm : 0 < m)
    (hlen : ys.length + m ≤ 2147483648) (hbase : base ≤ w.heap.size)
    (h : ∀ g cap w', OB w' base (.slice (some ⟨g, 0, none⟩) (ys.length + m) cap) (ys ++ news) → Below base w w' → wpList Try.prog ops Q rest (a.put o.dst (.slice (some ⟨g, 0, none⟩) (ys.length + m) cap)) w') :
    wpList Try.prog ops Q (o :: rest) a (w.alloc (.cells (news.map (Value.int .u8)).toArray 5)) := by
  obtain ⟨i0, hi, hz0, hz1, hz2⟩ := info_parts Try.info5
  exact wpList_append_into w hgd s x 22 ho base 5 i0 (.int .u8 0) 1 1 Try.underlying22 hi hz0 hz1 hz2 rfl (by decide) v ys.length _ hs hown m m (news.map (Value.int .u8)) hx (by simp [hl]) hm (ints_oneCell .u8 news) (by unfold maxLen; omega) (by omega) hbase
    fun g cap w' h1 h2 => h g cap w' (OB.snoc hl h1) h2

/-- A slice of bytes that can be read: the address a, the bytes ys. -/
def RB (w : World) (a : Option Addr) (ys : List Int) : Prop := (a = none → ys = []) ∧ ∀ x, a = some x → ∀ j, j < ys.length → w.cell? (x.add j) = some (.int .u8 (ys.getD j 0))

theorem RB.into {w : World} {a : Option Addr} {ys : List Int} (h : RB w a ys) (base : Nat) : IB w base (.slice a ys.length ys.length) ys := by
  refine .inr ⟨by simp, a, rfl, fun e => by simp [h.1 e], fun x hx j u hj => ?_⟩
  have hlt : j < ys.length := by
    have := (List.getElem?_eq_some_iff.1 hj).1
    simpa using this
  rw [h.2 x hx j hlt, ← hj]
  simp [hlt]

theorem RB.later {w w' : World} {a : Option Addr} {ys : List Int} (h : RB w a ys) (hb : Below w.heap.size w w') : RB w' a ys :=
  ⟨h.1, fun x hx j hj => cell_later hb (h.2 x hx j hj)⟩

/-- cloneBytes, whatever comes in. -/
theorem clone_any (a : Option Addr) (len cap : Nat) (zs : List Int) (w : World) (hl : len ≤ 1048576) (hz : zs.length = len) (hnil : a = none → cap = 0)
    (h : RB w a zs) :
    Calls Try.prog 9 #[.slice a len cap] w fun e w' => ∃ a', e = .returned (.slice a' len len) ∧ RB w' a' zs ∧ Below w.heap.size w w' := by
  cases a with
  | none =>
    obtain rfl := hnil rfl
    have h0 := h.1 rfl
    subst h0
    simp at hz
    subst hz
    refine (clone_nil w).mono ?_
    rintro e w' ⟨rfl, rfl⟩
    exact ⟨none, rfl, ⟨fun _ => rfl, fun x hx => by cases hx⟩, Below.refl _ _⟩
  | some x =>
    refine (clone_some x len cap zs w hl hz (fun i hi => h.2 x rfl i (by omega))).mono ?_
    rintro e w' ⟨rfl, ho, hb, hsz⟩
    subst hz
    refine ⟨_, rfl, ⟨fun e => (by cases e), fun y hy j hj => ?_⟩, hb⟩
    obtain rfl := Option.some.inj hy
    rw [Addr.add_lit, Nat.zero_add]
    exact ho.cell j hj

theorem RB.lit {w : World} {a : Option Addr} {ys : List Int} (h : RB w a ys) (hl : 0 < ys.length) : ∃ b o, a = some ⟨b, o, none⟩ ∧ ∀ k, k < ys.length → w.cell? ⟨b, o + k, none⟩ = some (.int .u8 (ys.getD k 0)) := by
  cases a with
  | none => have := h.1 rfl; rw [this] at hl; simp at hl
  | some x =>
    have h0 := h.2 x rfl 0 hl
    obtain ⟨b, o, sp⟩ := x
    have hsp : sp = none := by simpa [Addr.add] using World.cell?_spot h0
    subst hsp
    exact ⟨b, o, rfl, fun k hk => by rw [← Addr.add_lit]; exact h.2 _ rfl k hk⟩


theorem hideIt {p : Prop} (h : p) : Hid p := h

theorem IB.shape {w : World} {base : Nat} {v : Value} {ys : List Int} (h : IB w base v ys) : ∃ a cap, v = .slice a ys.length cap ∧ RB w a ys := by
  rcases h with h | ⟨_, a, rfl, h1, h2⟩
  · rcases h.2 with ⟨rfl, h0⟩ | ⟨g, cap, cur, rfl, _⟩
    · exact ⟨none, 0, by rw [h0], fun _ => List.eq_nil_of_length_eq_zero h0, fun x hx => by cases hx⟩
    · refine ⟨some ⟨g, 0, none⟩, cap, rfl, fun e => (by cases e), fun x hx j hj => ?_⟩
      obtain rfl := Option.some.inj hx
      rw [Addr.add_lit, Nat.zero_add]
      exact OB.cell h j hj
  · refine ⟨a, _, rfl, fun e => List.eq_nil_of_length_eq_zero (h1 e), fun x hx j hj => h2 x hx j _ ?_⟩
    simp [hj]

/-! appendSpaces -/
def SpPost (w : World) (len : Nat) (n : Int) (ys : List Int) (e : Ending) (w' : World) : Prop :=
  ∃ (a' : Option Addr) (N cap : Nat), e = .returned (.slice a' N cap) ∧ Hid (N = len + n.toNat) ∧ RB w' a' (ys ++ List.replicate n.toNat 32) ∧ Below w.heap.size w w'

set_option maxHeartbeats 1000000 in
theorem spaces_any (a : Option Addr) (len : Nat) (n : Int) (ys : List Int) (w : World) (hy : ys.length = len) (hl : len ≤ 1048576) (hn : n ≤ 65536) (hr : RB w a ys) :
    Calls Try.prog 22 #[.slice a len len, .int .i64 n] w (SpPost w len n ys) := by
  have hin : IB w w.heap.size (.slice a len len) ys := by have := hr.into w.heap.size; rwa [hy] at this
  have HY := hideIt hy
  clear hr hy
  go_enter Try.func22, Try.ntmps22
  go_wp2
  go_loopw [0, 6] (fun v i wr => ∃ k : Nat, k ≤ n.toNat ∧ i = .int .i64 k ∧ IB wr w.heap.size v (ys ++ List.replicate k 32) ∧ Below w.heap.size w wr) (fun _ i _ => n.toNat - (intOf i).toNat)
  case atStart => exact ⟨0, Nat.zero_le _, rfl, by simpa using hin, Below.refl _ _⟩
  case round =>
    obtain ⟨k, hk, rfl, ho, hbr⟩ := hrel
    clear hin
    have hbw : w.heap.size ≤ wr.heap.size := hbr.size
    have hlen : (ys ++ List.replicate k (32 : Int)).length ≤ 2147480000 := by simp [HY.out]; omega
    by_cases hlt : (k : Int) < n
    · obtain ⟨zs, hzs⟩ : ∃ zs, zs = ys ++ List.replicate k (32 : Int) := ⟨_, rfl⟩
      rw [← hzs] at ho hlen
      have HZ := hideIt hzs
      clear hzs
      go_wp2_with (at_builtin; refine wpList_app wr rfl _ _ rfl w.heap.size u0 zs rfl ho 1 [32] rfl rfl (by decide) (by omega) hbw ?_)
      intro g1 cap1 w2 ho2 hb2
      have R1 : IB w2 w.heap.size (.slice (some ⟨g1, 0, none⟩) (zs.length + 1) cap1) (ys ++ List.replicate (k + 1) 32) := by
        have := ho2.into
        rw [HZ.out, List.append_assoc, ← List.replicate_succ'] at this
        rw [HZ.out]
        exact this
      have R2 := hbr.trans hb2
      clear ho2 hb2 ho hbr
      go_wp2
      go_roundw
      case rel => exact ⟨k + 1, by omega, by go_num, R1, R2⟩
      case measure => simp [intOf]; omega
    · have hk' : k = n.toNat := by omega
      obtain ⟨a', cap', hv, hr'⟩ := ho.shape
      subst hv
      have hN : (ys ++ List.replicate k (32 : Int)).length = len + n.toNat := by simp [HY.out, hk']
      have HN := hideIt hN
      have HK := hideIt hk'
      clear hN hk'
      go_wp2
      go_ret
      refine ⟨a', _, cap', rfl, hideIt (by simpa using HN.out), ?_, hbr⟩
      rw [← HK.out]
      exact hr'

end Go.Proofs.Qxb6000044a
