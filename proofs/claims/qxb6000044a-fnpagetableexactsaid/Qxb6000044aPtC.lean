import Derived.Test.Qxb6000044aPtB
namespace Go.Proofs.Qxb6000044a
open Go.RowKit

/-- What a clone leaves: a slice of the same cells in memory of its own. -/
def ClPost (w : World) (len : Nat) (vs : List Value) (e : Ending) (w' : World) : Prop :=
  ∃ a', e = .returned (.slice a' len len) ∧ RV w' a' vs ∧ Below w.heap.size w w' ∧ (a' = none → len = 0) ∧ ∀ x, a' = some x → w.heap.size ≤ x.block

theorem Try.info9 : (Try.prog.info? 9).map (fun i => (i.zero, i.size, i.bytes)) = some (some (.string ByteArray.empty), 1, 16) := by kernel_rfl

set_option maxHeartbeats 1000000 in
theorem cloneS_any (a : Option Addr) (len cap : Nat) (xs : List ByteArray) (w : World) (hl : len ≤ 1048576) (hz : xs.length = len) (hnil : a = none → cap = 0) (h : RV w a (xs.map Value.string)) :
    Calls Try.prog 15 #[.slice a len cap] w (ClPost w len (xs.map Value.string)) := by
  cases a with
  | none =>
    obtain rfl := hnil rfl
    have h0 : xs = [] := by have := h.1 rfl; simpa using this
    subst h0
    simp at hz
    subst hz
    have hn := fun w => Lib.run_eql_slice_nil (P := Try.prog) w 27 9 none 0 0 0 0 Try.underlying27
    clear h hnil hl
    go_enter Try.func15, Try.ntmps15
    go_wp2
    go_ret
    exact ⟨none, rfl, rv_nil _, Below.refl _ _, fun _ => rfl, fun x hx => by cases hx⟩
  | some x =>
    obtain ⟨Y, hY⟩ : ∃ Y, Y = xs.map Value.string := ⟨_, rfl⟩
    have hYl : Y.length = len := by rw [hY]; simpa using hz
    have HC : Hid (∀ k (hk : k < Y.length), w.cell? (x.add k) = some Y[k]) := fun k hk => h.2 x rfl k _ (by subst hY; simp at hk; simp [hk])
    have HV : Hid (∀ k (hk : k < Y.length), ∃ z : ByteArray, Y[k] = Value.string z) := fun k hk => by subst hY; simp
    have HYL := hid hYl
    have HY := hid hY
    rw [← hY]
    clear hY h hnil hz hYl
    obtain ⟨i0, hi, hz0, hz1, hz2⟩ := info_parts Try.info9
    have hn := fun w => Lib.run_eql_slice_nil (P := Try.prog) w 27 9 (some x) len cap 0 0 Try.underlying27
    go_enter Try.func15, Try.ntmps15
    go_wp2_with (at_make; refine wpList_make_full _ rfl _ _ 27 rfl w.heap.size 9 i0 (.string ByteArray.empty) 1 Try.underlying27 hi hz0 hz1 .i64 .i64 _ _ len rfl rfl rfl rfl (by rw [hz2]; omega) (by unfold maxLen; omega) (Nat.le_refl _) ?_)
    intro w1 hown hgrow
    clear hi hz0 hz1 hz2 hn
    have hb : Below w.heap.size w w1 := (Below.refl _ _).grown hgrow (Nat.le_refl _) (by simp)
    go_wp2
    go_loopw [4] (fun i wr => ∃ k : Nat, k ≤ len ∧ i = .int .i64 k ∧ wr.ownsRow w.heap.size 9 1 (.slice (some ⟨w.heap.size, 0, none⟩) len len) len (Y.take k ++ List.replicate (len - k) (.string ByteArray.empty)) ∧ Below w.heap.size w wr) (fun i _ => len - (intOf i).toNat)
    case atStart => exact ⟨0, Nat.zero_le _, rfl, by simpa [Value.cells, toList_madeCells_one] using hown, hb⟩
    case round =>
      obtain ⟨k, hk, rfl, ho, hbr⟩ := hrel
      clear hown hgrow hb
      by_cases hlt : k < len
      · have hkY : k < Y.length := by rw [HYL.out]; exact hlt
        obtain ⟨z, hz⟩ := HV.out k hkY
        have hc0 := HC.out k hkY
        rw [hz] at hc0
        have hcx : wr.cell? (x.add k) = some (Value.string z) := by
          rw [hbr.cell (World.block_lt_of_cell? _ _ hc0)]; exact hc0
        have hfz := ho.frozenAt k
        have hce : wr.cell? ⟨w.heap.size, k, none⟩ = some (.string ByteArray.empty) := by rw [ho.cellAt k (by omega)]; exact fill_cell HYL.out hlt
        have hst := ho.stored k (Value.string z)
        rw [← hz, fill_step HYL.out hlt, hz] at hst
        have R1 := hst.1
        have R2 : Below w.heap.size w (wr.setCell ⟨w.heap.size, k, none⟩ (Value.string z)) := hbr.setCell (Nat.le_refl _) _
        clear hst ho hbr HC HV hz hc0 hkY
        go_wp2
        go_roundw
        case rel => exact ⟨k + 1, by omega, by go_num, R1, R2⟩
        case measure => simp [intOf]; omega
      · have hkl : k = len := by omega
        subst hkl
        go_wp2
        go_ret
        refine ⟨_, rfl, ?_, hbr, fun e => (by cases e), fun y hy => ?_⟩
        · have := rv_of_own ho
          rwa [List.take_of_length_le (by rw [HYL.out]; exact Nat.le_refl _), Nat.sub_self, List.replicate_zero, List.append_nil] at this
        · obtain rfl := Option.some.inj hy
          exact Nat.le_refl _

theorem Try.info4 : (Try.prog.info? 4).map (fun i => (i.zero, i.size, i.bytes)) = some (some (.bool false), 1, 1) := by kernel_rfl

set_option maxHeartbeats 1000000 in
theorem cloneB_any (a : Option Addr) (len cap : Nat) (xs : List Bool) (w : World) (hl : len ≤ 1048576) (hz : xs.length = len) (hnil : a = none → cap = 0) (h : RV w a (xs.map Value.bool)) :
    Calls Try.prog 16 #[.slice a len cap] w (ClPost w len (xs.map Value.bool)) := by
  cases a with
  | none =>
    obtain rfl := hnil rfl
    have h0 : xs = [] := by have := h.1 rfl; simpa using this
    subst h0
    simp at hz
    subst hz
    have hn := fun w => Lib.run_eql_slice_nil (P := Try.prog) w 28 4 none 0 0 0 0 Try.underlying28
    clear h hnil hl
    go_enter Try.func16, Try.ntmps16
    go_wp2
    go_ret
    exact ⟨none, rfl, rv_nil _, Below.refl _ _, fun _ => rfl, fun x hx => by cases hx⟩
  | some x =>
    obtain ⟨Y, hY⟩ : ∃ Y, Y = xs.map Value.bool := ⟨_, rfl⟩
    have hYl : Y.length = len := by rw [hY]; simpa using hz
    have HC : Hid (∀ k (hk : k < Y.length), w.cell? (x.add k) = some Y[k]) := fun k hk => h.2 x rfl k _ (by subst hY; simp at hk; simp [hk])
    have HV : Hid (∀ k (hk : k < Y.length), ∃ z : Bool, Y[k] = Value.bool z) := fun k hk => by subst hY; simp
    have HYL := hid hYl
    have HY := hid hY
    rw [← hY]
    clear hY h hnil hz hYl
    obtain ⟨i0, hi, hz0, hz1, hz2⟩ := info_parts Try.info4
    have hn := fun w => Lib.run_eql_slice_nil (P := Try.prog) w 28 4 (some x) len cap 0 0 Try.underlying28
    go_enter Try.func16, Try.ntmps16
    go_wp2_with (at_make; refine wpList_make_full _ rfl _ _ 28 rfl w.heap.size 4 i0 (.bool false) 1 Try.underlying28 hi hz0 hz1 .i64 .i64 _ _ len rfl rfl rfl rfl (by rw [hz2]; omega) (by unfold maxLen; omega) (Nat.le_refl _) ?_)
    intro w1 hown hgrow
    clear hi hz0 hz1 hz2 hn
    have hb : Below w.heap.size w w1 := (Below.refl _ _).grown hgrow (Nat.le_refl _) (by simp)
    go_wp2
    go_loopw [4] (fun i wr => ∃ k : Nat, k ≤ len ∧ i = .int .i64 k ∧ wr.ownsRow w.heap.size 4 1 (.slice (some ⟨w.heap.size, 0, none⟩) len len) len (Y.take k ++ List.replicate (len - k) (.bool false)) ∧ Below w.heap.size w wr) (fun i _ => len - (intOf i).toNat)
    case atStart => exact ⟨0, Nat.zero_le _, rfl, by simpa [Value.cells, toList_madeCells_one] using hown, hb⟩
    case round =>
      obtain ⟨k, hk, rfl, ho, hbr⟩ := hrel
      clear hown hgrow hb
      by_cases hlt : k < len
      · have hkY : k < Y.length := by rw [HYL.out]; exact hlt
        obtain ⟨z, hz⟩ := HV.out k hkY
        have hc0 := HC.out k hkY
        rw [hz] at hc0
        have hcx : wr.cell? (x.add k) = some (Value.bool z) := by
          rw [hbr.cell (World.block_lt_of_cell? _ _ hc0)]; exact hc0
        have hfz := ho.frozenAt k
        have hce : wr.cell? ⟨w.heap.size, k, none⟩ = some (.bool false) := by rw [ho.cellAt k (by omega)]; exact fill_cell HYL.out hlt
        have hst := ho.stored k (Value.bool z)
        rw [← hz, fill_step HYL.out hlt, hz] at hst
        have R1 := hst.1
        have R2 : Below w.heap.size w (wr.setCell ⟨w.heap.size, k, none⟩ (Value.bool z)) := hbr.setCell (Nat.le_refl _) _
        clear hst ho hbr HC HV hz hc0 hkY
        go_wp2
        go_roundw
        case rel => exact ⟨k + 1, by omega, by go_num, R1, R2⟩
        case measure => simp [intOf]; omega
      · have hkl : k = len := by omega
        subst hkl
        go_wp2
        go_ret
        refine ⟨_, rfl, ?_, hbr, fun e => (by cases e), fun y hy => ?_⟩
        · have := rv_of_own ho
          rwa [List.take_of_length_le (by rw [HYL.out]; exact Nat.le_refl _), Nat.sub_self, List.replicate_zero, List.append_nil] at this
        · obtain rfl := Option.some.inj hy
          exact Nat.le_refl _

end Go.Proofs.Qxb6000044a
