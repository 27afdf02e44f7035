import Derived.Test.Qxb6601113aStr
import Derived.Test.Qxb6601113aPlain2
import Derived.Test.Qxb6601113aScan
import Derived.WalkSmall
namespace Go.Proofs.Qxb6601113a
open Go.RowKit

/-! zzEqBS, at two that are equal -/
set_option maxHeartbeats 1000000 in
theorem eq_same (v : Value) (s : ByteArray) (base : Nat) (w : World) (hs : s.size ≤ 1048576) (ho : OB w base v (bts s)) :
    Calls Try.prog 11 #[v, .string s] w fun e w' => e = .returned (.bool true) ∧ ∃ n, w' = w.drewN n := by
  obtain ⟨a, cap, rfl, hc⟩ : ∃ a cap, v = .slice a s.size cap ∧ ∀ k, k < s.size → ∃ g, a = some ⟨g, 0, none⟩ ∧ w.cell? ⟨g, k, none⟩ = some (.int .u8 ((bts s).getD k 0)) := by
    rcases ho.2 with ⟨h, h0⟩ | ⟨g, cap, cur, h, _⟩
    · rw [bts_length] at h0
      exact ⟨none, 0, by rw [h, h0], fun k hk => by omega⟩
    · subst h
      refine ⟨some ⟨g, 0, none⟩, cap, by rw [bts_length], fun k hk => ⟨g, rfl, ho.cell k (by rw [bts_length]; exact hk)⟩⟩
  clear ho
  go_enter Try.func11, Try.ntmps11
  go_wp2
  go_loopw [5] (fun i wr => ∃ k : Nat, k ≤ s.size ∧ i = .int .i64 k ∧ ∃ n, wr = w.drewN n) (fun i _ => s.size - (intOf i).toNat)
  case atStart => exact ⟨0, Nat.zero_le _, rfl, 0, rfl⟩
  case round =>
    obtain ⟨k, hk, rfl, nd, rfl⟩ := hrel
    by_cases hlt : k < s.size
    · obtain ⟨g, ha, hcx⟩ := hc k hlt
      rw [bts_getD s k hlt] at hcx
      clear hc
      subst ha
      go_wp2
      go_quiet (fail)
      go_wp2
      go_roundw
      case rel => exact ⟨k + 1, by omega, by go_num, nd + nq, rfl⟩
      case measure => simp [intOf]; omega
    · go_wp2
      go_ret
      exact ⟨rfl, nd, rfl⟩

theorem RB.lit {w : World} {a : Option Addr} {ys : List Int} (h : RB w a ys) (hl : 0 < ys.length) : ∃ b o, a = some ⟨b, o, none⟩ ∧ ∀ k, k < ys.length → w.cell? ⟨b, o + k, none⟩ = some (.int .u8 (ys.getD k 0)) := by
  cases a with
  | none => have := h.1 rfl; rw [this] at hl; simp at hl
  | some x =>
    have h0 := h.2 x rfl 0 hl
    obtain ⟨b, o, sp⟩ := x
    have hsp : sp = none := by simpa [Addr.add] using World.cell?_spot h0
    subst hsp
    exact ⟨b, o, rfl, fun k hk => by rw [← Addr.add_lit]; exact h.2 _ rfl k hk⟩

set_option maxHeartbeats 1000000 in
theorem rt_walk (a0 : Option Addr) (len0 cap0 : Nat) (ys : List Int) (a1 : ByteArray) (w : World) (hys : ys.length = len0) (hnil : a0 = none → cap0 = 0) (hrb : RB w a0 ys) (hlen : len0 ≤ maxLen) (hsl : a1.size ≤ maxLen) :
    Calls Try.prog 3 #[.slice a0 len0 cap0, .string a1] w fun e w' => e = .returned (.bool true) ∧ Below w.heap.size w w' := by
  unfold maxLen at hlen hsl
  by_cases hsm : len0 ≤ 524288 ∧ a1.size ≤ 524288
  · obtain ⟨hl0, hl1⟩ := hsm
    have HC : Hid (∀ w', Below w.heap.size w w' → Calls Try.prog 8 #[.slice a0 len0 cap0] w fun e w' => ∃ a', e = .returned (.slice a' len0 len0) ∧ RB w' a' ys ∧ Below w.heap.size w w') := fun w' hb => clone_any a0 len0 cap0 ys w (by omega) hys hnil hrb
    clear hnil hrb
    obtain ⟨L, hL⟩ : ∃ L, L = (escs (bts a1)).length := ⟨_, rfl⟩
    have hLb := escs_len (bts a1)
    rw [← hL, bts_length] at hLb
    have HL : Hid (L = (escs (bts a1)).length) := hL
    have HY : Hid (ys.length = len0) := hys
    clear hL hys
    obtain ⟨hLb1, hLb2⟩ := hLb
    go_enter Try.func3, Try.ntmps3
    go_wp2_with (first | (go_at_call 7; go_in) | (go_at_call 8; refine (HC.out _ (Below.refl _ _)).mono ?_; rintro e w1 ⟨a2, rfl, hrb2, hbel1⟩))
    have hin := hrb2.into w1.heap.size
    rw [HY.out] at hin
    refine (zapp_any _ ys a1 w1.heap.size w1 (by omega) (by rw [HY.out]; omega) hin (Nat.le_refl _)).mono ?_
    rw [← HL.out, HY.out]
    rintro e w2 ⟨g, cap, rfl, ho, hbel2⟩
    have hB := hbel1.trans (hbel2.mono hbel1.size)
    have hrb3 := hrb2.later hbel2
    have hcell : ∀ j, j < len0 + L + 2 → w2.cell? ⟨g, j, none⟩ = some (.int .u8 ((ys ++ 34 :: escs (bts a1) ++ [34]).getD j 0)) := by
      rw [← HY.out, HL.out, ← quo_len] at ho ⊢
      exact fun j hj => ho.cell j hj
    have HCL : Hid (∀ j, j < len0 + L + 2 → w2.cell? ⟨g, j, none⟩ = some (.int .u8 ((ys ++ 34 :: escs (bts a1) ++ [34]).getD j 0))) := hcell
    have HRB : Hid (RB w2 a2 ys) := hrb3
    clear hbel1 hbel2 hrb2 hin HC ho hcell hrb3
    go_wp2
    go_loopw [6] (fun i wr => ∃ k : Nat, k ≤ len0 ∧ i = .int .i64 k ∧ ∃ n, wr = w2.drewN n) (fun i _ => len0 - (intOf i).toNat)
    case atStart => exact ⟨0, Nat.zero_le _, rfl, 0, rfl⟩
    case round =>
      obtain ⟨k, hk, rfl, nd, rfl⟩ := hrel
      by_cases hlt : k < len0
      · obtain ⟨b, o, ha, hcb'⟩ := HRB.out.lit (by rw [HY.out]; omega)
        have hcb := hcb' k (by rw [HY.out]; exact hlt)
        clear hcb'
        have hca : w2.cell? ⟨g, k, none⟩ = some (.int .u8 (ys.getD k 0)) := by rw [HCL.out k (by omega), quo_pre _ _ k (by rw [HY.out]; exact hlt)]
        obtain ⟨y, hy⟩ : ∃ y, y = ys.getD k 0 := ⟨_, rfl⟩
        rw [← hy] at hcb hca
        clear hy HRB HCL
        subst ha
        go_wp2
        go_quiet (fail)
        go_wp2
        go_roundw
        case rel => exact ⟨k + 1, by omega, by go_num, nd + nq, rfl⟩
        case measure => simp [intOf]; omega
      · have hk' : k = len0 := by omega
        subst hk'
        have HSC : Hid (∀ wx : World, (∀ ad, wx.cell? ad = w2.cell? ad) → Calls Try.prog 10 #[.slice (some ⟨g, 0, none⟩) (k + L + 2) cap, .int .i64 (k : Int)] wx fun e w' => ∃ v, e = .returned (.tuple #[v, .int .i64 ((k + L + 2 : Nat) : Int), .bool true]) ∧ OB w' wx.heap.size v (bts a1) ∧ Below wx.heap.size wx w') := fun wx hx => by
          refine scan_any g 0 (k + L + 2) cap k L ys [] a1 wx HY.out HL.out.symm (by simp) (by omega) (by omega) (fun j hj => ?_)
          rw [hx, Nat.zero_add, HCL.out j hj]
          simp
        clear HCL HRB
        go_wp2_with fail
        refine (HSC.out (w2.drewN nd) (fun _ => rfl)).mono ?_
        rintro e w3 ⟨v, rfl, ho3, hb3⟩
        go_wp2_with fail
        refine (eq_same v a1 _ _ (by omega) ho3).mono ?_
        rintro e w4 ⟨rfl, n4, rfl⟩
        go_wp2
        go_ret
        exact ⟨rfl, below_drewN ((below_drewN hB nd).trans (hb3.mono hB.size)) n4⟩
  · clear hys hnil hrb
    go_enter Try.func3, Try.ntmps3
    go_wp2
    all_goals (go_ret; exact ⟨rfl, Below.refl _ _⟩)

end Go.Proofs.Qxb6601113a
