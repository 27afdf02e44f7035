import Derived.Test.Qxb6601113aStr
import Derived.Test.Qxb6601113aPlain2
import Derived.WalkSmall
namespace Go.Proofs.Qxb6601113a
open Go.RowKit

set_option maxHeartbeats 1000000 in
theorem len_walk (a0 : Option Addr) (len0 cap0 : Nat) (ys : List Int) (a1 : ByteArray) (w : World) (hys : ys.length = len0) (hnil : a0 = none → cap0 = 0) (hrb : RB w a0 ys) (hlen : len0 ≤ maxLen) (hsl : a1.size ≤ maxLen) :
    Calls Try.prog 4 #[.slice a0 len0 cap0, .string a1] w fun e w' => e = .returned (.bool true) ∧ Below w.heap.size w w' := by
  unfold maxLen at hlen hsl
  by_cases hsm : len0 ≤ 524288 ∧ a1.size ≤ 524288
  · obtain ⟨hl0, hl1⟩ := hsm
    have HC : Hid (∀ w', Below w.heap.size w w' → Calls Try.prog 8 #[.slice a0 len0 cap0] w fun e w' => ∃ a', e = .returned (.slice a' len0 len0) ∧ RB w' a' ys ∧ Below w.heap.size w w') := fun w' hb => clone_any a0 len0 cap0 ys w (by omega) hys hnil hrb
    clear hnil hrb
    obtain ⟨L, hL⟩ : ∃ L, L = (escs (bts a1)).length := ⟨_, rfl⟩
    have hLb := escs_len (bts a1)
    rw [← hL, bts_length] at hLb
    have HL : Hid (L = (escs (bts a1)).length) := hL
    have HY : Hid (ys.length = len0) := hys
    clear hL hys
    obtain ⟨hLb1, hLb2⟩ := hLb
    go_enter Try.func4, Try.ntmps4
    go_wp2_with (first | (go_at_call 12; go_in) | (go_at_call 8; refine (HC.out _ (Below.refl _ _)).mono ?_; rintro e w1 ⟨a2, rfl, hrb2, hbel1⟩))
    have hin := hrb2.into w1.heap.size
    rw [HY.out] at hin
    refine (zapp_any _ ys a1 w1.heap.size w1 (by omega) (by rw [HY.out]; omega) hin (Nat.le_refl _)).mono ?_
    rw [← HL.out, HY.out]
    rintro e w2 ⟨g, cap, rfl, ho, hbel2⟩
    have hB := hbel1.trans (hbel2.mono hbel1.size)
    clear hbel1 hbel2 hrb2 hin HC
    go_wp2
    go_loop [7, 8] (fun c i => ∃ k : Nat, k ≤ a1.size ∧ i = .int .i64 k ∧ c = .bool (cleanB ((bts a1).take k))) (fun _ i => a1.size - (intOf i).toNat)
    case atStart => exact ⟨0, Nat.zero_le _, rfl, rfl⟩
    case round =>
      obtain ⟨k, hk, rfl, rfl⟩ := hrel
      by_cases hlt : k < a1.size
      · have HS : Hid ((bts a1).take (k + 1) = (bts a1).take k ++ [(a1[k].toNat : Int)]) := bts_snoc a1 k hlt
        by_cases hm : must (a1[k].toNat : Int) = true
        all_goals
          go_wp2_with (go_at_call 13; refine (must_any _ _).mono ?_; rintro e w' ⟨rfl, rfl⟩)
          go_round
          case rel => exact ⟨k + 1, by omega, by go_num, by rw [HS.out, cleanB_snoc]; simp [hm]⟩
          case measure => simp [intOf]; omega
      · have hk' : k = a1.size := by omega
        subst hk'
        rw [List.take_of_length_le (by rw [bts_length]; exact Nat.le_refl _)]
        by_cases hcl : cleanB (bts a1) = true
        · have hLe : L = a1.size := by rw [HL.out, escs_clean _ hcl, bts_length]
          have HLE : Hid (L = a1.size) := hLe
          have hL1 : L ≤ a1.size := by omega
          clear hLe
          have hq : ((len0 : Int) + L + 2 - len0 == (a1.size : Int) + 2) = true := by simp; omega
          have hcell : ∀ j, j < len0 + L + 2 → w2.cell? ⟨g, j, none⟩ = some (.int .u8 ((ys ++ 34 :: escs (bts a1) ++ [34]).getD j 0)) := by
            rw [← HY.out, HL.out, ← quo_len] at ho ⊢
            exact fun j hj => ho.cell j hj
          have hc1 : w2.cell? ⟨g, len0, none⟩ = some (.int .u8 34) := by
            rw [hcell len0 (by omega), ← HY.out, quo_open]
          have hc2 : w2.cell? ⟨g, len0 + L + 1, none⟩ = some (.int .u8 34) := by
            rw [hcell (len0 + L + 1) (by omega), ← HY.out, HL.out, quo_last]
          have HCL : Hid (∀ j, j < len0 + L + 2 → w2.cell? ⟨g, j, none⟩ = some (.int .u8 ((ys ++ 34 :: escs (bts a1) ++ [34]).getD j 0))) := hcell
          clear hcell ho
          go_wp2
          go_loopw [9] (fun i wr => ∃ k : Nat, k ≤ a1.size ∧ i = .int .i64 k ∧ ∃ n, wr = w2.drewN n) (fun i _ => a1.size - (intOf i).toNat)
          case atStart => exact ⟨0, Nat.zero_le _, rfl, 0, rfl⟩
          case round =>
            obtain ⟨k, hk, rfl, nd, rfl⟩ := hrel
            by_cases hlt : k < a1.size
            · have hcx : w2.cell? ⟨g, len0 + 1 + k, none⟩ = some (.int .u8 (a1[k].toNat : Int)) := by
                rw [HCL.out (len0 + 1 + k) (by omega), ← HY.out, quo_mid _ _ k (by rw [← HL.out, HLE.out]; exact hlt), escs_clean _ hcl, bts_getD a1 k hlt]
              clear hc1 hc2
              go_wp2
              go_quiet (fail)
              go_wp2
              go_roundw
              case rel => exact ⟨k + 1, by omega, by go_num, nd + nq, rfl⟩
              case measure => simp [intOf]; omega
            · go_wp2
              go_ret
              exact ⟨rfl, below_drewN hB nd⟩
        · have hLt : a1.size < L := by rw [HL.out]; have := escs_foul (bts a1) (by simpa using hcl); rw [bts_length] at this; exact this
          go_wp2
          all_goals (go_ret; exact ⟨rfl, hB⟩)
  · clear hys hnil hrb
    go_enter Try.func4, Try.ntmps4
    go_wp2
    all_goals (go_ret; exact ⟨rfl, Below.refl _ _⟩)

end Go.Proofs.Qxb6601113a
