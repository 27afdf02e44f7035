import Derived.Test.Qxb6601113aStr
import Derived.Test.Qxb6601113aPlain2
import Derived.WalkSmall
namespace Go.Proofs.Qxb6601113a
open Go.RowKit

/-! zzHexLower -/
theorem hex_any (h : Int) (h0 : 0 ≤ h) (h1 : h < 16) (w : World) : Calls Try.prog 23 #[.int .u8 (hexd h)] w fun e w' => e = .returned (.int .i64 h) ∧ w = w' := by
  by_cases hd : h < 10
  · have e : hexd h = 48 + h := by simp [hexd, hd]
    rw [e]
    clear e
    go_enter Try.func23, Try.ntmps23
    go_wp2
    go_ret
    exact ⟨by simp; omega, rfl⟩
  · have e : hexd h = 87 + h := by simp [hexd, hd]
    rw [e]
    clear e
    go_enter Try.func23, Try.ntmps23
    go_wp2
    go_ret
    exact ⟨by simp; omega, rfl⟩

/-! zzScanString, at a quoted string -/
set_option maxRecDepth 100000 in
set_option maxHeartbeats 2000000 in
theorem scan_any (b o nq cq p E : Nat) (pre post : List Int) (s : ByteArray) (w : World) (hp : pre.length = p) (hE : (escs (bts s)).length = E) (hq : nq = p + E + 2 + post.length) (hcap : nq ≤ 1073741824) (hs : s.size ≤ 1048576)
    (hc : ∀ j, j < nq → w.cell? ⟨b, o + j, none⟩ = some (.int .u8 ((pre ++ 34 :: (escs (bts s) ++ 34 :: post)).getD j 0))) :
    Calls Try.prog 10 #[.slice (some ⟨b, o, none⟩) nq cq, .int .i64 (p : Int)] w fun e w' => ∃ v, e = .returned (.tuple #[v, .int .i64 ((p + E + 2 : Nat) : Int), .bool true]) ∧ OB w' w.heap.size v (bts s) ∧ Below w.heap.size w w' := by
  have hc0 : w.cell? ⟨b, o + p, none⟩ = some (.int .u8 34) := by rw [hc p (by omega), ← hp, mid_open]
  have hpq : p < nq := by omega
  have hpe : p + E + 2 ≤ nq := by omega
  have HQ : Hid (nq = p + E + 2 + post.length) := hq
  have HC : Hid (∀ j, j < nq → w.cell? ⟨b, o + j, none⟩ = some (.int .u8 ((pre ++ 34 :: (escs (bts s) ++ 34 :: post)).getD j 0))) := hc
  have HP : Hid (pre.length = p) := hp
  have HE : Hid ((escs (bts s)).length = E) := hE
  have d1 : decide (nq ≤ p) = false := by simp; omega
  have d2 : decide ((p : Int) < 0) = false := by simp
  clear hc hp hE hq
  go_enter Try.func10, Try.ntmps10
  go_wp2
  go_loopw [7, 8] (fun v i wr => ∃ k I : Nat, k ≤ s.size ∧ Hid (I = p + 1 + (escs ((bts s).take k)).length) ∧ i = .int .i64 I ∧ OB wr w.heap.size v ((bts s).take k) ∧ Below w.heap.size w wr) (fun _ i _ => nq - (intOf i).toNat)
  case atStart => exact ⟨0, p + 1, Nat.zero_le _, by simp [Hid, escs], by go_num, World.ownsRow_nil _ _ _ _, Below.refl _ _⟩
  case round =>
    obtain ⟨k, I, hk, HI, rfl, ho, hbr⟩ := hrel
    have hbw : w.heap.size ≤ wr.heap.size := hbr.size
    have hcr : ∀ j, j < nq → wr.cell? ⟨b, o + j, none⟩ = some (.int .u8 ((pre ++ 34 :: (escs (bts s) ++ 34 :: post)).getD j 0)) := fun j hj => by
      rw [hbr.cell (World.block_lt_of_cell? _ _ (HC.out j hj))]; exact HC.out j hj
    clear hc0
    by_cases hlt : k < s.size
    · have hsp := bts_split s k hlt
      have hL := escs_split_len ((bts s).take k) ((bts s).drop (k + 1)) (s[k].toNat : Int)
      rw [← hsp, HE.out] at hL
      have hI1 : I + (esc (s[k].toNat : Int)).length + 1 ≤ nq := by have := HI.out; omega
      have hce : ∀ j, j < (esc (s[k].toNat : Int)).length → wr.cell? ⟨b, o + (I + j), none⟩ = some (.int .u8 ((esc (s[k].toNat : Int)).getD j 0)) := by
        intro j hj
        rw [hcr (I + j) (by omega), HI.out, ← HP.out, ← mid_get pre post ((bts s).take k) ((bts s).drop (k + 1)) (s[k].toNat : Int) j hj, ← hsp]
      have HCE : Hid (∀ j, j < (esc (s[k].toNat : Int)).length → wr.cell? ⟨b, o + (I + j), none⟩ = some (.int .u8 ((esc (s[k].toNat : Int)).getD j 0))) := hce
      have HI1 : Hid (I + (esc (s[k].toNat : Int)).length + 1 ≤ nq) := hI1
      have HST : ∀ (v : Value) (w' : World), OB w' w.heap.size v ((bts s).take k ++ [(s[k].toNat : Int)]) → OB w' w.heap.size v ((bts s).take (k + 1)) := fun v w' h => by rw [bts_snoc s k hlt]; exact h
      have HIN : ∀ n : Nat, (esc (s[k].toNat : Int)).length = n → Hid (I + n = p + 1 + (escs ((bts s).take (k + 1))).length) := fun n hn => by
        show I + n = _
        rw [bts_snoc s k hlt, escs_snoc, List.length_append, hn]; have := HI.out; omega
      have hll : ((bts s).take k).length ≤ 1048576 := by have := List.length_take_le k (bts s); omega
      obtain ⟨ys, hys⟩ : ∃ ys, ys = (bts s).take k := ⟨_, rfl⟩
      rw [← hys] at ho HST hll
      have HY : Hid (ys = (bts s).take k) := hys
      obtain ⟨c, hcc⟩ : ∃ c : Nat, c = s[k].toNat := ⟨_, rfl⟩
      rw [← hcc] at HCE HI1 HST HIN
      clear hsp hL hI1 hce hcr hys hcc HC
      by_cases c34 : c = 34
      · subst c34
        have l2 : (esc ((34 : Nat) : Int)).length = 2 := rfl
        have t0 : wr.cell? ⟨b, o + I, none⟩ = some (.int .u8 92) := HCE.out 0 (by rw [l2]; omega)
        have t1 : wr.cell? ⟨b, o + (I + 1), none⟩ = some (.int .u8 34) := HCE.out 1 (by rw [l2]; omega)
        have b1 : I + 3 ≤ nq := by have := HI1.out; omega
        have N1 := HIN 2 l2
        clear HCE HI1 HIN l2
        go_wp2_with (at_builtin; refine wpList_app wr rfl _ _ rfl w.heap.size u7 ys rfl ho.into 1 [34] rfl rfl (by decide) (by omega) hbw ?_)
        intro g1 cap1 w2 ho2 hb2
        have R1 := HST _ _ ho2
        have R2 := hbr.trans hb2
        clear ho2 hb2 ho hbr HST t0 t1
        go_wp2
        go_roundw
        case rel => exact ⟨k + 1, I + 2, by omega, N1, by go_num, R1, R2⟩
        case measure => simp [intOf]; omega
      by_cases c92 : c = 92
      · subst c92
        have l2 : (esc ((92 : Nat) : Int)).length = 2 := rfl
        have t0 : wr.cell? ⟨b, o + I, none⟩ = some (.int .u8 92) := HCE.out 0 (by rw [l2]; omega)
        have t1 : wr.cell? ⟨b, o + (I + 1), none⟩ = some (.int .u8 92) := HCE.out 1 (by rw [l2]; omega)
        have b1 : I + 3 ≤ nq := by have := HI1.out; omega
        have N1 := HIN 2 l2
        clear HCE HI1 HIN l2
        go_wp2_with (at_builtin; refine wpList_app wr rfl _ _ rfl w.heap.size u7 ys rfl ho.into 1 [92] rfl rfl (by decide) (by omega) hbw ?_)
        intro g1 cap1 w2 ho2 hb2
        have R1 := HST _ _ ho2
        have R2 := hbr.trans hb2
        clear ho2 hb2 ho hbr HST t0 t1
        go_wp2
        go_roundw
        case rel => exact ⟨k + 1, I + 2, by omega, N1, by go_num, R1, R2⟩
        case measure => simp [intOf]; omega
      by_cases c8 : c = 8
      · subst c8
        have l2 : (esc ((8 : Nat) : Int)).length = 2 := rfl
        have t0 : wr.cell? ⟨b, o + I, none⟩ = some (.int .u8 92) := HCE.out 0 (by rw [l2]; omega)
        have t1 : wr.cell? ⟨b, o + (I + 1), none⟩ = some (.int .u8 98) := HCE.out 1 (by rw [l2]; omega)
        have b1 : I + 3 ≤ nq := by have := HI1.out; omega
        have N1 := HIN 2 l2
        clear HCE HI1 HIN l2
        go_wp2_with (at_builtin; refine wpList_app wr rfl _ _ rfl w.heap.size u7 ys rfl ho.into 1 [8] rfl rfl (by decide) (by omega) hbw ?_)
        intro g1 cap1 w2 ho2 hb2
        have R1 := HST _ _ ho2
        have R2 := hbr.trans hb2
        clear ho2 hb2 ho hbr HST t0 t1
        go_wp2
        go_roundw
        case rel => exact ⟨k + 1, I + 2, by omega, N1, by go_num, R1, R2⟩
        case measure => simp [intOf]; omega
      by_cases c12 : c = 12
      · subst c12
        have l2 : (esc ((12 : Nat) : Int)).length = 2 := rfl
        have t0 : wr.cell? ⟨b, o + I, none⟩ = some (.int .u8 92) := HCE.out 0 (by rw [l2]; omega)
        have t1 : wr.cell? ⟨b, o + (I + 1), none⟩ = some (.int .u8 102) := HCE.out 1 (by rw [l2]; omega)
        have b1 : I + 3 ≤ nq := by have := HI1.out; omega
        have N1 := HIN 2 l2
        clear HCE HI1 HIN l2
        go_wp2_with (at_builtin; refine wpList_app wr rfl _ _ rfl w.heap.size u7 ys rfl ho.into 1 [12] rfl rfl (by decide) (by omega) hbw ?_)
        intro g1 cap1 w2 ho2 hb2
        have R1 := HST _ _ ho2
        have R2 := hbr.trans hb2
        clear ho2 hb2 ho hbr HST t0 t1
        go_wp2
        go_roundw
        case rel => exact ⟨k + 1, I + 2, by omega, N1, by go_num, R1, R2⟩
        case measure => simp [intOf]; omega
      by_cases c10 : c = 10
      · subst c10
        have l2 : (esc ((10 : Nat) : Int)).length = 2 := rfl
        have t0 : wr.cell? ⟨b, o + I, none⟩ = some (.int .u8 92) := HCE.out 0 (by rw [l2]; omega)
        have t1 : wr.cell? ⟨b, o + (I + 1), none⟩ = some (.int .u8 110) := HCE.out 1 (by rw [l2]; omega)
        have b1 : I + 3 ≤ nq := by have := HI1.out; omega
        have N1 := HIN 2 l2
        clear HCE HI1 HIN l2
        go_wp2_with (at_builtin; refine wpList_app wr rfl _ _ rfl w.heap.size u7 ys rfl ho.into 1 [10] rfl rfl (by decide) (by omega) hbw ?_)
        intro g1 cap1 w2 ho2 hb2
        have R1 := HST _ _ ho2
        have R2 := hbr.trans hb2
        clear ho2 hb2 ho hbr HST t0 t1
        go_wp2
        go_roundw
        case rel => exact ⟨k + 1, I + 2, by omega, N1, by go_num, R1, R2⟩
        case measure => simp [intOf]; omega
      by_cases c13 : c = 13
      · subst c13
        have l2 : (esc ((13 : Nat) : Int)).length = 2 := rfl
        have t0 : wr.cell? ⟨b, o + I, none⟩ = some (.int .u8 92) := HCE.out 0 (by rw [l2]; omega)
        have t1 : wr.cell? ⟨b, o + (I + 1), none⟩ = some (.int .u8 114) := HCE.out 1 (by rw [l2]; omega)
        have b1 : I + 3 ≤ nq := by have := HI1.out; omega
        have N1 := HIN 2 l2
        clear HCE HI1 HIN l2
        go_wp2_with (at_builtin; refine wpList_app wr rfl _ _ rfl w.heap.size u7 ys rfl ho.into 1 [13] rfl rfl (by decide) (by omega) hbw ?_)
        intro g1 cap1 w2 ho2 hb2
        have R1 := HST _ _ ho2
        have R2 := hbr.trans hb2
        clear ho2 hb2 ho hbr HST t0 t1
        go_wp2
        go_roundw
        case rel => exact ⟨k + 1, I + 2, by omega, N1, by go_num, R1, R2⟩
        case measure => simp [intOf]; omega
      by_cases c9 : c = 9
      · subst c9
        have l2 : (esc ((9 : Nat) : Int)).length = 2 := rfl
        have t0 : wr.cell? ⟨b, o + I, none⟩ = some (.int .u8 92) := HCE.out 0 (by rw [l2]; omega)
        have t1 : wr.cell? ⟨b, o + (I + 1), none⟩ = some (.int .u8 116) := HCE.out 1 (by rw [l2]; omega)
        have b1 : I + 3 ≤ nq := by have := HI1.out; omega
        have N1 := HIN 2 l2
        clear HCE HI1 HIN l2
        go_wp2_with (at_builtin; refine wpList_app wr rfl _ _ rfl w.heap.size u7 ys rfl ho.into 1 [9] rfl rfl (by decide) (by omega) hbw ?_)
        intro g1 cap1 w2 ho2 hb2
        have R1 := HST _ _ ho2
        have R2 := hbr.trans hb2
        clear ho2 hb2 ho hbr HST t0 t1
        go_wp2
        go_roundw
        case rel => exact ⟨k + 1, I + 2, by omega, N1, by go_num, R1, R2⟩
        case measure => simp [intOf]; omega
      by_cases c32 : c < 32
      · have e6 := esc_low (c : Int) (by omega) (by omega) (by omega) (by omega) (by omega) (by omega) (by omega) (by omega)
        have l6 : (esc (c : Int)).length = 6 := by rw [e6]; rfl
        have t0 : wr.cell? ⟨b, o + I, none⟩ = some (.int .u8 92) := by have := HCE.out 0 (by rw [l6]; omega); rw [e6] at this; exact this
        have t1 : wr.cell? ⟨b, o + (I + 1), none⟩ = some (.int .u8 117) := by have := HCE.out 1 (by rw [l6]; omega); rw [e6] at this; exact this
        have t2 : wr.cell? ⟨b, o + (I + 2), none⟩ = some (.int .u8 48) := by have := HCE.out 2 (by rw [l6]; omega); rw [e6] at this; exact this
        have t3 : wr.cell? ⟨b, o + (I + 3), none⟩ = some (.int .u8 48) := by have := HCE.out 3 (by rw [l6]; omega); rw [e6] at this; exact this
        have t4 : wr.cell? ⟨b, o + (I + 4), none⟩ = some (.int .u8 (hexd ((c : Int) / 16))) := by have := HCE.out 4 (by rw [l6]; omega); rw [e6] at this; exact this
        have t5 : wr.cell? ⟨b, o + (I + 5), none⟩ = some (.int .u8 (hexd ((c : Int) % 16))) := by have := HCE.out 5 (by rw [l6]; omega); rw [e6] at this; exact this
        have b1 : I + 7 ≤ nq := by have := HI1.out; omega
        have N1 := HIN 6 l6
        clear HCE HI1 HIN l6 e6
        go_wp2_with fail
        refine (hex_any ((c : Int) / 16) (by omega) (by omega) _).mono ?_
        rintro e w' ⟨rfl, rfl⟩
        go_wp2_with fail
        refine (hex_any ((c : Int) % 16) (by omega) (by omega) _).mono ?_
        rintro e w' ⟨rfl, rfl⟩
        have q8 : ((c : Int) / 16 * 16 + (c : Int) % 16 == 8) = false := by simp only [beq_eq_false_iff_ne]; omega
        have q9 : ((c : Int) / 16 * 16 + (c : Int) % 16 == 9) = false := by simp only [beq_eq_false_iff_ne]; omega
        have q10 : ((c : Int) / 16 * 16 + (c : Int) % 16 == 10) = false := by simp only [beq_eq_false_iff_ne]; omega
        have q12 : ((c : Int) / 16 * 16 + (c : Int) % 16 == 12) = false := by simp only [beq_eq_false_iff_ne]; omega
        have q13 : ((c : Int) / 16 * 16 + (c : Int) % 16 == 13) = false := by simp only [beq_eq_false_iff_ne]; omega
        go_wp2_with (at_builtin; refine wpList_app wr rfl _ _ rfl w.heap.size u7 ys rfl ho.into 1 [(c : Int) / 16 * 16 + (c : Int) % 16] rfl rfl (by decide) (by omega) hbw ?_)
        intro g1 cap1 w2 ho2 hb2
        rw [show (c : Int) / 16 * 16 + (c : Int) % 16 = (c : Int) from by omega] at ho2
        have R1 := HST _ _ ho2
        have R2 := hbr.trans hb2
        clear ho2 hb2 ho hbr HST t0 t1 t2 t3 t4 t5 q8 q9 q10 q12 q13
        go_wp2
        go_roundw
        case rel => exact ⟨k + 1, I + 6, by omega, N1, by go_num, R1, R2⟩
        case measure => simp [intOf]; omega
      · have e1 : esc (c : Int) = [(c : Int)] := by unfold esc; repeat rw [if_neg (by omega)]
        have l1 : (esc (c : Int)).length = 1 := by rw [e1]; rfl
        have t0 : wr.cell? ⟨b, o + I, none⟩ = some (.int .u8 (c : Int)) := by have := HCE.out 0 (by rw [l1]; omega); rw [e1] at this; exact this
        have b1 : I + 2 ≤ nq := by have := HI1.out; omega
        have N1 := HIN 1 l1
        clear HCE HI1 HIN l1 e1
        go_wp2_with (at_builtin; refine wpList_app wr rfl _ _ rfl w.heap.size u7 ys rfl ho.into 1 [(c : Int)] rfl rfl (by decide) (by omega) hbw ?_)
        intro g1 cap1 w2 ho2 hb2
        have R1 := HST _ _ ho2
        have R2 := hbr.trans hb2
        clear ho2 hb2 ho hbr HST t0
        go_wp2
        go_roundw
        case rel => exact ⟨k + 1, I + 1, by omega, N1, by go_num, R1, R2⟩
        case measure => simp [intOf]; omega
    · have hk' : k = s.size := by omega
      subst hk'
      rw [List.take_of_length_le (by rw [bts_length]; exact Nat.le_refl _)] at HI ho
      rw [HE.out] at HI
      have t0 : wr.cell? ⟨b, o + I, none⟩ = some (.int .u8 34) := by
        rw [hcr I (by have := HI.out; omega), HI.out, ← HP.out, ← HE.out, mid_shut]
      have b1 : I < nq := by have := HI.out; omega
      clear hcr HC
      go_wp2
      go_ret3
      have := HI.out
      exact ⟨_, by have e : (I : Int) + 1 = ((p + E + 2 : Nat) : Int) := (by omega); rw [← e]; rfl, ho, hbr⟩

end Go.Proofs.Qxb6601113a
