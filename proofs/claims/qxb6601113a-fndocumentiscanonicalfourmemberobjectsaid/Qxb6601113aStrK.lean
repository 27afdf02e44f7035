import Derived.Test.Qxb6601113aLibK
import Derived.Test.Qxb6601113aStr
namespace Go.Proofs.Qxb6601113a
open Go.RowKit

theorem wpList_appK {ops : Array Oper} {rest : List Oper} {o : Oper} {a : Act} {Q : Exit → Act → World → Prop} (w : World) (hgd : o.guard = none) (s x : Operand)
    (ho : o.op = .call { callee := .builtin .append, args := #[s, x], argTypes := #[22, 22] })
    (base : Nat) (v : Value) (ys : List Int) (hs : a.eval s = v) (hown : IB w base v ys) (m : Nat) (news : List Int) (hx : a.eval x = .slice (some ⟨w.heap.size, 0, none⟩) m m) (hl : news.length = m) (hm : 0 < m)
    (hlen : ys.length + m ≤ 2147483648) (hbase : base ≤ w.heap.size)
    (h : ∀ g cap w', OB w' base (.slice (some ⟨g, 0, none⟩) (ys.length + m) cap) (ys ++ news) → Below base w w' → Keeps w w' v (.slice (some ⟨g, 0, none⟩) (ys.length + m) cap) → wpList Try.prog ops Q rest (a.put o.dst (.slice (some ⟨g, 0, none⟩) (ys.length + m) cap)) w') :
    wpList Try.prog ops Q (o :: rest) a (w.alloc (.cells (news.map (Value.int .u8)).toArray 5)) := by
  obtain ⟨i0, hi, hz0, hz1, hz2⟩ := info_parts Try.info5
  exact wpList_append_keeps w hgd s x 22 ho base 5 i0 (.int .u8 0) 1 1 Try.underlying22 hi hz0 hz1 hz2 rfl (by decide) v ys.length _ hs hown m m (news.map (Value.int .u8)) hx (by simp [hl]) hm (ints_oneCell .u8 news) (by unfold maxLen; omega) (by omega) hbase
    fun g cap w' h1 h2 h3 => h g cap w' (OB.snoc hl h1) h2 h3

theorem step_appK {ops : Array Oper} {o : Oper} {a : Act} {K : Act → World → Prop} {Q : Exit → Act → World → Prop} {E : Prop} (w : World) (hgd : o.guard = none) (s x : Operand)
    (ho : o.op = .call { callee := .builtin .append, args := #[s, x], argTypes := #[22, 22] })
    (base : Nat) (v : Value) (ys : List Int) (hs : a.eval s = v) (hown : IB w base v ys) (m : Nat) (news : List Int) (hx : a.eval x = .slice (some ⟨w.heap.size, 0, none⟩) m m) (hl : news.length = m) (hm : 0 < m)
    (hlen : ys.length + m ≤ 2147483648) (hbase : base ≤ w.heap.size)
    (h : ∀ g cap w', OB w' base (.slice (some ⟨g, 0, none⟩) (ys.length + m) cap) (ys ++ news) → Below base w w' → Keeps w w' v (.slice (some ⟨g, 0, none⟩) (ys.length + m) cap) → K (a.put o.dst (.slice (some ⟨g, 0, none⟩) (ys.length + m) cap)) w') :
    if Region.wanted o (yielded ops a.tmps) = true then Oper.wp Try.prog o a (w.alloc (.cells (news.map (Value.int .u8)).toArray 5)) K Q else E := by
  obtain ⟨i0, hi, hz0, hz1, hz2⟩ := info_parts Try.info5
  exact step_append_keeps w hgd s x 22 ho base 5 i0 (.int .u8 0) 1 1 Try.underlying22 hi hz0 hz1 hz2 rfl (by decide) v ys.length _ hs hown m m (news.map (Value.int .u8)) hx (by simp [hl]) hm (ints_oneCell .u8 news) (by unfold maxLen; omega) (by omega) hbase
    fun g cap w' h1 h2 h3 => h g cap w' (OB.snoc hl h1) h2 h3

set_option maxHeartbeats 1000000 in
theorem app_keeps (v : Value) (xs : List Int) (s : ByteArray) (base : Nat) (w : World) (hs : s.size ≤ 1048576) (hx : xs.length ≤ 1073741824) (hin : IB w base v xs) (hb : base ≤ w.heap.size) :
    Calls Try.prog 22 #[v, .string s] w fun e w' => ∃ g cap, e = .returned (.slice (some ⟨g, 0, none⟩) (xs.length + (escs (bts s)).length + 2) cap) ∧ OB w' base (.slice (some ⟨g, 0, none⟩) (xs.length + (escs (bts s)).length + 2) cap) (xs ++ 34 :: escs (bts s) ++ [34]) ∧ Below base w w' ∧ Keeps w w' v (.slice (some ⟨g, 0, none⟩) (xs.length + (escs (bts s)).length + 2) cap) := by
  go_enter Try.func22, Try.ntmps22
  go_wp2_with (at_builtin; refine wpList_appK w rfl _ _ rfl base v xs rfl hin 1 [34] rfl rfl (by decide) (by omega) hb ?_)
  intro g cap w1 hown hbel hkp
  clear hin
  go_wp2
  go_loopw [0, 5] (fun v1 i wr => ∃ k : Nat, k ≤ s.size ∧ i = .int .i64 k ∧ OB wr base v1 (xs ++ 34 :: escs ((bts s).take k)) ∧ Below base w wr ∧ Keeps w wr v v1) (fun _ i _ => s.size - (intOf i).toNat)
  case atStart => exact ⟨0, Nat.zero_le _, rfl, by simpa [escs] using hown, hbel, hkp⟩
  case round =>
    obtain ⟨k, hk, rfl, ho, hbr, hkr⟩ := hrel
    clear hown hbel hkp
    have hbw : base ≤ wr.heap.size := Nat.le_trans hb hbr.size
    have hel : (xs ++ 34 :: escs ((bts s).take k)).length ≤ 2147480000 := by
      have := (escs_len ((bts s).take k)).2
      have := List.length_take_le k (bts s)
      simp; omega
    by_cases hlt : k < s.size
    · have hsn := bts_snoc s k hlt
      have HS : Hid ((bts s).take (k + 1) = (bts s).take k ++ [(s[k].toNat : Int)]) := hsn
      clear hsn
      obtain ⟨ys, hys⟩ : ∃ ys, ys = xs ++ 34 :: escs ((bts s).take k) := ⟨_, rfl⟩
      rw [← hys] at ho hel
      have HY : Hid (ys = xs ++ 34 :: escs ((bts s).take k)) := hys
      clear hys
      have HST : ∀ (v : Value) (w' : World) (news : List Int), esc (s[k].toNat : Int) = news → OB w' base v (ys ++ news) → OB w' base v (xs ++ 34 :: escs ((bts s).take (k + 1))) := by
        intro v w' news he h
        rw [HS.out, escs_snoc, he]
        rw [HY.out] at h
        simpa using h
      by_cases c34 : s[k].toNat = 34
      · have C : Hid (s[k].toNat = 34) := c34
        have h1 : (34 : Int) ≤ (s[k].toNat : Int) := by omega
        have h2 : (s[k].toNat : Int) ≤ 34 := by omega
        clear c34
        go_wp2_with (at_builtin; refine wpList_appK wr rfl _ _ rfl base u0 ys rfl ho.into 2 [92, (s[k].toNat : Int)] rfl rfl (by decide) (by omega) hbw ?_)
        intro g1 cap1 w2 ho2 hb2 hk2
        have R1 := HST _ _ _ (by rw [C.out]; rfl) ho2
        have R2 := hbr.trans hb2
        have R3 := hkr.trans hk2 hbr.size
        clear ho2 hb2 ho hbr HST hk2 hkr
        go_wp2
        go_roundw
        case rel => exact ⟨k + 1, by omega, by go_num, R1, R2, R3⟩
        case measure => simp [intOf]; omega
      by_cases c92 : s[k].toNat = 92
      · have C : Hid (s[k].toNat = 92) := c92
        have h1 : (92 : Int) ≤ (s[k].toNat : Int) := by omega
        have h2 : (s[k].toNat : Int) ≤ 92 := by omega
        clear c92
        go_wp2_with (at_builtin; refine wpList_appK wr rfl _ _ rfl base u0 ys rfl ho.into 2 [92, (s[k].toNat : Int)] rfl rfl (by decide) (by omega) hbw ?_)
        intro g1 cap1 w2 ho2 hb2 hk2
        have R1 := HST _ _ _ (by rw [C.out]; rfl) ho2
        have R2 := hbr.trans hb2
        have R3 := hkr.trans hk2 hbr.size
        clear ho2 hb2 ho hbr HST hk2 hkr
        go_wp2
        go_roundw
        case rel => exact ⟨k + 1, by omega, by go_num, R1, R2, R3⟩
        case measure => simp [intOf]; omega
      by_cases c8 : s[k].toNat = 8
      · have C : Hid (s[k].toNat = 8) := c8
        have h1 : (8 : Int) ≤ (s[k].toNat : Int) := by omega
        have h2 : (s[k].toNat : Int) ≤ 8 := by omega
        clear c8
        go_wp2_with (at_builtin; refine wpList_appK wr rfl _ _ rfl base u0 ys rfl ho.into 2 [92, 98] rfl rfl (by decide) (by omega) hbw ?_)
        intro g1 cap1 w2 ho2 hb2 hk2
        have R1 := HST _ _ _ (by rw [C.out]; rfl) ho2
        have R2 := hbr.trans hb2
        have R3 := hkr.trans hk2 hbr.size
        clear ho2 hb2 ho hbr HST hk2 hkr
        go_wp2
        go_roundw
        case rel => exact ⟨k + 1, by omega, by go_num, R1, R2, R3⟩
        case measure => simp [intOf]; omega
      by_cases c12 : s[k].toNat = 12
      · have C : Hid (s[k].toNat = 12) := c12
        have h1 : (12 : Int) ≤ (s[k].toNat : Int) := by omega
        have h2 : (s[k].toNat : Int) ≤ 12 := by omega
        clear c12
        go_wp2_with (at_builtin; refine wpList_appK wr rfl _ _ rfl base u0 ys rfl ho.into 2 [92, 102] rfl rfl (by decide) (by omega) hbw ?_)
        intro g1 cap1 w2 ho2 hb2 hk2
        have R1 := HST _ _ _ (by rw [C.out]; rfl) ho2
        have R2 := hbr.trans hb2
        have R3 := hkr.trans hk2 hbr.size
        clear ho2 hb2 ho hbr HST hk2 hkr
        go_wp2
        go_roundw
        case rel => exact ⟨k + 1, by omega, by go_num, R1, R2, R3⟩
        case measure => simp [intOf]; omega
      by_cases c10 : s[k].toNat = 10
      · have C : Hid (s[k].toNat = 10) := c10
        have h1 : (10 : Int) ≤ (s[k].toNat : Int) := by omega
        have h2 : (s[k].toNat : Int) ≤ 10 := by omega
        clear c10
        go_wp2_with (at_builtin; refine wpList_appK wr rfl _ _ rfl base u0 ys rfl ho.into 2 [92, 110] rfl rfl (by decide) (by omega) hbw ?_)
        intro g1 cap1 w2 ho2 hb2 hk2
        have R1 := HST _ _ _ (by rw [C.out]; rfl) ho2
        have R2 := hbr.trans hb2
        have R3 := hkr.trans hk2 hbr.size
        clear ho2 hb2 ho hbr HST hk2 hkr
        go_wp2
        go_roundw
        case rel => exact ⟨k + 1, by omega, by go_num, R1, R2, R3⟩
        case measure => simp [intOf]; omega
      by_cases c13 : s[k].toNat = 13
      · have C : Hid (s[k].toNat = 13) := c13
        have h1 : (13 : Int) ≤ (s[k].toNat : Int) := by omega
        have h2 : (s[k].toNat : Int) ≤ 13 := by omega
        clear c13
        go_wp2_with (at_builtin; refine wpList_appK wr rfl _ _ rfl base u0 ys rfl ho.into 2 [92, 114] rfl rfl (by decide) (by omega) hbw ?_)
        intro g1 cap1 w2 ho2 hb2 hk2
        have R1 := HST _ _ _ (by rw [C.out]; rfl) ho2
        have R2 := hbr.trans hb2
        have R3 := hkr.trans hk2 hbr.size
        clear ho2 hb2 ho hbr HST hk2 hkr
        go_wp2
        go_roundw
        case rel => exact ⟨k + 1, by omega, by go_num, R1, R2, R3⟩
        case measure => simp [intOf]; omega
      by_cases c9 : s[k].toNat = 9
      · have C : Hid (s[k].toNat = 9) := c9
        have h1 : (9 : Int) ≤ (s[k].toNat : Int) := by omega
        have h2 : (s[k].toNat : Int) ≤ 9 := by omega
        clear c9
        go_wp2_with (at_builtin; refine wpList_appK wr rfl _ _ rfl base u0 ys rfl ho.into 2 [92, 116] rfl rfl (by decide) (by omega) hbw ?_)
        intro g1 cap1 w2 ho2 hb2 hk2
        have R1 := HST _ _ _ (by rw [C.out]; rfl) ho2
        have R2 := hbr.trans hb2
        have R3 := hkr.trans hk2 hbr.size
        clear ho2 hb2 ho hbr HST hk2 hkr
        go_wp2
        go_roundw
        case rel => exact ⟨k + 1, by omega, by go_num, R1, R2, R3⟩
        case measure => simp [intOf]; omega
      by_cases c32 : s[k].toNat < 32
      · have h15 := and15 s[k].toNat c32
        have r1 := run_hex ((s[k].toNat : Int) / 16) (by omega) (by omega)
        have r2 := run_hex ((s[k].toNat : Int) % 16) (by omega) (by omega)
        go_wp2_with (at_builtin; fail)
        go_region_law (refine step_appK wr.drew rfl _ _ rfl base u0 ys rfl (OB.into ho) 6 [92, 117, 48, 48, hexd ((s[k].toNat : Int) / 16), hexd ((s[k].toNat : Int) % 16)] rfl rfl (by decide) (by omega) hbw ?_; intro g1 cap1 w2 ho2 hb2 hk2)
        all_goals
          have R1 := HST _ _ _ (esc_low _ (by omega) (by omega) (by omega) (by omega) (by omega) (by omega) (by omega) (by omega)) ho2
          have R2 := hbr.drew.trans hb2
          have R3 := hkr.trans (w1 := wr) hk2 hbr.size
          clear ho2 hb2 ho hbr HST hk2 hkr
          go_wp2
          go_roundw
          case rel => exact ⟨k + 1, by omega, by go_num, R1, R2, R3⟩
          case measure => simp [intOf]; omega
      · go_wp2_with (at_builtin; refine wpList_appK wr rfl _ _ rfl base u0 ys rfl ho.into 1 [(s[k].toNat : Int)] rfl rfl (by decide) (by omega) hbw ?_)
        intro g1 cap1 w2 ho2 hb2 hk2
        have R1 := HST _ _ _ (by unfold esc; repeat rw [if_neg (by omega)]) ho2
        have R2 := hbr.trans hb2
        have R3 := hkr.trans hk2 hbr.size
        clear ho2 hb2 ho hbr HST hk2 hkr
        go_wp2
        go_roundw
        case rel => exact ⟨k + 1, by omega, by go_num, R1, R2, R3⟩
        case measure => simp [intOf]; omega
    · have hk' : k = s.size := by omega
      subst hk'
      obtain ⟨ys, hys⟩ : ∃ ys, ys = xs ++ 34 :: escs ((bts s).take s.size) := ⟨_, rfl⟩
      rw [← hys] at ho hel
      have HY : Hid (ys = xs ++ 34 :: escs ((bts s).take s.size)) := hys
      clear hys
      go_wp2_with (at_builtin; refine wpList_appK wr rfl _ _ rfl base u0 ys rfl ho.into 1 [34] rfl rfl (by decide) (by omega) hbw ?_)
      intro g1 cap1 w2 ho2 hb2 hk2
      go_wp2
      go_ret
      have e1 : (bts s).take s.size = bts s := List.take_of_length_le (by rw [bts_length]; exact Nat.le_refl _)
      have e2 : ys.length + 1 = xs.length + (escs (bts s)).length + 2 := by rw [HY.out, e1]; simp; omega
      refine ⟨g1, cap1, by rw [← e2]; rfl, ?_, hbr.trans hb2, by rw [← e2]; exact hkr.trans hk2 hbr.size⟩
      rw [← e2]
      rw [HY.out, e1] at ho2 ⊢
      exact ho2

end Go.Proofs.Qxb6601113a
