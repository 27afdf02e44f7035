import Derived.Test.Qxb6601113aProg
import Derived.Test.Qxb6601113aLib
import Derived.Test.Qxb6601113aPlain
import Derived.BigQuiet
import Derived.Deep.QuietTactic
import Derived.Deep.RegionLaw
namespace Go.Proofs.Qxb6601113a
open Go.RowKit

theorem Try.info5 : (Try.prog.info? 5).map (fun i => (i.zero, i.size, i.bytes)) = some (some (.int .u8 0), 1, 1) := by kernel_rfl

/-- The slice value v owns the bytes ys, in a block from 'base' on. -/
def OB (w : World) (base : Nat) (v : Value) (ys : List Int) : Prop := w.ownsRow base 5 1 v ys.length (ys.map (Value.int .u8))
/-- What appendString may go onto. -/
def IB (w : World) (base : Nat) (v : Value) (ys : List Int) : Prop := Into w base 5 1 v ys.length (ys.map (Value.int .u8))

theorem OB.into {w : World} {base : Nat} {v : Value} {ys : List Int} (h : OB w base v ys) : IB w base v ys := Or.inl h

theorem OB.snoc {w : World} {base : Nat} {v : Value} {ys zs : List Int} {m : Nat} (hm : zs.length = m) (h : w.ownsRow base 5 1 v (ys.length + m) (ys.map (Value.int .u8) ++ zs.map (Value.int .u8))) : OB w base v (ys ++ zs) := by
  unfold OB
  rw [List.length_append, hm, List.map_append]
  exact h

/-- What is read out of an owned slice. -/
theorem OB.cell {w : World} {base g cap : Nat} {ys : List Int} (h : OB w base (.slice (some ⟨g, 0, none⟩) ys.length cap) ys) (j : Nat) (hj : j < ys.length) : w.cell? ⟨g, j, none⟩ = some (.int .u8 (ys.getD j 0)) := by
  rw [World.ownsRow.cellAt h j (by omega)]
  simp [List.getD, hj]

/-! zzCloneBytes -/
theorem clone_nil (w : World) : Calls Try.prog 8 #[.slice none 0 0] w fun e w' => e = .returned (.slice none 0 0) ∧ w' = w := by
  have hnil := fun w => Lib.run_eql_slice_nil (P := Try.prog) w 22 5 none 0 0 0 0 Try.underlying22
  go_enter Try.func8, Try.ntmps8
  go_wp2
  go_ret
  exact ⟨rfl, rfl⟩

set_option maxHeartbeats 400000 in
theorem clone_some (x : Addr) (len cap : Nat) (zs : List Int) (w : World) (hl : len ≤ 1048576) (hz : zs.length = len)
    (hc : ∀ i, i < len → w.cell? (x.add i) = some (.int .u8 (zs.getD i 0))) :
    Calls Try.prog 8 #[.slice (some x) len cap] w fun e w' => e = .returned (.slice (some ⟨w.heap.size, 0, none⟩) len len) ∧ OB w' w.heap.size (.slice (some ⟨w.heap.size, 0, none⟩) len len) zs ∧ Below w.heap.size w w' ∧ w.heap.size < w'.heap.size := by
  obtain ⟨i0, hi, hz0, hz1, hz2⟩ := info_parts Try.info5
  have hnil := fun w => Lib.run_eql_slice_nil (P := Try.prog) w 22 5 (some x) len cap 0 0 Try.underlying22
  go_enter Try.func8, Try.ntmps8
  go_wp2_with (at_make; refine wpList_make_full _ rfl _ _ 22 rfl w.heap.size 5 i0 (.int .u8 0) 1 Try.underlying22 hi hz0 hz1 .i64 .i64 _ _ len rfl rfl rfl rfl (by rw [hz2]; omega) (by unfold maxLen; omega) (Nat.le_refl _) ?_)
  intro w1 hown hgrow
  clear hi hz0 hz1 hz2 hnil
  have hb : Below w.heap.size w w1 := (Below.refl _ _).grown hgrow (Nat.le_refl _) (by simp)
  obtain ⟨Y, hY⟩ : ∃ Y, Y = zs.map (Value.int .u8) := ⟨_, rfl⟩
  have hYl : Y.length = len := by rw [hY]; simpa using hz
  have hYk : ∀ k (h : k < Y.length), Y[k] = .int .u8 (zs.getD k 0) := by intro k h; subst hY; simp at h; simp [h]
  go_wp2
  go_loopw [4] (fun i wr => ∃ k : Nat, k ≤ len ∧ i = .int .i64 k ∧ wr.ownsRow w.heap.size 5 1 (.slice (some ⟨w.heap.size, 0, none⟩) len len) len (Y.take k ++ List.replicate (len - k) (Value.int .u8 0)) ∧ Below w.heap.size w wr) (fun i _ => len - (intOf i).toNat)
  case atStart => exact ⟨0, Nat.zero_le _, rfl, by simpa [Value.cells, toList_madeCells_one] using hown, hb⟩
  case round =>
    obtain ⟨k, hk, rfl, ho, hbr⟩ := hrel
    clear hown hgrow hb
    by_cases hlt : k < len
    · have hcx : wr.cell? (x.add k) = some (.int .u8 (zs.getD k 0)) := by
        rw [hbr.cell (World.block_lt_of_cell? _ _ (hc k hlt))]; exact hc k hlt
      have hfz := ho.frozenAt k
      have hce : wr.cell? ⟨w.heap.size, k, none⟩ = some (.int .u8 0) := by rw [ho.cellAt k (by omega)]; exact fill_cell hYl hlt
      have hst := ho.stored k (.int .u8 (zs.getD k 0))
      rw [← hYk k (by omega), fill_step hYl hlt, hYk k (by omega)] at hst
      have R1 := hst.1
      have R2 : Below w.heap.size w (wr.setCell ⟨w.heap.size, k, none⟩ (.int .u8 (zs.getD k 0))) := hbr.setCell (Nat.le_refl _) _
      clear hst ho hbr hc hY hYl hYk
      go_wp2
      go_roundw
      case rel => exact ⟨k + 1, by omega, by go_num, by simpa [List.getD, hz, hlt] using R1, by simpa [List.getD, hz, hlt] using R2⟩
      case measure => simp [intOf]; omega
    · go_wp2
      go_ret
      have hkl : k = len := by omega
      subst hkl
      refine ⟨rfl, ?_, hbr, ?_⟩
      · unfold OB
        rw [hz, ← hY]
        simpa [List.take_of_length_le (show Y.length ≤ k by omega)] using ho
      · exact (World.ownsRow.lt ho w.heap.size rfl).2

/-! appendString -/
theorem wpList_app {ops : Array Oper} {rest : List Oper} {o : Oper} {a : Act} {Q : Exit → Act → World → Prop} (w : World) (hgd : o.guard = none) (s x : Operand)
    (ho : o.op = .call { callee := .builtin .append, args := #[s, x], argTypes := #[22, 22] })
    (base : Nat) (v : Value) (ys : List Int) (hs : a.eval s = v) (hown : IB w base v ys) (m : Nat) (news : List Int) (hx : a.eval x = .slice (some ⟨w.heap.size, 0, none⟩) m m) (hl : news.length = m) (hm : 0 < m)
    (hlen : ys.length + m ≤ 2147483648) (hbase : base ≤ w.heap.size)
    (h : ∀ g cap w', OB w' base (.slice (some ⟨g, 0, none⟩) (ys.length + m) cap) (ys ++ news) → Below base w w' → wpList Try.prog ops Q rest (a.put o.dst (.slice (some ⟨g, 0, none⟩) (ys.length + m) cap)) w') :
    wpList Try.prog ops Q (o :: rest) a (w.alloc (.cells (news.map (Value.int .u8)).toArray 5)) := by
  obtain ⟨i0, hi, hz0, hz1, hz2⟩ := info_parts Try.info5
  exact wpList_append_into w hgd s x 22 ho base 5 i0 (.int .u8 0) 1 1 Try.underlying22 hi hz0 hz1 hz2 rfl (by decide) v ys.length _ hs hown m m (news.map (Value.int .u8)) hx (by simp [hl]) hm (ints_oneCell .u8 news) (by unfold maxLen; omega) (by omega) hbase
    fun g cap w' h1 h2 => h g cap w' (OB.snoc hl h1) h2

theorem step_app {ops : Array Oper} {o : Oper} {a : Act} {K : Act → World → Prop} {Q : Exit → Act → World → Prop} {E : Prop} (w : World) (hgd : o.guard = none) (s x : Operand)
    (ho : o.op = .call { callee := .builtin .append, args := #[s, x], argTypes := #[22, 22] })
    (base : Nat) (v : Value) (ys : List Int) (hs : a.eval s = v) (hown : IB w base v ys) (m : Nat) (news : List Int) (hx : a.eval x = .slice (some ⟨w.heap.size, 0, none⟩) m m) (hl : news.length = m) (hm : 0 < m)
    (hlen : ys.length + m ≤ 2147483648) (hbase : base ≤ w.heap.size)
    (h : ∀ g cap w', OB w' base (.slice (some ⟨g, 0, none⟩) (ys.length + m) cap) (ys ++ news) → Below base w w' → K (a.put o.dst (.slice (some ⟨g, 0, none⟩) (ys.length + m) cap)) w') :
    if Region.wanted o (yielded ops a.tmps) = true then Oper.wp Try.prog o a (w.alloc (.cells (news.map (Value.int .u8)).toArray 5)) K Q else E := by
  obtain ⟨i0, hi, hz0, hz1, hz2⟩ := info_parts Try.info5
  exact step_append_into w hgd s x 22 ho base 5 i0 (.int .u8 0) 1 1 Try.underlying22 hi hz0 hz1 hz2 rfl (by decide) v ys.length _ hs hown m m (news.map (Value.int .u8)) hx (by simp [hl]) hm (ints_oneCell .u8 news) (by unfold maxLen; omega) (by omega) hbase
    fun g cap w' h1 h2 => h g cap w' (OB.snoc hl h1) h2

theorem run_hex_nat (n : Nat) (h : n < 16) : ∀ w : World, (Instr.index 9 (.string { data := #[48, 49, 50, 51, 52, 53, 54, 55, 56, 57, 97, 98, 99, 100, 101, 102] }) (.int .u8 (n : Int))).run Try.prog w = .ok (.int .u8 (hexd (n : Int))) w := by
  match n, h with
  | 0, _ => intro w; kernel_rfl
  | 1, _ => intro w; kernel_rfl
  | 2, _ => intro w; kernel_rfl
  | 3, _ => intro w; kernel_rfl
  | 4, _ => intro w; kernel_rfl
  | 5, _ => intro w; kernel_rfl
  | 6, _ => intro w; kernel_rfl
  | 7, _ => intro w; kernel_rfl
  | 8, _ => intro w; kernel_rfl
  | 9, _ => intro w; kernel_rfl
  | 10, _ => intro w; kernel_rfl
  | 11, _ => intro w; kernel_rfl
  | 12, _ => intro w; kernel_rfl
  | 13, _ => intro w; kernel_rfl
  | 14, _ => intro w; kernel_rfl
  | 15, _ => intro w; kernel_rfl
  | n + 16, h => omega
theorem run_hex (x : Int) (h0 : 0 ≤ x) (h1 : x < 16) (w : World) : (Instr.index 9 (.string { data := #[48, 49, 50, 51, 52, 53, 54, 55, 56, 57, 97, 98, 99, 100, 101, 102] }) (.int .u8 x)).run Try.prog w = .ok (.int .u8 (hexd x)) w := by
  have := run_hex_nat x.toNat (by omega) w
  simp only [Int.toNat_of_nonneg h0] at this
  exact this
theorem and15_all : ∀ n : Fin 32, bits BinOp.and IntKind.u8 (n.val : Int) 15 = (n.val : Int) % 16 := by decide +kernel
theorem and15 (n : Nat) (h : n < 32) : bits BinOp.and IntKind.u8 (n : Int) 15 = (n : Int) % 16 := and15_all ⟨n, h⟩

set_option maxHeartbeats 1000000 in
theorem app_any (v : Value) (xs : List Int) (s : ByteArray) (base : Nat) (w : World) (hs : s.size ≤ 1048576) (hx : xs.length ≤ 1073741824) (hin : IB w base v xs) (hb : base ≤ w.heap.size) :
    Calls Try.prog 22 #[v, .string s] w fun e w' => ∃ g cap, e = .returned (.slice (some ⟨g, 0, none⟩) (xs.length + (escs (bts s)).length + 2) cap) ∧ OB w' base (.slice (some ⟨g, 0, none⟩) (xs.length + (escs (bts s)).length + 2) cap) (xs ++ 34 :: escs (bts s) ++ [34]) ∧ Below base w w' := by
  go_enter Try.func22, Try.ntmps22
  go_wp2_with (at_builtin; refine wpList_app w rfl _ _ rfl base v xs rfl hin 1 [34] rfl rfl (by decide) (by omega) hb ?_)
  intro g cap w1 hown hbel
  clear hin
  go_wp2
  go_loopw [0, 5] (fun v i wr => ∃ k : Nat, k ≤ s.size ∧ i = .int .i64 k ∧ OB wr base v (xs ++ 34 :: escs ((bts s).take k)) ∧ Below base w wr) (fun _ i _ => s.size - (intOf i).toNat)
  case atStart => exact ⟨0, Nat.zero_le _, rfl, by simpa [escs] using hown, hbel⟩
  case round =>
    obtain ⟨k, hk, rfl, ho, hbr⟩ := hrel
    clear hown hbel
    have hbw : base ≤ wr.heap.size := Nat.le_trans hb hbr.size
    have hel : (xs ++ 34 :: escs ((bts s).take k)).length ≤ 2147480000 := by
      have := (escs_len ((bts s).take k)).2
      have := List.length_take_le k (bts s)
      simp; omega
    by_cases hlt : k < s.size
    · have hsn := bts_snoc s k hlt
      have HS : Hid ((bts s).take (k + 1) = (bts s).take k ++ [(s[k].toNat : Int)]) := hsn
      clear hsn
      obtain ⟨ys, hys⟩ : ∃ ys, ys = xs ++ 34 :: escs ((bts s).take k) := ⟨_, rfl⟩
      rw [← hys] at ho hel
      have HY : Hid (ys = xs ++ 34 :: escs ((bts s).take k)) := hys
      clear hys
      have HST : ∀ (v : Value) (w' : World) (news : List Int), esc (s[k].toNat : Int) = news → OB w' base v (ys ++ news) → OB w' base v (xs ++ 34 :: escs ((bts s).take (k + 1))) := by
        intro v w' news he h
        rw [HS.out, escs_snoc, he]
        rw [HY.out] at h
        simpa using h
      by_cases c34 : s[k].toNat = 34
      · have C : Hid (s[k].toNat = 34) := c34
        have h1 : (34 : Int) ≤ (s[k].toNat : Int) := by omega
        have h2 : (s[k].toNat : Int) ≤ 34 := by omega
        clear c34
        go_wp2_with (at_builtin; refine wpList_app wr rfl _ _ rfl base u0 ys rfl ho.into 2 [92, (s[k].toNat : Int)] rfl rfl (by decide) (by omega) hbw ?_)
        intro g1 cap1 w2 ho2 hb2
        have R1 := HST _ _ _ (by rw [C.out]; rfl) ho2
        have R2 := hbr.trans hb2
        clear ho2 hb2 ho hbr HST
        go_wp2
        go_roundw
        case rel => exact ⟨k + 1, by omega, by go_num, R1, R2⟩
        case measure => simp [intOf]; omega
      by_cases c92 : s[k].toNat = 92
      · have C : Hid (s[k].toNat = 92) := c92
        have h1 : (92 : Int) ≤ (s[k].toNat : Int) := by omega
        have h2 : (s[k].toNat : Int) ≤ 92 := by omega
        clear c92
        go_wp2_with (at_builtin; refine wpList_app wr rfl _ _ rfl base u0 ys rfl ho.into 2 [92, (s[k].toNat : Int)] rfl rfl (by decide) (by omega) hbw ?_)
        intro g1 cap1 w2 ho2 hb2
        have R1 := HST _ _ _ (by rw [C.out]; rfl) ho2
        have R2 := hbr.trans hb2
        clear ho2 hb2 ho hbr HST
        go_wp2
        go_roundw
        case rel => exact ⟨k + 1, by omega, by go_num, R1, R2⟩
        case measure => simp [intOf]; omega
      by_cases c8 : s[k].toNat = 8
      · have C : Hid (s[k].toNat = 8) := c8
        have h1 : (8 : Int) ≤ (s[k].toNat : Int) := by omega
        have h2 : (s[k].toNat : Int) ≤ 8 := by omega
        clear c8
        go_wp2_with (at_builtin; refine wpList_app wr rfl _ _ rfl base u0 ys rfl ho.into 2 [92, 98] rfl rfl (by decide) (by omega) hbw ?_)
        intro g1 cap1 w2 ho2 hb2
        have R1 := HST _ _ _ (by rw [C.out]; rfl) ho2
        have R2 := hbr.trans hb2
        clear ho2 hb2 ho hbr HST
        go_wp2
        go_roundw
        case rel => exact ⟨k + 1, by omega, by go_num, R1, R2⟩
        case measure => simp [intOf]; omega
      by_cases c12 : s[k].toNat = 12
      · have C : Hid (s[k].toNat = 12) := c12
        have h1 : (12 : Int) ≤ (s[k].toNat : Int) := by omega
        have h2 : (s[k].toNat : Int) ≤ 12 := by omega
        clear c12
        go_wp2_with (at_builtin; refine wpList_app wr rfl _ _ rfl base u0 ys rfl ho.into 2 [92, 102] rfl rfl (by decide) (by omega) hbw ?_)
        intro g1 cap1 w2 ho2 hb2
        have R1 := HST _ _ _ (by rw [C.out]; rfl) ho2
        have R2 := hbr.trans hb2
        clear ho2 hb2 ho hbr HST
        go_wp2
        go_roundw
        case rel => exact ⟨k + 1, by omega, by go_num, R1, R2⟩
        case measure => simp [intOf]; omega
      by_cases c10 : s[k].toNat = 10
      · have C : Hid (s[k].toNat = 10) := c10
        have h1 : (10 : Int) ≤ (s[k].toNat : Int) := by omega
        have h2 : (s[k].toNat : Int) ≤ 10 := by omega
        clear c10
        go_wp2_with (at_builtin; refine wpList_app wr rfl _ _ rfl base u0 ys rfl ho.into 2 [92, 110] rfl rfl (by decide) (by omega) hbw ?_)
        intro g1 cap1 w2 ho2 hb2
        have R1 := HST _ _ _ (by rw [C.out]; rfl) ho2
        have R2 := hbr.trans hb2
        clear ho2 hb2 ho hbr HST
        go_wp2
        go_roundw
        case rel => exact ⟨k + 1, by omega, by go_num, R1, R2⟩
        case measure => simp [intOf]; omega
      by_cases c13 : s[k].toNat = 13
      · have C : Hid (s[k].toNat = 13) := c13
        have h1 : (13 : Int) ≤ (s[k].toNat : Int) := by omega
        have h2 : (s[k].toNat : Int) ≤ 13 := by omega
        clear c13
        go_wp2_with (at_builtin; refine wpList_app wr rfl _ _ rfl base u0 ys rfl ho.into 2 [92, 114] rfl rfl (by decide) (by omega) hbw ?_)
        intro g1 cap1 w2 ho2 hb2
        have R1 := HST _ _ _ (by rw [C.out]; rfl) ho2
        have R2 := hbr.trans hb2
        clear ho2 hb2 ho hbr HST
        go_wp2
        go_roundw
        case rel => exact ⟨k + 1, by omega, by go_num, R1, R2⟩
        case measure => simp [intOf]; omega
      by_cases c9 : s[k].toNat = 9
      · have C : Hid (s[k].toNat = 9) := c9
        have h1 : (9 : Int) ≤ (s[k].toNat : Int) := by omega
        have h2 : (s[k].toNat : Int) ≤ 9 := by omega
        clear c9
        go_wp2_with (at_builtin; refine wpList_app wr rfl _ _ rfl base u0 ys rfl ho.into 2 [92, 116] rfl rfl (by decide) (by omega) hbw ?_)
        intro g1 cap1 w2 ho2 hb2
        have R1 := HST _ _ _ (by rw [C.out]; rfl) ho2
        have R2 := hbr.trans hb2
        clear ho2 hb2 ho hbr HST
        go_wp2
        go_roundw
        case rel => exact ⟨k + 1, by omega, by go_num, R1, R2⟩
        case measure => simp [intOf]; omega
      by_cases c32 : s[k].toNat < 32
      · have h15 := and15 s[k].toNat c32
        have r1 := run_hex ((s[k].toNat : Int) / 16) (by omega) (by omega)
        have r2 := run_hex ((s[k].toNat : Int) % 16) (by omega) (by omega)
        go_wp2_with (at_builtin; fail)
        go_region_law (refine step_app wr.drew rfl _ _ rfl base u0 ys rfl (OB.into ho) 6 [92, 117, 48, 48, hexd ((s[k].toNat : Int) / 16), hexd ((s[k].toNat : Int) % 16)] rfl rfl (by decide) (by omega) hbw ?_; intro g1 cap1 w2 ho2 hb2)
        all_goals
          have R1 := HST _ _ _ (esc_low _ (by omega) (by omega) (by omega) (by omega) (by omega) (by omega) (by omega) (by omega)) ho2
          have R2 := hbr.drew.trans hb2
          clear ho2 hb2 ho hbr HST
          go_wp2
          go_roundw
          case rel => exact ⟨k + 1, by omega, by go_num, R1, R2⟩
          case measure => simp [intOf]; omega
      · go_wp2_with (at_builtin; refine wpList_app wr rfl _ _ rfl base u0 ys rfl ho.into 1 [(s[k].toNat : Int)] rfl rfl (by decide) (by omega) hbw ?_)
        intro g1 cap1 w2 ho2 hb2
        have R1 := HST _ _ _ (by unfold esc; repeat rw [if_neg (by omega)]) ho2
        have R2 := hbr.trans hb2
        clear ho2 hb2 ho hbr HST
        go_wp2
        go_roundw
        case rel => exact ⟨k + 1, by omega, by go_num, R1, R2⟩
        case measure => simp [intOf]; omega
    · have hk' : k = s.size := by omega
      subst hk'
      obtain ⟨ys, hys⟩ : ∃ ys, ys = xs ++ 34 :: escs ((bts s).take s.size) := ⟨_, rfl⟩
      rw [← hys] at ho hel
      have HY : Hid (ys = xs ++ 34 :: escs ((bts s).take s.size)) := hys
      clear hys
      go_wp2_with (at_builtin; refine wpList_app wr rfl _ _ rfl base u0 ys rfl ho.into 1 [34] rfl rfl (by decide) (by omega) hbw ?_)
      intro g1 cap1 w2 ho2 hb2
      go_wp2
      go_ret
      have e1 : (bts s).take s.size = bts s := List.take_of_length_le (by rw [bts_length]; exact Nat.le_refl _)
      have e2 : ys.length + 1 = xs.length + (escs (bts s)).length + 2 := by rw [HY.out, e1]; simp; omega
      refine ⟨g1, cap1, by rw [← e2]; rfl, ?_, hbr.trans hb2⟩
      rw [← e2]
      rw [HY.out, e1] at ho2 ⊢
      exact ho2

theorem zapp_any (v : Value) (xs : List Int) (s : ByteArray) (base : Nat) (w : World) (hs : s.size ≤ 1048576) (hx : xs.length ≤ 1073741824) (hin : IB w base v xs) (hb : base ≤ w.heap.size) :
    Calls Try.prog 9 #[v, .string s] w fun e w' => ∃ g cap, e = .returned (.slice (some ⟨g, 0, none⟩) (xs.length + (escs (bts s)).length + 2) cap) ∧ OB w' base (.slice (some ⟨g, 0, none⟩) (xs.length + (escs (bts s)).length + 2) cap) (xs ++ 34 :: escs (bts s) ++ [34]) ∧ Below base w w' := by
  go_enter Try.func9, Try.ntmps9
  go_wp2_with (go_at_call 22; refine (app_any v xs s base _ hs hx hin hb).mono ?_; rintro e w' ⟨g, cap, rfl, ho, hbel⟩)
  go_ret
  exact ⟨g, cap, rfl, ho, hbel⟩

/-- A slice of bytes that can be read: the address a, the bytes ys. -/
def RB (w : World) (a : Option Addr) (ys : List Int) : Prop := (a = none → ys = []) ∧ ∀ x, a = some x → ∀ j, j < ys.length → w.cell? (x.add j) = some (.int .u8 (ys.getD j 0))

theorem RB.into {w : World} {a : Option Addr} {ys : List Int} (h : RB w a ys) (base : Nat) : IB w base (.slice a ys.length ys.length) ys := by
  refine .inr ⟨by simp, a, rfl, fun e => by simp [h.1 e], fun x hx j u hj => ?_⟩
  have hlt : j < ys.length := by
    have := (List.getElem?_eq_some_iff.1 hj).1
    simpa using this
  rw [h.2 x hx j hlt, ← hj]
  simp [hlt]

theorem RB.later {w w' : World} {a : Option Addr} {ys : List Int} (h : RB w a ys) (hb : Below w.heap.size w w') : RB w' a ys :=
  ⟨h.1, fun x hx j hj => cell_later hb (h.2 x hx j hj)⟩

/-- zzCloneBytes, whatever comes in. -/
theorem clone_any (a : Option Addr) (len cap : Nat) (zs : List Int) (w : World) (hl : len ≤ 1048576) (hz : zs.length = len) (hnil : a = none → cap = 0)
    (h : RB w a zs) :
    Calls Try.prog 8 #[.slice a len cap] w fun e w' => ∃ a', e = .returned (.slice a' len len) ∧ RB w' a' zs ∧ Below w.heap.size w w' := by
  cases a with
  | none =>
    obtain rfl := hnil rfl
    have h0 := h.1 rfl
    subst h0
    simp at hz
    subst hz
    refine (clone_nil w).mono ?_
    rintro e w' ⟨rfl, rfl⟩
    exact ⟨none, rfl, ⟨fun _ => rfl, fun x hx => by cases hx⟩, Below.refl _ _⟩
  | some x =>
    refine (clone_some x len cap zs w hl hz (fun i hi => h.2 x rfl i (by omega))).mono ?_
    rintro e w' ⟨rfl, ho, hb, hsz⟩
    subst hz
    refine ⟨_, rfl, ⟨fun e => (by cases e), fun y hy j hj => ?_⟩, hb⟩
    obtain rfl := Option.some.inj hy
    rw [Addr.add_lit, Nat.zero_add]
    exact ho.cell j hj

/-! zzMustEscape -/
theorem must_any (c : Int) (w : World) : Calls Try.prog 13 #[.int .u8 c] w fun e w' => e = .returned (.bool (must c)) ∧ w' = w := by
  by_cases h1 : (c == 34) = true
  · go_enter Try.func13, Try.ntmps13
    go_wp2
    go_ret
    exact ⟨by simp [must, h1], rfl⟩
  · have h1' : (c == 34) = false := by simpa using h1
    clear h1
    by_cases h2 : (c == 92) = true
    · go_enter Try.func13, Try.ntmps13
      go_wp2
      go_ret
      exact ⟨by simp [must, h2], rfl⟩
    · have h2' : (c == 92) = false := by simpa using h2
      clear h2
      go_enter Try.func13, Try.ntmps13
      go_wp2
      go_ret
      exact ⟨by simp [must, h1', h2'], rfl⟩

end Go.Proofs.Qxb6601113a
