import Derived.Test.Qxb6000140aBeD
namespace Go.Proofs.Qxb6000140a
open Go.RowKit
attribute [local go_sem] cell_grow frozen_grow

set_option maxHeartbeats 4000000 in
theorem be_walk (a : Option Addr) (n cap : Nat) (m : Int) (l : List Q4) (w : World) (hl : l.length = n) (hnm : n ≤ maxLen) (hr : 0 < n → ∃ b o, a = some ⟨b, o, none⟩ ∧ RQ w b o l) :
    Calls Try.prog 3 #[.slice a n cap, .int .i64 m] w fun e w' => e = .returned (.bool true) ∧ Below w.heap.size w w' := by
  unfold maxLen at hnm
  by_cases hn : n ≤ 32768
  · have H1 := hid (bRows_any a n cap l w hl hn hr)
    have HR := hid hr
    have HL := hid hl
    clear hr hl
    go_enter Try.func3, Try.ntmps3
    go_wp2_with (go_at_call 9; go_in)
    refine Calls.mono H1.out ?_
    rintro e w1 ⟨rfl, rq1, b1, s1⟩
    have H2 := hid (before_any w.heap.size n m l w1 HL.out hn rq1)
    clear H1 rq1
    go_wp2_with (go_at_call 12; go_in)
    refine Calls.mono H2.out ?_
    rintro e w2 ⟨g, cp, N, rfl, HN, rq2, b2⟩
    have hB := hid (b1.trans (b2.mono b1.size))
    have RF := hid rq2
    have RA : Hid (0 < n → ∃ b o, a = some ⟨b, o, none⟩ ∧ RQ w2 b o l) := fun h => by
      obtain ⟨b, o, e1, e2⟩ := HR.out h
      exact ⟨b, o, e1, (e2.later b1).later (b2.mono (Nat.le_refl _))⟩
    have hNn : N ≤ n := by rw [HN.out, ← HL.out]; exact flt_len m l
    clear H2 rq2 b1 b2 HR s1
    go_wp2
    go_loop [6, 7] (fun c i => ∃ k : Nat, k ≤ n ∧ i = .int .i64 k ∧ c = .int .i64 ((flt m (l.take k)).length : Int)) (fun _ i => n - (intOf i).toNat)
    case atStart => exact ⟨0, Nat.zero_le _, rfl, rfl⟩
    case round =>
      obtain ⟨k, hk, rfl, rfl⟩ := hrel
      obtain ⟨c, hc⟩ : ∃ c, c = (flt m (l.take k)).length := ⟨_, rfl⟩
      have hcb : c ≤ k := by rw [hc]; have := flt_len m (l.take k); have := List.length_take_le k l; omega
      rw [← hc]
      have HC := hid hc
      clear hc
      by_cases hlt : k < n
      · have hkl : k < l.length := by rw [HL.out]; exact hlt
        obtain ⟨b, o, ha, hq⟩ := RA.out (by omega)
        have p0 := (hq k hkl).1
        have HNx : Hid (∀ n' : Nat, n' = (if l[k].m < m then c + 1 else c) → n' = (flt m (l.take (k + 1))).length) := fun n' hn' => by
          rw [List.take_succ_eq_append_getElem hkl, flt_snoc, List.length_append, ← HC.out, hn']
          split <;> simp
        generalize l[k] = x at p0 HNx
        obtain ⟨xm, xh, xr, xl⟩ := x
        simp only at p0 HNx
        clear HC RA hq RF
        subst ha
        by_cases hx : xm < m
        · go_wp2
          go_round
          case rel => exact ⟨k + 1, by omega, by go_num, by rw [← HNx.out (c + 1) (by simp [hx])]; go_num⟩
          case measure => simp [intOf]; omega
        · go_wp2
          go_round
          case rel => exact ⟨k + 1, by omega, by go_num, by rw [← HNx.out c (by simp [hx])]⟩
          case measure => simp [intOf]; omega
      · have hkn : k = n := by omega
        subst hkn
        have hcN : c = N := by rw [HC.out, HN.out, List.take_of_length_le (by rw [HL.out]; exact Nat.le_refl _)]
        subst hcN
        clear HC
        go_wp2
        go_loop [8] (fun i => ∃ q : Nat, q ≤ c ∧ i = .int .i64 q) (fun i => c - (intOf i).toNat)
        case atStart => exact ⟨0, Nat.zero_le _, rfl⟩
        case round =>
          obtain ⟨q, hq, rfl⟩ := hrel
          by_cases hlt2 : q < c
          · have hqF : q < (flt m l).length := by rw [← HN.out]; exact hlt2
            have p0 := (RF.out.at0 q hqF).1
            have hxm := flt_lt m l q hqF
            generalize (flt m l)[q] = x at p0 hxm
            obtain ⟨xm, xh, xr, xl⟩ := x
            simp only at p0 hxm
            clear RA RF hqF
            go_wp2
            go_round
            case rel => exact ⟨q + 1, by omega, by go_num⟩
            case measure => simp [intOf]; omega
          · go_wp2
            go_loopw [9, 10] (fun jv i wx => ∃ k2 j : Nat, k2 ≤ k ∧ j ≤ c ∧ i = .int .i64 k2 ∧ jv = .int .i64 j ∧ Hid ((flt m (l.take k2)).length ≤ j) ∧ Below w2.heap.size w2 wx) (fun _ i _ => k - (intOf i).toNat)
            case atStart => exact ⟨0, 0, Nat.zero_le _, Nat.zero_le _, rfl, rfl, Nat.le_refl _, Below.refl _ _⟩
            case round =>
              obtain ⟨k2, j, hk2, hj, rfl, rfl, HG, hbr⟩ := hrel
              by_cases hgo : k2 < k ∧ j < c
              · obtain ⟨g1, g2⟩ := hgo
                have hkl : k2 < l.length := by rw [HL.out]; exact g1
                have hjF : j < (flt m l).length := by rw [← HN.out]; exact g2
                obtain ⟨b, o, ha, hq⟩ := RA.out (by omega)
                obtain ⟨p0, p1, p2, p3⟩ := (hq.later hbr) k2 hkl
                obtain ⟨f0, f1, f2, f3⟩ := (RF.out.later hbr).at0 j hjF
                have HS := hid (greedy_step m l k2 j hkl hjF HG.out)
                generalize (flt m l)[j] = y at f0 f1 f2 f3 HS
                generalize l[k2] = x at p0 p1 p2 p3 HS
                have nb : b < wr.heap.size := World.block_lt_of_cell? _ _ p0
                have ng : g < wr.heap.size := World.block_lt_of_cell? _ _ f0
                have d1 : decide ((k2 : Int) < (k : Int)) = true := by simp; omega
                have i1 : (k2 : Int) < (k : Int) := by omega
                have i2 : (j : Int) < (c : Int) := by omega
                have ine := gp_ne
                clear hq RA RF HG
                subst ha
                go_wp2
                refine wp_region_quiet_cls (fun w' => ∃ p, w' = grow wr p) (by kernel_rfl) (by kernel_rfl) (grow_one wr) ?_
                repeat (quiet_step ((go_at_call 13; refine (same_any y x _).mono ?_; rintro e w' ⟨rfl, rfl⟩; exact ⟨rfl, grow_alloc2 _ _ _ _⟩)))
                refine wpQuiet_nil ?_
                rintro _ ⟨gp, rfl⟩
                have hgb := hbr.trans ((grow_below wr gp).mono hbr.size)
                by_cases hs : sameB y x = true
                · have HS2 := hid (show (flt m (l.take (k2 + 1))).length ≤ j + 1 by have := HS.out; rw [if_pos hs] at this; exact this)
                  clear HS
                  rw [hs]
                  go_wp2
                  go_roundw
                  case rel => exact ⟨k2 + 1, j + 1, by omega, by omega, by go_num, by go_num, HS2, hgb⟩
                  case measure => simp [intOf]; omega
                · have HS2 := hid (show (flt m (l.take (k2 + 1))).length ≤ j by have := HS.out; rw [if_neg hs] at this; exact this)
                  clear HS
                  rw [show sameB y x = false by simpa using hs]
                  go_wp2
                  go_roundw
                  case rel => exact ⟨k2 + 1, j, by omega, by omega, by go_num, rfl, HS2, hgb⟩
                  case measure => simp [intOf]; omega
              · have hjc : j = c := by
                  by_cases e : k2 < k
                  · omega
                  · have e2 : k2 = k := by omega
                    have := HG.out
                    rw [e2, List.take_of_length_le (by rw [HL.out]; exact Nat.le_refl _), ← HN.out] at this
                    omega
                subst hjc
                by_cases e : k2 < k
                · have d1 : decide ((k2 : Int) < (k : Int)) = true := by simp; omega
                  have d2 : decide ((j : Int) < (j : Int)) = false := by simp
                  clear RA RF HG hgo
                  go_wp2
                  go_ret
                  exact ⟨rfl, hB.out.trans (hbr.mono hB.out.size)⟩
                · have d1 : decide ((k2 : Int) < (k : Int)) = false := by simp; omega
                  clear RA RF HG hgo
                  go_wp2
                  go_ret
                  exact ⟨rfl, hB.out.trans (hbr.mono hB.out.size)⟩
  · clear hl hr
    go_enter Try.func3, Try.ntmps3
    go_wp2_with (go_at_call 9; go_in)
    all_goals (go_ret; exact ⟨rfl, Below.refl _ _⟩)

end Go.Proofs.Qxb6000140a
