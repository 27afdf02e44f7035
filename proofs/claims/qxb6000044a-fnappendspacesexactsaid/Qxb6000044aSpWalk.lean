import Derived.Test.Qxb6000044aStr
namespace Go.Proofs.Qxb6000044a
open Go.RowKit

theorem zspaces_any (a : Option Addr) (len : Nat) (n : Int) (ys : List Int) (w : World) (hy : ys.length = len) (hl : len ≤ 1048576) (hn : n ≤ 65536) (hr : RB w a ys) :
    Calls Try.prog 10 #[.slice a len len, .int .i64 n] w (SpPost w len n ys) := by
  have H := hideIt (spaces_any a len n ys w hy hl hn hr)
  clear hr hy
  go_enter Try.func10, Try.ntmps10
  go_wp2_with fail
  refine Calls.mono H.out ?_
  rintro e w' ⟨a', N, cap, rfl, h1, h2, h3⟩
  go_wp2
  go_ret
  exact ⟨a', N, cap, rfl, h1, h2, h3⟩

theorem rep_pre (ys : List Int) (m k : Nat) (h : k < ys.length) : (ys ++ List.replicate m (32 : Int)).getD k 0 = ys.getD k 0 := by simp [List.getD, List.getElem?_append_left h]
theorem rep_post (ys : List Int) (m k : Nat) (h : ys.length ≤ k) (h' : k < ys.length + m) : (ys ++ List.replicate m (32 : Int)).getD k 0 = 32 := by
  simp [List.getD, List.getElem?_append_right h]
  rw [List.getElem?_replicate, if_pos (by omega)]
  rfl

set_option maxHeartbeats 1000000 in
theorem sp_walk (a0 : Option Addr) (len0 cap0 : Nat) (ys : List Int) (n : Int) (w : World) (hys : ys.length = len0) (hnil : a0 = none → cap0 = 0) (hrb : RB w a0 ys) (hlen : len0 ≤ maxLen) (hn1 : -9223372036854775808 ≤ n) (hn2 : n ≤ 9223372036854775807) :
    Calls Try.prog 3 #[.slice a0 len0 cap0, .int .i64 n] w fun e w' => e = .returned (.bool true) ∧ Below w.heap.size w w' := by
  unfold maxLen at hlen
  by_cases hsm : len0 ≤ 1048576 ∧ n ≤ 65536
  · obtain ⟨hl0, hl1⟩ := hsm
    have HC := hideIt (clone_any a0 len0 cap0 ys w (by omega) hys hnil hrb)
    have HY := hideIt hys
    clear hnil hrb hys
    go_enter Try.func3, Try.ntmps3
    go_wp2_with (go_at_call 8; go_in)
    refine Calls.mono HC.out ?_
    rintro e w1 ⟨a1, rfl, r1, b1⟩
    have HC2 := hideIt (clone_any a1 len0 len0 ys w1 (by omega) HY.out (fun e => by have := r1.1 e; have h := HY.out; rw [this] at h; simpa using h.symm) r1)
    clear HC
    go_wp2_with fail
    refine Calls.mono HC2.out ?_
    rintro e w2 ⟨a2, rfl, r2, b2⟩
    have HS := hideIt (zspaces_any a2 len0 n ys w2 HY.out hl0 hl1 r2)
    clear HC2
    go_wp2_with fail
    refine Calls.mono HS.out ?_
    rintro e w3 ⟨a3, N, cap, rfl, HN, r3, b3⟩
    have B1 := b1.trans (b2.mono b1.size)
    have hB := hideIt (B1.trans (b3.mono B1.size))
    have R1 := hideIt ((r1.later b2).later b3)
    have R3 := hideIt r3
    clear HS r1 r2 b1 b2 b3 r3 B1
    obtain ⟨m, hm⟩ : ∃ m, m = n.toNat := ⟨_, rfl⟩
    have HM := hideIt hm
    rw [← hm] at HN R3
    have hmb : m ≤ 65536 := by omega
    clear hm
    by_cases hneg : n < 0
    · have hm0 : m = 0 := by have := HM.out; omega
      have hNn : N = len0 := by have := HN.out; omega
      subst hNn
      subst hm0
      go_wp2
      go_loopw [7] (fun i wr => ∃ k : Nat, k ≤ N ∧ i = .int .i64 k ∧ ∃ q, wr = w3.drewN q) (fun i _ => N - (intOf i).toNat)
      case atStart => exact ⟨0, Nat.zero_le _, rfl, 0, rfl⟩
      case round =>
        obtain ⟨k, hk, rfl, nd, rfl⟩ := hrel
        by_cases hlt : k < N
        · obtain ⟨b, o, ha, hcb'⟩ := R1.out.lit (by rw [HY.out]; omega)
          have hcb := hcb' k (by rw [HY.out]; exact hlt)
          obtain ⟨c, p, hc, hcc'⟩ := R3.out.lit (by simp [HY.out]; omega)
          have hcc := hcc' k (by simp [HY.out]; omega)
          rw [rep_pre _ _ k (by rw [HY.out]; exact hlt)] at hcc
          obtain ⟨y, hy⟩ : ∃ y, y = ys.getD k 0 := ⟨_, rfl⟩
          rw [← hy] at hcb hcc
          clear hy hcb' hcc' R1 R3
          subst ha
          subst hc
          go_wp2
          go_quiet (fail)
          go_wp2
          go_roundw
          case rel => exact ⟨k + 1, by omega, by go_num, nd + nq, rfl⟩
          case measure => simp [intOf]; omega
        · go_wp2
          go_loopw [8] (fun i wr => ∃ k : Nat, N ≤ k ∧ k ≤ N ∧ i = .int .i64 k ∧ ∃ q, wr = w3.drewN q) (fun i _ => N - (intOf i).toNat)
          case atStart => exact ⟨N, Nat.le_refl _, by omega, rfl, nd, rfl⟩
          case round =>
            obtain ⟨j, hj1, hj2, rfl, ne, rfl⟩ := hrel
            by_cases hlt2 : j < N
            · obtain ⟨c, p, hc, hcc'⟩ := R3.out.lit (by simp [HY.out]; omega)
              have hcc := hcc' j (by simp [HY.out]; omega)
              rw [rep_post _ _ j (by rw [HY.out]; exact hj1) (by rw [HY.out]; exact hlt2)] at hcc
              clear hcc' R1 R3
              subst hc
              go_wp2
              go_roundw
              case rel => exact ⟨j + 1, by omega, by omega, by go_num, ne, rfl⟩
              case measure => simp [intOf]; omega
            · go_wp2
              go_ret
              exact ⟨rfl, below_drewN hB.out ne⟩
    · obtain ⟨hnn, hnm⟩ : True ∧ n = (m : Int) := ⟨trivial, by have := HM.out; omega⟩
      subst hnm
      have hNv : N = len0 + m := HN.out
      subst hNv
      go_wp2
      go_loopw [7] (fun i wr => ∃ k : Nat, k ≤ len0 ∧ i = .int .i64 k ∧ ∃ q, wr = w3.drewN q) (fun i _ => len0 - (intOf i).toNat)
      case atStart => exact ⟨0, Nat.zero_le _, rfl, 0, rfl⟩
      case round =>
        obtain ⟨k, hk, rfl, nd, rfl⟩ := hrel
        by_cases hlt : k < len0
        · obtain ⟨b, o, ha, hcb'⟩ := R1.out.lit (by rw [HY.out]; omega)
          have hcb := hcb' k (by rw [HY.out]; exact hlt)
          obtain ⟨c, p, hc, hcc'⟩ := R3.out.lit (by simp [HY.out]; omega)
          have hcc := hcc' k (by simp [HY.out]; omega)
          rw [rep_pre _ _ k (by rw [HY.out]; exact hlt)] at hcc
          obtain ⟨y, hy⟩ : ∃ y, y = ys.getD k 0 := ⟨_, rfl⟩
          rw [← hy] at hcb hcc
          clear hy hcb' hcc' R1 R3
          subst ha
          subst hc
          go_wp2
          go_quiet (fail)
          go_wp2
          go_roundw
          case rel => exact ⟨k + 1, by omega, by go_num, nd + nq, rfl⟩
          case measure => simp [intOf]; omega
        · go_wp2
          go_loopw [8] (fun i wr => ∃ k : Nat, len0 ≤ k ∧ k ≤ len0 + m ∧ i = .int .i64 k ∧ ∃ q, wr = w3.drewN q) (fun i _ => len0 + m - (intOf i).toNat)
          case atStart => exact ⟨len0, Nat.le_refl _, by omega, rfl, nd, rfl⟩
          case round =>
            obtain ⟨j, hj1, hj2, rfl, ne, rfl⟩ := hrel
            by_cases hlt2 : j < len0 + m
            · obtain ⟨c, p, hc, hcc'⟩ := R3.out.lit (by simp [HY.out]; omega)
              have hcc := hcc' j (by simp [HY.out]; omega)
              rw [rep_post _ _ j (by rw [HY.out]; exact hj1) (by rw [HY.out]; exact hlt2)] at hcc
              clear hcc' R1 R3
              subst hc
              go_wp2
              go_roundw
              case rel => exact ⟨j + 1, by omega, by omega, by go_num, ne, rfl⟩
              case measure => simp [intOf]; omega
            · go_wp2
              go_ret
              exact ⟨rfl, below_drewN hB.out ne⟩
  · clear hys hnil hrb
    go_enter Try.func3, Try.ntmps3
    go_wp2_with (go_at_call 8; go_in)
    all_goals (go_ret; exact ⟨rfl, Below.refl _ _⟩)

end Go.Proofs.Qxb6000044a
