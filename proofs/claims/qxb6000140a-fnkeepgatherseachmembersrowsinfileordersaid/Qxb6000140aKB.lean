/-
  kPartsFit.
-/
import Derived.Test.Qxb6000140aKA
namespace Go.Proofs.Qxb6000140a
open Go.RowKit

def cost (ps : List KP) : Nat := (ps.map (fun p => p.rows.length + p.runs.length)).sum

def FitK (ps : List KP) : Prop := ps.length ≤ 4096 ∧ cost ps ≤ 1048576 ∧ ∀ p ∈ ps, p.rows.length ≤ 65536 ∧ p.rates.length ≤ 131072 ∧ p.runs.length ≤ 32768

theorem cost_succ (ps : List KP) (k : Nat) (hk : k < ps.length) : cost (ps.take (k + 1)) = cost (ps.take k) + (ps[k].rows.length + ps[k].runs.length) := by
  rw [List.take_succ_eq_append_getElem hk]
  simp only [cost, List.map_append, List.sum_append, List.map_cons, List.map_nil, List.sum_cons, List.sum_nil, Nat.add_zero]

theorem bound_false {a b : Nat} (h : b ≤ a) : decide ((a : Int) < (b : Int)) = false := by simp; omega
theorem bound_true {a b : Nat} (h : a < b) : decide ((a : Int) < (b : Int)) = true := by simp; omega

set_option maxRecDepth 100000 in
set_option maxHeartbeats 2000000 in
theorem fitK_any (a : Option Addr) (n cap : Nat) (ps : List KP) (w : World) (hl : ps.length = n) (hr : KPs w a ps) (hk : ∀ p ∈ ps, p.ok) (hnm : n ≤ maxLen) :
    Calls Try.prog 16 #[.slice a n cap] w fun e w' => Below w.heap.size w w' ∧ BoolThen e (FitK ps) := by
  unfold maxLen at hnm
  by_cases hn : n ≤ 4096
  · have H : Hid (∀ k (hk : k < ps.length), ∃ b o ra rn rc ta tn tc ua un uc, ps[k].rows.length = rn ∧ ps[k].rates.length = tn ∧ ps[k].runs.length = un ∧ a = some ⟨b, o, none⟩ ∧ w.cell? ⟨b, o + k * 3, none⟩ = some (.slice ra rn rc) ∧ w.cell? ⟨b, o + k * 3 + 1, none⟩ = some (.slice ta tn tc) ∧ w.cell? ⟨b, o + k * 3 + 2, none⟩ = some (.slice ua un uc) ∧
        rn ≤ 9223372036854775807 ∧ tn ≤ 9223372036854775807 ∧ un ≤ 9223372036854775807 ∧ Hid (∀ i, i < un → ∃ b o S, ua = some ⟨b, o, none⟩ ∧ S.size ≤ 9223372036854775807 ∧ w.cell? ⟨b, o + i * 4, none⟩ = some (.string S))) := fun k hkl => by
      obtain ⟨⟨b, o, ha, h0, h1, h2⟩, hr3⟩ := hr k hkl
      obtain ⟨o1, o2, o3, _, o4⟩ := hk _ (List.getElem_mem hkl)
      refine ⟨b, o, _, _, _, _, _, _, _, _, _, rfl, rfl, rfl, ha, h0, h1, h2, o1, o2, o3, fun i hi => ?_⟩
      obtain ⟨b', o', ha', hc', _⟩ := hr3.2.2 i hi
      exact ⟨b', o', _, ha', o4 _ (List.getElem_mem hi), hc'⟩
    have L := hid hl
    clear hl hr hk
    have d0 : decide ((4096 : Int) < (n : Int)) = false := by simp; omega
    go_enter Try.func16, Try.ntmps16
    go_wp2
    go_loopw [3, 4] (fun v i wx => ∃ (k : Nat) (t : Int), k ≤ n ∧ i = .int .i64 k ∧ v = .int .i64 t ∧ t ≤ 1048576 ∧ Hid ((cost (ps.take k) : Int) ≤ t) ∧ Hid (∀ p ∈ ps.take k, p.rows.length ≤ 65536 ∧ p.rates.length ≤ 131072 ∧ p.runs.length ≤ 32768) ∧ 0 ≤ t ∧ Below w.heap.size w wx) (fun _ i _ => n - (intOf i).toNat)
    case atStart => exact ⟨0, _, Nat.zero_le _, rfl, rfl, by omega, (by simp [Hid, cost]; omega), fun p hp => by simp at hp, by omega, Below.refl _ _⟩
    case round =>
      obtain ⟨k, t, hk, rfl, rfl, ht1, HT, HP, ht0, hbr⟩ := hrel
      by_cases hlt : k < n
      · obtain ⟨b, o, ra, rn, rc, ta, tn, tc, ua, un, uc, e1, e2, e3, ha, q0, q1, q2, o1, o2, o3, HU⟩ := H.out k (by rw [L.out]; exact hlt)
        have E1 := hid e1
        have E2 := hid e2
        have E3 := hid e3
        have hbl : b < w.heap.size := World.block_lt_of_cell? _ _ q0
        have c0 := cell_later hbr q0
        have c1 := cell_later hbr q1
        have c2 := cell_later hbr q2
        have hbr' : b < wr.heap.size := Nat.lt_of_lt_of_le hbl hbr.size
        have hal := hbr.alloc hbr.size (.cells #[.slice ra rn rc, .slice ta tn tc, .slice ua un uc] 48)
        clear H e1 e2 e3 q0 q1 q2
        subst ha
        by_cases g1 : rn ≤ 65536
        · have d1 : decide ((65536 : Int) < (rn : Int)) = false := by simp; omega
          by_cases g2 : tn ≤ 131072
          · have d2 : decide ((131072 : Int) < (tn : Int)) = false := by simp; omega
            by_cases g3 : un ≤ 32768
            · have d3 : decide ((32768 : Int) < (un : Int)) = false := by simp; omega
              go_wp2
              any_goals (go_ret; exact ⟨hal, bool_false rfl⟩)
              go_loop [3, 6] (fun v i => ∃ (k : Nat) (t2 : Int), k ≤ un ∧ i = .int .i64 k ∧ v = .int .i64 t2 ∧ t + (16 * rn + 8 * tn + 40 * un) ≤ t2 ∧ t2 ≤ 1048576) (fun _ i => un - (intOf i).toNat)
              case atStart => exact ⟨0, _, Nat.zero_le _, rfl, rfl, by omega, by omega⟩
              case round =>
                obtain ⟨k3, t3, hk3, rfl, rfl, hv0, hv1⟩ := hrel
                by_cases hlt3 : k3 < un
                · obtain ⟨b', o', S, ha', hSm, hcs'⟩ := HU.out k3 hlt3
                  have hcs := cell_later hal hcs'
                  subst ha'
                  go_wp2
                  any_goals (go_ret; exact ⟨hal, bool_false rfl⟩)
                  go_round
                  case rel => exact ⟨k3 + 1, t3 + S.size, by omega, by go_num, rfl, by omega, by omega⟩
                  case measure => simp [intOf]; omega
                · go_wp2
                  go_roundw
                  case rel =>
                    refine ⟨k + 1, t3, by omega, by go_num, rfl, by omega, ?_, ?_, by omega, hal⟩
                    · have := HT.out
                      have h2 := cost_succ ps k (by rw [L.out]; exact hlt)
                      rw [E1.out, E3.out] at h2
                      show (cost (ps.take (k + 1)) : Int) ≤ t3
                      omega
                    · intro p hp
                      rw [List.take_succ_eq_append_getElem (by rw [L.out]; exact hlt)] at hp
                      rcases List.mem_append.1 hp with h | h
                      · exact HP.out p h
                      · simp at h
                        rw [h, E1.out, E2.out, E3.out]
                        exact ⟨g1, g2, g3⟩
                  case measure => simp [intOf]; omega
            · have d3 : decide ((32768 : Int) < (un : Int)) = true := by simp; omega
              go_wp2
              go_ret
              exact ⟨hal, bool_false rfl⟩
          · have d2 : decide ((131072 : Int) < (tn : Int)) = true := by simp; omega
            go_wp2
            go_ret
            exact ⟨hal, bool_false rfl⟩
        · have d1 : decide ((65536 : Int) < (rn : Int)) = true := by simp; omega
          go_wp2
          go_ret
          exact ⟨hal, bool_false rfl⟩
      · go_wp2
        go_ret
        refine ⟨hbr, bool_true rfl ⟨by rw [L.out]; exact hn, ?_, ?_⟩⟩
        · have := HT.out
          rw [List.take_of_length_le (by rw [L.out]; omega)] at this
          omega
        · have := HP.out
          rwa [List.take_of_length_le (by rw [L.out]; omega)] at this
  · clear hl hr hk
    have d0 : decide ((4096 : Int) < (n : Int)) = true := by simp; omega
    go_enter Try.func16, Try.ntmps16
    go_wp2
    go_ret
    exact ⟨Below.refl _ _, bool_false rfl⟩

end Go.Proofs.Qxb6000140a
