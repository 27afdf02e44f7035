/-
  kPartsDomain.
-/
import Derived.Test.Qxb6000140aKB
import Derived.Laws.Cover3
namespace Go.Proofs.Qxb6000140a
open Go.RowKit

/-- Where run i begins: the end of the one before. -/
def frm (runs : List K4) : Nat → Int
  | 0 => 0
  | i + 1 => (runs[i]?.map K4.en).getD 0

theorem frm_succ (runs : List K4) (i : Nat) (h : i < runs.length) : frm runs (i + 1) = runs[i].en := by simp [frm, h]

def RunsOk (p : KP) (k : Nat) : Prop := ∀ i (h : i < p.runs.length), i < k → frm p.runs i ≤ p.runs[i].en ∧ p.runs[i].en ≤ p.rows.length
def DomP (p : KP) : Prop := (p.ta = none ∨ p.rates.length = p.rows.length) ∧ RunsOk p p.runs.length
def DomK (ps : List KP) : Prop := ∀ p ∈ ps, DomP p

set_option maxRecDepth 100000 in
set_option maxHeartbeats 4000000 in
theorem domK_any (a : Option Addr) (n cap : Nat) (ps : List KP) (w : World) (hl : ps.length = n) (hr : KPs w a ps) (hk : ∀ p ∈ ps, p.ok) (hn : n ≤ 4096) (hf : FitK ps) :
    Calls Try.prog 17 #[.slice a n cap] w fun e w' => Below w.heap.size w w' ∧ BoolThen e (DomK ps) := by
  have HR := hid hr
  have HK := hid hk
  have HF := hid hf
  have L := hid hl
  clear hl hr hk hf
  go_enter Try.func17, Try.ntmps17
  go_wp2
  go_loopw [3] (fun i wx => ∃ (k : Nat), k ≤ n ∧ i = .int .i64 k ∧ Hid (DomK (ps.take k)) ∧ Below w.heap.size w wx) (fun i _ => n - (intOf i).toNat)
  case atStart => exact ⟨0, Nat.zero_le _, rfl, fun p hp => by simp at hp, Below.refl _ _⟩
  case round =>
    obtain ⟨k, hk, rfl, HD, hbr⟩ := hrel
    by_cases hlt : k < n
    · have hkl : k < ps.length := by rw [L.out]; exact hlt
      obtain ⟨⟨b, o, ha, q0, q1, q2⟩, hrd⟩ := HR.out k hkl
      have hok := HK.out _ (List.getElem_mem hkl)
      have hft := HF.out.2.2 _ (List.getElem_mem hkl)
      obtain ⟨p, hp⟩ : ∃ p, p = ps[k] := ⟨_, rfl⟩
      have PE := hid hp
      rw [← hp] at q0 q1 q2 hrd hok hft
      clear hp
      have hbl : b < w.heap.size := World.block_lt_of_cell? _ _ q0
      have c0 := cell_later hbr q0
      have c1 := cell_later hbr q1
      have c2 := cell_later hbr q2
      have hbr' : b < wr.heap.size := Nat.lt_of_lt_of_le hbl hbr.size
      obtain ⟨rn, hrn⟩ : ∃ rn, p.rows.length = rn := ⟨_, rfl⟩
      obtain ⟨tn, htn⟩ : ∃ tn, p.rates.length = tn := ⟨_, rfl⟩
      obtain ⟨un, hun⟩ : ∃ un, p.runs.length = un := ⟨_, rfl⟩
      have RN := hid hrn
      have UN := hid hun
      have TN := hid htn
      rw [hrn] at c0 hft
      rw [htn] at c1 hft
      rw [hun] at c2 hft
      obtain ⟨f1, f2, f3⟩ := hft
      have hal := hbr.alloc hbr.size (.cells #[.slice p.ra rn p.rc, .slice p.ta tn p.tc, .slice p.ua un p.uc] 48)
      have HA := hid hal
      have HRD := hid hrd
      have HOK := hid hok
      have step : DomP p → Hid (DomK (ps.take (k + 1))) := fun hd q hq => by
        rw [List.take_succ_eq_append_getElem hkl] at hq
        rcases List.mem_append.1 hq with h | h
        · exact HD.out q h
        · simp at h
          rw [h, ← PE.out]; exact hd
      have STEP := hid step
      clear HR HK HF q0 q1 q2 hrn htn hun hal hrd hok step HD PE
      subst ha
      have HC : Hid (∀ c, c < un → ∃ b o, p.ua = some ⟨b, o, none⟩ ∧ ∃ (hc : c < p.runs.length), w.cell? ⟨b, o + c * 4 + 3, none⟩ = some (.int .i64 p.runs[c].en)) := fun c hc => by
        have hc' : c < p.runs.length := by rw [UN.out]; exact hc
        obtain ⟨b, o, hb, _, _, _, h3⟩ := HRD.out.2.2 c hc'
        exact ⟨b, o, hb, hc', h3⟩
      obtain ⟨wA, hwA⟩ : ∃ wA, wA = wr.alloc (.cells #[.slice p.ra rn p.rc, .slice p.ta tn p.tc, .slice p.ua un p.uc] 48) := ⟨_, rfl⟩
      have a0 : wA.cell? ⟨wr.heap.size, 0, none⟩ = some (.slice p.ra rn p.rc) := by rw [hwA]; simp
      have a2 : wA.cell? ⟨wr.heap.size, 2, none⟩ = some (.slice p.ua un p.uc) := by rw [hwA]; simp
      have hlt' : Below w.heap.size w wA := by rw [hwA]; exact HA.out
      by_cases hC : p.ta.isNone = false ∧ ¬ tn = rn
      · have hta := hC.1
        have hne := hC.2
        have d1 : decide ((tn : Int) = (rn : Int)) = false := by simp; omega
        go_wp2
        go_ret
        exact ⟨HA.out, bool_false rfl⟩
      · have hD : p.ta.isNone = true ∨ (p.ta.isNone = false ∧ (tn : Int) = (rn : Int)) := by
          cases h : p.ta.isNone
          · rw [h] at hC; right; exact ⟨rfl, by simp at hC; omega⟩
          · left; rfl
        have HDO : Hid (p.ta = none ∨ p.rates.length = p.rows.length) := by
          rcases hD with h | h
          · left; simpa using h
          · right; rw [TN.out, RN.out]; exact Int.ofNat.inj h.2
        clear hC
        have HWA := hid hwA
        clear hwA
        rcases hD with hta | ⟨hta, htr⟩
        all_goals (
          go_wp2
          rw [← HWA.out]
          go_loopw [5, 6] (fun v i wx => ∃ (k2 : Nat) (t : Int), k2 ≤ un ∧ i = .int .i64 k2 ∧ v = .int .i64 t ∧ Hid (t = frm p.runs k2) ∧ Hid (RunsOk p k2) ∧ Below wA.heap.size wA wx) (fun _ i _ => un - (intOf i).toNat)
          case atStart => exact ⟨0, 0, Nat.zero_le _, rfl, rfl, rfl, fun i _ h => by omega, Below.refl _ _⟩
          case round =>
            obtain ⟨k2, t, hk2, rfl, rfl, HT, HRO, hbx⟩ := hrel
            have b2 := cell_later hbx a2
            have b0 := cell_later hbx a0
            have hnl := World.block_lt_of_cell? _ _ b2
            have hbz := hlt'.trans (hbx.mono hlt'.size)
            by_cases hlt2 : k2 < un
            · obtain ⟨b', o', hua, hc', hen⟩ := HC.out k2 hlt2
              have b3 := cell_later hbx (cell_later hlt' hen)
              obtain ⟨x, hx⟩ : ∃ x, x = p.runs[k2].en := ⟨_, rfl⟩
              rw [← hx] at b3
              have HX := hid hx
              clear hx hen
              rw [hua] at b2
              have nq1 := World.block_lt_of_cell? _ _ b3
              have i1 : (k2 : Int) < (un : Int) := by omega
              clear HA a0 a2 c0 c1 c2 hua
              by_cases g1 : x < t
              · have d1 : decide (x < t) = true := by simpa using g1
                go_wp2
                go_quiet (fail)
                go_wp2
                go_ret
                exact ⟨hbz.trans ⟨rfl, rfl, rfl, Nat.le_refl _, fun _ _ => rfl⟩, bool_false rfl⟩
              · have d1 : decide (x < t) = false := by simpa using g1
                by_cases g2 : (rn : Int) < x
                · have d2 : decide ((rn : Int) < x) = true := by simpa using g2
                  go_wp2
                  go_quiet (fail)
                  go_wp2
                  go_ret
                  exact ⟨hbz.trans ⟨rfl, rfl, rfl, Nat.le_refl _, fun _ _ => rfl⟩, bool_false rfl⟩
                · have d2 : decide ((rn : Int) < x) = false := by simpa using g2
                  go_wp2
                  go_quiet (fail)
                  go_wp2
                  go_roundw
                  case rel =>
                    refine ⟨k2 + 1, x, by omega, by go_num, rfl, ?_, ?_, hbx.trans ⟨rfl, rfl, rfl, Nat.le_refl _, fun _ _ => rfl⟩⟩
                    · rw [HX.out]; exact (frm_succ _ _ hc').symm
                    · intro i hi hik
                      by_cases hik' : i < k2
                      · exact HRO.out i hi hik'
                      · obtain rfl : i = k2 := by omega
                        rw [← HX.out, RN.out, ← HT.out]
                        exact ⟨by omega, by omega⟩
                  case measure => simp [intOf]; omega
            · go_wp2
              go_roundw
              case rel =>
                refine ⟨k + 1, by omega, by go_num, STEP.out ⟨HDO.out, ?_⟩, hbz⟩
                intro i hi _
                exact HRO.out i hi (by have := UN.out; omega)
              case measure => simp [intOf]; omega)
    · go_wp2
      go_ret
      refine ⟨hbr, bool_true rfl ?_⟩
      have := HD.out
      rwa [List.take_of_length_le (by rw [L.out]; omega)] at this

end Go.Proofs.Qxb6000140a
