/-
  kBuild: the walk.
-/
import Derived.Test.Qxb6000140aKI
namespace Go.Proofs.Qxb6000140a
open Go.RowKit

theorem BStE.drewN {wA : World} {p : KP} {pp a b c : Nat} {w : World} (h : BStE wA p pp a b c w) (n : Nat) : BStE wA p pp a b c (w.drewN n) := by
  obtain ⟨tv, uv, R, T, h⟩ := h
  exact ⟨tv, uv, R, T, h.box, h.lp, h.rows, h.rfill, h.rates, h.runs, h.nu, ⟨h.bel.os, h.bel.tape, h.bel.output, h.bel.size, h.bel.block⟩⟩
theorem BStE.bel {wA : World} {p : KP} {pp a b c : Nat} {w : World} (h : BStE wA p pp a b c w) : Below wA.heap.size wA w := by
  obtain ⟨tv, uv, R, T, h⟩ := h
  exact h.bel
theorem BStE.norates {wA : World} {p : KP} {pp a b c b' : Nat} {w : World} (h : BStE wA p pp a b c w) (hb : p.rates.length = 0) : BStE wA p pp a b' c w := by
  obtain ⟨tv, uv, R, T, h⟩ := h
  refine ⟨tv, uv, R, T, h.box, h.lp, h.rows, h.rfill, ?_, h.runs, h.nu, h.bel⟩
  rcases h.rates with h1 | ⟨h1, tb, h2, h3, h4, h5, h6⟩
  · exact .inl h1
  · exact .inr ⟨h1, tb, h2, h3, h4, h5, fun t _ h => by omega⟩

theorem newPart_st' (wA : World) (p : KP) (hn : p.rows.length ≤ 65536) : Calls Try.prog 35 #[.int .i64 (p.rows.length : Int), .bool p.ta.isSome] wA fun e w => ∃ pp, e = .returned (.pointer (some ⟨pp, 0, none⟩)) ∧ BStE wA p pp 0 0 0 w := by
  have h := newPart_st wA p hn
  rwa [show (!p.ta.isNone) = p.ta.isSome by cases p.ta <;> rfl] at h

theorem zzkeep_any (w : World) (base : Nat) (role : Nat → Nat) (pb mb : Nat) (ov : Value) (vs : List Value) (F : List Sp) (ps : List KP) (p : KP) (pt pp rb : Nat) (tv : Value) (ua : Option Addr) (uc : Nat)
    (hw : WorkIs w base role pb mb ov vs (firsts (F.map fun f => f.nm)) F ps) (hp : PartIs w role pp rb tv ua uc p) (hpt : ∃ h : pt < ps.length, ps[pt] = p) (hd : DomP p) (hlen : F.length + p.runs.length ≤ 1048576) (hrl : p.rows.length ≤ 65536) :
    Calls Try.prog 39 #[.pointer (some ⟨pb, 0, none⟩), .pointer (some ⟨pp, 0, none⟩)] w fun e w' => e = .returned (.tuple #[]) ∧ KeepPost w base role pb mb F ps p pt p.runs.length w' := by
  have HK := hid (keep_any w base role pb mb ov vs F ps p pt pp rb tv ua uc hw hp hpt hd hlen hrl)
  clear hw hp hpt hd hlen hrl
  go_enter Try.func39, Try.ntmps39
  go_wp2_with (go_at_call 41; refine HK.out.mono ?_; rintro e w' ⟨rfl, hk⟩)
  go_end0
  exact ⟨rfl, hk⟩

def BuildPost (w : World) (ps : List KP) (e : Ending) (w' : World) : Prop := ∃ pb, e = .returned (.pointer (some ⟨pb, 0, none⟩)) ∧ Built w ps pb ps.length w'

set_option maxRecDepth 100000 in
set_option maxHeartbeats 4000000 in
theorem build_any (a : Option Addr) (n cap : Nat) (ps : List KP) (w : World) (hl : ps.length = n) (hr : KPs w a ps) (hk : ∀ p ∈ ps, p.ok) (hf : FitK ps) (hd : DomK ps) :
    Calls Try.prog 18 #[.slice a n cap] w (BuildPost w ps) := by
  have hn : n ≤ 4096 := by rw [← hl]; exact hf.1
  have HR := hid hr
  have HK := hid hk
  have HF := hid hf
  have HD := hid hd
  have L := hid hl
  clear hl hr hk hf hd
  go_enter Try.func18, Try.ntmps18
  go_wp2_with (go_at_call 34; refine (newWork_any w).mono ?_; rintro e w1 ⟨rfl, hw1⟩; have HW1 := hid hw1; clear hw1)
  go_loopw [4] (fun i wx => ∃ k : Nat, k ≤ n ∧ i = .int .i64 k ∧ Hid (Built w ps (w.heap.size + 1) k wx)) (fun i _ => n - (intOf i).toNat)
  case atStart =>
    refine ⟨0, Nat.zero_le _, rfl, w.heap.size, (fun k => if k = w.heap.size then 3 else if k = w.heap.size + 1 then 2 else 0), .slice none 0 0, [], [], ⟨?_, ?_, grid_nil _ _ _ _ _ _, by simp, by simp, by omega, Nat.le_refl _, by simp [firsts], fun f hf => by simp at hf, fun f hf => by simp at hf⟩, rfl, ?_⟩
    · rw [HW1.out]
      have := box_new (w.alloc (.map #[] 0)) #[.string ByteArray.empty, .bool false, .map (some w.heap.size), .slice none 0 0] 84
      simpa using this
    · rw [HW1.out]
      have := (mapIs_made w).later ((Below.refl _ _).alloc (Nat.le_refl _) (.cells #[.string ByteArray.empty, .bool false, .map (some w.heap.size), .slice none 0 0] 84))
      exact this
    · rw [HW1.out]
      exact ((Below.refl _ _).alloc (Nat.le_refl _) _).alloc (by simp) _
  case round =>
    obtain ⟨k, hk, rfl, HB⟩ := hrel
    by_cases hlt : k < n
    · have hkl : k < ps.length := by rw [L.out]; exact hlt
      obtain ⟨mb, role, ov, vs, F, W, hFk, bl, hr0⟩ : ∃ mb role ov vs F, WorkIs wr w.heap.size role (w.heap.size + 1) mb ov vs (firsts (F.map fun f => f.nm)) F ps ∧ F.map Sp.toKey = allTo ps k ∧ Below w.heap.size w wr ∧ ∀ j, wr.heap.size ≤ j → role j = 0 := by
        obtain ⟨mb, role, ov, vs, F, W, hFk, bl⟩ := HB.out
        exact ⟨_, _, _, _, _, W.norm, hFk, bl, fun j hj => by simp [roleUp]; omega⟩
      obtain ⟨⟨b, o, ha, q0, q1, q2⟩, hrd⟩ := HR.out k hkl
      have hok := HK.out _ (List.getElem_mem hkl)
      have hft := HF.out.2.2 _ (List.getElem_mem hkl)
      have hdm := HD.out _ (List.getElem_mem hkl)
      obtain ⟨p, hp⟩ : ∃ p, p = ps[k] := ⟨_, rfl⟩
      have hFl : F.length + p.runs.length ≤ 1048576 := by
        have h1 := congrArg List.length hFk
        have h2 := allTo_len ps (k + 1) hkl
        have h3 := cost_mono ps (k + 1) hkl
        have h4 := HF.out.2.1
        rw [allTo_succ ps k hkl, ← hp] at h2
        simp [keysTo] at h1 h2
        omega
      have PE := hid hp
      rw [← hp] at q0 q1 q2 hrd hok hft hdm
      clear hp
      have hbl : b < w.heap.size := World.block_lt_of_cell? _ _ q0
      have c0 := cell_later bl q0
      have c1 := cell_later bl q1
      have c2 := cell_later bl q2
      have hbr' : b < wr.heap.size := Nat.lt_of_lt_of_le hbl bl.size
      obtain ⟨f1, f2, f3⟩ := hft
      obtain ⟨wA, hwA⟩ : ∃ wA, wA = wr.alloc (.cells #[.slice p.ra p.rows.length p.rc, .slice p.ta p.rates.length p.tc, .slice p.ua p.runs.length p.uc] 48) := ⟨_, rfl⟩
      have bA : Below wr.heap.size wr wA := by rw [hwA]; exact (Below.refl _ _).alloc (Nat.le_refl _) _
      have BA : Box wA wr.heap.size #[.slice p.ra p.rows.length p.rc, .slice p.ta p.rates.length p.tc, .slice p.ua p.runs.length p.uc] 48 := by rw [hwA]; exact box_new _ _ _
      have a0 : wA.cell? ⟨wr.heap.size, 0, none⟩ = some (.slice p.ra p.rows.length p.rc) := BA.cell 0
      have a1 : wA.cell? ⟨wr.heap.size, 1, none⟩ = some (.slice p.ta p.rates.length p.tc) := BA.cell 1
      have a2 : wA.cell? ⟨wr.heap.size, 2, none⟩ = some (.slice p.ua p.runs.length p.uc) := BA.cell 2
      have lA := BA.lt
      have hrA := hrd.later (bl.trans (bA.mono bl.size))
      have HWA := hid hwA
      have HWK := hid W
      have HFK := hid hFk
      have HBL := hid bl
      have HRA := hid hrA
      have HOK := hid hok
      have HDM := hid hdm
      have HFL := hid hFl
      clear hwA W hFk bl HB BA hrd hrA hok hdm hFl q0 q1 q2 HR HK HF HD HW1
      subst ha
      have hbA := hid (HBL.out.trans (bA.mono HBL.out.size))
      go_wp2_with (go_at_call 35; refine (newPart_st' _ p f1).mono ?_; rintro e w2 ⟨pp, rfl, hB⟩; rw [← HWA.out] at hB; have d0 := cell_later hB.bel a0; have d1 := cell_later hB.bel a1; have HB2 := hid hB; clear hB)
      go_loopw [7] (fun kv wx => ∃ k2 : Nat, k2 ≤ p.rows.length ∧ kv = .int .i64 k2 ∧ Hid (BStE wA p pp k2 0 0 wx)) (fun kv _ => p.rows.length - (intOf kv).toNat)
      case atStart => exact ⟨0, Nat.zero_le _, rfl, HB2.out⟩
      case round =>
        clear HB2 d0 d1
        obtain ⟨k2, hk2, rfl, HS⟩ := hrel
        have e0 := cell_later HS.out.bel a0
        have e1 := cell_later HS.out.bel a1
        have lB := World.block_lt_of_cell? _ _ e0
        by_cases hlt2 : k2 < p.rows.length
        · obtain ⟨b', o', hra, r0, r1, r2⟩ := HRA.out.1 k2 hlt2
          have x0 := cell_later HS.out.bel r0
          have x1 := cell_later HS.out.bel r1
          have x2 := cell_later HS.out.bel r2
          rw [hra] at e0
          have i2 : (k2 : Int) < (p.rows.length : Int) := by omega
          clear hra r0 r1 r2 a0 a1 a2 c0 c1 c2
          go_wp2
          refine wp_region_quiet_tail (fun w' => ∃ n, w' = wr.drewN n) 20 (by kernel_rfl) (by kernel_rfl) ⟨1, rfl⟩ ?_
          simp only [List.take_succ_cons, List.take_zero, List.drop_succ_cons, List.drop_zero]
          repeat (quiet_step (fail))
          refine wpQuiet_nil ?_
          rintro _ ⟨n3, rfl⟩
          go_wp2_with (go_at_call 36; refine (setRow_st wA p pp k2 0 _ (HS.out.drewN n3) hlt2).mono ?_; rintro e w3 ⟨rfl, hB⟩; have HB3 := hid hB; clear hB)
          go_roundw
          case rel => exact ⟨k2 + 1, by omega, by go_num, HB3.out⟩
          case measure => simp [intOf]; omega
        · have hk2e : k2 = p.rows.length := by omega
          subst hk2e
          go_upto_if 58 with fail
          go_cut [8] from 11 to 109 (fun _ wx => Hid (BStE wA p pp p.rows.length p.rates.length 0 wx))
          case first =>
            by_cases hta : p.ta.isSome = true
            · have hne : p.ta ≠ none := fun e => by rw [e] at hta; simp at hta
              have hrr : p.rates.length = p.rows.length := by
                rcases HDM.out.1 with h | h
                · exact absurd h hne
                · exact h
              have HNE := hid hne
              have HRR := hid hrr
              clear hne hrr
              rw [hta]
              go_wp2
              go_loopw [8] (fun kv wx => ∃ k3 : Nat, k3 ≤ p.rates.length ∧ kv = .int .i64 k3 ∧ Hid (BStE wA p pp p.rows.length k3 0 wx)) (fun kv _ => p.rates.length - (intOf kv).toNat)
              case atStart => exact ⟨0, Nat.zero_le _, rfl, HS.out⟩
              case round =>
                clear HS e0 e1 lB
                obtain ⟨k3, hk3, rfl, HS⟩ := hrel
                have e1 := cell_later HS.out.bel a1
                have lB := World.block_lt_of_cell? _ _ e1
                by_cases hlt3 : k3 < p.rates.length
                · obtain ⟨b', o', hra, r0⟩ := HRA.out.2.1 k3 hlt3
                  have x0 := cell_later HS.out.bel r0
                  rw [hra] at e1
                  have i2 : (k3 : Int) < (p.rates.length : Int) := by omega
                  clear hra r0 a0 a1 a2 c0 c1 c2
                  go_wp2_with (go_at_call 37; refine (setRate_st wA p pp p.rows.length k3 _ HS.out HNE.out HRR.out hlt3).mono ?_; rintro e w3 ⟨rfl, hB⟩; have HB3 := hid hB; clear hB)
                  go_roundw
                  case rel => exact ⟨k3 + 1, by omega, by go_num, HB3.out⟩
                  case measure => simp [intOf]; omega
                · have hk3e : k3 = p.rates.length := by omega
                  subst hk3e
                  go_wp2
                  go_meet
                  case rel => exact HS.out
            · have hta' : p.ta.isSome = false := by simpa using hta
              have hn0 : p.ta = none := by simpa using hta'
              have hl0 : p.rates.length = 0 := by rw [(HOK.out.2.2.2.1 hn0).1]; rfl
              have HL0 := hid hl0
              clear hn0 hl0 hta
              rw [hta']
              go_wp2
              go_meet
              case rel => exact HS.out.norates HL0.out
          case rest =>
            clear HS e0 e1 lB
            have g2 := cell_later hcut.out.bel a2
            have lB := World.block_lt_of_cell? _ _ g2
            have HC := hcut
            clear hcut
            go_wp2
            go_loopw [9] (fun kv wx => ∃ k4 : Nat, k4 ≤ p.runs.length ∧ kv = .int .i64 k4 ∧ Hid (BStE wA p pp p.rows.length p.rates.length k4 wx)) (fun kv _ => p.runs.length - (intOf kv).toNat)
            case atStart => exact ⟨0, Nat.zero_le _, rfl, HC.out⟩
            case round =>
              clear HC g2 lB
              obtain ⟨k4, hk4, rfl, HS⟩ := hrel
              have e2 := cell_later HS.out.bel a2
              have lB := World.block_lt_of_cell? _ _ e2
              by_cases hlt4 : k4 < p.runs.length
              · obtain ⟨b', o', hra, r0, r1, r2, r3⟩ := HRA.out.2.2 k4 hlt4
                have x0 := cell_later HS.out.bel r0
                have x1 := cell_later HS.out.bel r1
                have x2 := cell_later HS.out.bel r2
                have x3 := cell_later HS.out.bel r3
                rw [hra] at e2
                have i2 : (k4 : Int) < (p.runs.length : Int) := by omega
                clear hra r0 r1 r2 r3 a0 a1 a2 c0 c1 c2
                go_wp2
                refine wp_region_quiet_tail (fun w' => ∃ n, w' = wr.drewN n) 25 (by kernel_rfl) (by kernel_rfl) ⟨1, rfl⟩ ?_
                simp only [List.take_succ_cons, List.take_zero, List.drop_succ_cons, List.drop_zero]
                repeat (quiet_step (fail))
                refine wpQuiet_nil ?_
                rintro _ ⟨n3, rfl⟩
                go_wp2_with (go_at_call 38; refine (addRun_st wA p pp p.rows.length p.rates.length k4 _ (HS.out.drewN n3) hlt4 f3).mono ?_; rintro e w3 ⟨rfl, hB⟩; have HB3 := hid hB; clear hB)
                go_roundw
                case rel => exact ⟨k4 + 1, by omega, by go_num, HB3.out⟩
                case measure => simp [intOf]; omega
              · have hk4e : k4 = p.runs.length := by omega
                subst hk4e
                have bX := bA.trans (HS.out.bel.mono bA.size)
                have WX := hid (HWK.out.later bX)
                obtain ⟨tv, ua, uc, hPX⟩ := HS.out.part (role := role) (fun j hj => hr0 j (by have := bA.size; omega)) (by
                  rcases HDM.out.1 with h | h
                  · exact .inl h
                  · exact .inr ⟨rfl, h⟩)
                have PX := hid hPX
                have BX := hid bX
                clear hPX bX a0 a1 a2 c0 c1 c2
                go_wp2_with (go_at_call 39; refine (zzkeep_any _ w.heap.size role (w.heap.size + 1) mb ov vs F ps p k pp wA.heap.size tv ua uc WX.out PX.out ⟨hkl, PE.out.symm⟩ HDM.out HFL.out f1).mono ?_; rintro e w4 ⟨rfl, hK⟩; have HK4 := hid hK; clear hK)
                go_roundw
                case rel =>
                  refine ⟨k + 1, by omega, by go_num, ?_⟩
                  obtain ⟨role', ov', vs', F', h1, h2, h3, h4⟩ := HK4.out
                  refine ⟨mb, role', ov', vs', F', h1, ?_, ?_⟩
                  · rw [h2, HFK.out, allTo_succ ps k hkl, ← PE.out]
                  · exact (HBL.out.trans (BX.out.mono HBL.out.size)).trans h4
                case measure => simp [intOf]; omega
    · have hkn : k = n := by omega
      subst hkn
      go_wp2
      go_ret
      refine ⟨_, rfl, ?_⟩
      rw [L.out]
      exact HB.out

end Go.Proofs.Qxb6000140a
