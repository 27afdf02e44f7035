/-
  The law on keep: the walk.
-/
import Derived.Test.Qxb6000140aKR
namespace Go.Proofs.Qxb6000140a
open Go.RowKit
attribute [local go_sem] cell_grow frozen_grow pureIn pureUpon loud loudUpon

set_option maxRecDepth 100000 in
set_option maxHeartbeats 80000000 in
theorem kp_walk (a : Option Addr) (n cap : Nat) (ps : List KP) (w : World) (hl : ps.length = n) (hnm : n ≤ maxLen) (hr : KPs w a ps) (hk : ∀ p ∈ ps, p.ok) :
    Calls Try.prog 5 #[.slice a n cap] w fun e w' => e = .returned (.bool true) ∧ Below w.heap.size w w' := by
  have HB := hid (bytesK_any a n cap ps w hl hnm hr hk)
  have HF0 := hid (fitK_any a n cap ps w hl hr hk hnm)
  have L := hid hl
  have HR := hid hr
  have HK := hid hk
  clear hl hr hk
  unfold maxLen at hnm
  go_enter Try.func5, Try.ntmps5
  go_wp2_with fail
  refine Calls.mono HB.out ?_
  rintro e w' ⟨rfl, b, rfl, _⟩
  cases b with
  | false =>
    go_wp2_with fail
    go_ret
    exact ⟨rfl, Below.refl _ _⟩
  | true =>
    go_wp2_with fail
    refine Calls.mono HF0.out ?_
    rintro e wF ⟨bF, b, rfl, F⟩
    cases b with
    | false =>
      clear F
      go_wp2_with fail
      go_ret
      exact ⟨rfl, bF⟩
    | true =>
      have HFit := hid (F rfl)
      have HRF := hid (HR.out.later bF)
      have hn : n ≤ 4096 := by rw [← L.out]; exact HFit.out.1
      have HD0 := hid (domK_any a n cap ps wF L.out HRF.out HK.out hn HFit.out)
      have HBF := hid bF
      clear F HB HF0 bF
      go_wp2_with fail
      refine Calls.mono HD0.out ?_
      rintro e wD ⟨bD, b, rfl, F⟩
      cases b with
      | false =>
        clear F
        go_wp2_with fail
        go_ret
        exact ⟨rfl, HBF.out.trans (bD.mono HBF.out.size)⟩
      | true =>
        have HDom := hid (F rfl)
        have HRD := hid (HRF.out.later bD)
        have HBD := hid (HBF.out.trans (bD.mono HBF.out.size))
        have HBu := hid (build_any a n cap ps wD L.out HRD.out HK.out HFit.out HDom.out)
        clear F HD0 bD HRF HBF HR
        go_wp2_with fail
        refine Calls.mono HBu.out ?_
        rintro e wB ⟨pb, rfl, mb, role, ov, vs, F, hW, hFk, hbB⟩
        have HW := hid hW
        have HFK := hid hFk
        have HRB := hid (HRD.out.later hbB)
        have HBB := hid (HBD.out.trans (hbB.mono HBD.out.size))
        clear hW hFk hbB HBu HRD HBD
        have hmm := @run_makeMap Try.prog
        go_wp2
        obtain ⟨wM, hwM⟩ : ∃ wM, wM = wB.alloc (.map #[] 0) := ⟨_, rfl⟩
        have bM : Below wB.heap.size wB wM := by rw [hwM]; exact (Below.refl _ _).alloc (Nat.le_refl _) _
        have LS0 : Hid (LS wB.heap.size wB.heap.size (.slice none 0 0) (.slice none 0 0) (.slice none 0 0) [] [] wM) := by
          refine ⟨fun k => if k = wB.heap.size then 4 else 0, [], [], ⟨?_, by simp, Nat.le_refl _, ?_, fun k e => by simp [Value.ownBlock] at e, grid_nil _ _ _ _ _ _, grid_nil _ _ _ _ _ _⟩, fun g hg => by simp at hg⟩
          · rw [hwM]; exact mapIs_made wB
          · exact World.ownsRow_nil _ _ _ _
        rw [← hwM]
        clear hwM hmm
        go_loopw [5, 6, 7, 8] (fun nv sv wv iv wx => ∃ i : Nat, i ≤ n ∧ iv = .int .i64 i ∧ Hid (LS wB.heap.size wB.heap.size nv sv wv (allTo ps i) ((allTo ps i).flatMap Key.rows) wx) ∧ Below wB.heap.size wB wx) (fun _ _ _ iv _ => n - (intOf iv).toNat)
        case atStart => exact ⟨0, Nat.zero_le _, rfl, LS0.out, bM⟩
        case round =>
          clear LS0 bM
          obtain ⟨i, hi, rfl, HL, hbr⟩ := hrel
          by_cases hlt : i < n
          · have hil : i < ps.length := by rw [L.out]; exact hlt
            obtain ⟨⟨b, o, ha, q0, q1, q2⟩, hrd⟩ := HRB.out i hil
            have hok := HK.out _ (List.getElem_mem hil)
            have hft := HFit.out.2.2 _ (List.getElem_mem hil)
            have hdm := HDom.out _ (List.getElem_mem hil)
            obtain ⟨p, hp⟩ : ∃ p, p = ps[i] := ⟨_, rfl⟩
            have hFl : (allTo ps i).length + p.runs.length ≤ 1048576 := by
              have h2 := allTo_len ps (i + 1) hil
              have h3 := cost_mono ps (i + 1) hil
              have h4 := HFit.out.2.1
              rw [allTo_succ ps i hil, ← hp] at h2
              simp [keysTo] at h2
              omega
            have PE := hid hp
            rw [← hp] at q0 q1 q2 hrd hok hft hdm
            clear hp
            have hbl : b < wB.heap.size := World.block_lt_of_cell? _ _ q0
            have c0 := cell_later hbr q0
            have c1 := cell_later hbr q1
            have c2 := cell_later hbr q2
            have hbr' : b < wr.heap.size := Nat.lt_of_lt_of_le hbl hbr.size
            obtain ⟨f1, f2, f3⟩ := hft
            obtain ⟨qb, hqb⟩ : ∃ qb, qb = wr.heap.size := ⟨_, rfl⟩
            obtain ⟨wA, hwA⟩ : ∃ wA, wA = wr.alloc (.cells #[.slice p.ra p.rows.length p.rc, .slice p.ta p.rates.length p.tc, .slice p.ua p.runs.length p.uc] 48) := ⟨_, rfl⟩
            have bA : Below wB.heap.size wB wA := by rw [hwA]; exact hbr.alloc hbr.size _
            have LA : LQ wB.heap.size wB.heap.size qb #[.slice p.ra p.rows.length p.rc, .slice p.ta p.rates.length p.tc, .slice p.ua p.runs.length p.uc] u5 u6 u7 (allTo ps i) ((allTo ps i).flatMap Key.rows) wA := by rw [hwA, hqb]; exact HL.out.lq
            have HWA := hid hwA
            have HQB := hid hqb
            have HLA := hid LA
            have HRDp := hid hrd
            have HOK := hid hok
            have HDM := hid hdm
            have HFL := hid hFl
            have HBr := hid hbr
            have a2 : wA.cell? ⟨qb, 2, none⟩ = some (.slice p.ua p.runs.length p.uc) := LA.box.cell 2
            clear hwA hqb LA hrd hok hdm hFl HL q0 q1 q2
            subst ha
            go_wp2
            rw [← HWA.out, ← HQB.out]
            go_loopw [5, 6, 7, 10, 11] (fun nv sv wv fv kv wx => ∃ k : Nat, k ≤ p.runs.length ∧ kv = .int .i64 k ∧ fv = .int .i64 (fN p k : Int) ∧ Hid (LQ wB.heap.size wB.heap.size qb #[.slice p.ra p.rows.length p.rc, .slice p.ta p.rates.length p.tc, .slice p.ua p.runs.length p.uc] nv sv wv (allTo ps i ++ keysTo p i k) ((allTo ps i).flatMap Key.rows) wx) ∧ Below wB.heap.size wB wx) (fun _ _ _ _ kv _ => p.runs.length - (intOf kv).toNat)
            case atStart => exact ⟨0, Nat.zero_le _, rfl, rfl, (by simpa [keysTo, Hid] using HLA.out), bA⟩
            case round =>
              clear HLA a2 c0 c1 c2 bA
              obtain ⟨k, hk, rfl, rfl, HQ, hbx⟩ := hrel
              have e2 : wr.cell? ⟨qb, 2, none⟩ = some (.slice p.ua p.runs.length p.uc) := HQ.out.box.cell 2
              have lq := HQ.out.box.lt
              by_cases hltk : k < p.runs.length
              · as_aux_lemma =>
                  obtain ⟨role1, svs1, wvs1, LW, hG, hr1, hBx⟩ := HQ.out
                  obtain ⟨N, hN⟩ : ∃ N, N = firsts ((allTo ps i ++ keysTo p i k).map fun k => k.nm) := ⟨_, rfl⟩
                  rw [← hN] at LW hG
                  have hNd : N.Nodup := by rw [hN]; exact firsts_nodup _
                  have hKn : ∀ x ∈ allTo ps i ++ keysTo p i k, x.nm ∈ N := fun x hx => by rw [hN]; exact firsts_mem (List.mem_map.2 ⟨x, hx, rfl⟩)
                  have hNl : N.length ≤ 1048576 := by
                    have h1 := firsts_len ((allTo ps i ++ keysTo p i k).map fun k => k.nm)
                    have := HFL.out
                    rw [← hN] at h1
                    simp [keysTo] at h1
                    omega
                  obtain ⟨na, nc, hnv, _⟩ := own_shape LW.nms
                  obtain ⟨sa, sc, hsv, hsg⟩ := own_shape LW.gs.outer
                  obtain ⟨wa, wc0, hwv, hwg⟩ := own_shape LW.gw.outer
                  rw [gridOf_len] at hsv hsg hwv hwg
                  subst hnv
                  subst hsv
                  subst hwv
                  obtain ⟨b', o', hua, r0, r1, r2, r3⟩ := HRDp.out.2.2 k hltk
                  have x0 := cell_later hbx r0
                  have x3 := cell_later hbx r3
                  rw [en_cast HDM.out.2 hltk] at x3
                  obtain ⟨S, hS⟩ : ∃ S, S = p.runs[k].mem := ⟨_, rfl⟩
                  rw [← hS] at x0
                  rw [hua] at e2
                  have R0 : Hid (wB.cell? ⟨b', o' + k * 4, none⟩ = some (.string S)) := by rw [hS]; exact r0
                  have R3 : Hid (wB.cell? ⟨b', o' + k * 4 + 3, none⟩ = some (.int .i64 (fN p (k + 1) : Int))) := by rw [← en_cast HDM.out.2 hltk]; exact r3
                  have SE := hid hS
                  have NE := hid hN
                  have HLW := hid LW
                  have HG := hid hG
                  have HG2 := hid hG
                  have HND := hid hNd
                  have HKN := hid hKn
                  have HBx := hid hBx
                  have ik : (k : Int) < (p.runs.length : Int) := by omega
                  obtain ⟨mi, ok, hlk, HC⟩ : ∃ (mi : Int) (ok : Bool), (Instr.lookup 40 (.map (some wB.heap.size)) (.string S) true).run Try.prog wr = .ok (.tuple #[.int .i64 mi, .bool ok]) wr ∧ Hid ((ok = false ∧ S ∉ N) ∨ (ok = true ∧ ∃ m, ∃ h : m < N.length, N[m] = S ∧ mi = (m : Int))) := by
                    have hl := LW.map.lookup (P := Try.prog) (t := 40) Try.underlying40 Try.underlying9 (zero3 _) S true
                    rcases lk_idx N S with ⟨h1, h2⟩ | ⟨m, hm, h1, h2⟩
                    · exact ⟨0, false, by rw [hl, h2]; rfl, .inl ⟨rfl, h1⟩⟩
                    · exact ⟨m, true, by rw [hl, h2]; rfl, .inr ⟨rfl, m, hm, h1, rfl⟩⟩
                  have HUA := hid hua
                  clear hua r0 r1 r2 r3 hS hN LW hG hNd hKn hBx HQ
                  go_upto_if 71 with fail
                  go_cut [5, 6, 7, 11, 12] from 52 to 121 (fun nv sv wv kv jv wx => kv = .int .i64 k ∧ ∃ m : Nat, jv = .int .i64 m ∧ Hid (∃ role2 svs2 wvs2, ∃ h : m < (addName N S).length, (addName N S)[m] = S ∧ LawIs wx wB.heap.size role2 wB.heap.size nv sv svs2 wv wvs2 (addName N S) (addName N S) (addName N S) (addName N S) (allTo ps i ++ keysTo p i k) ((allTo ps i).flatMap Key.rows) ∧ role2 qb = 0 ∧ Box wx qb #[.slice p.ra p.rows.length p.rc, .slice p.ta p.rates.length p.tc, .slice p.ua p.runs.length p.uc] 48 ∧ Below wB.heap.size wB wx))
                  case first =>
                    rcases HC.out with ⟨rfl, hSN⟩ | ⟨rfl, m, hm, hmS, rfl⟩
                    · have HNO : Hid (lk (idxL N) S = none) := by
                        rcases lk_idx N S with ⟨_, h2⟩ | ⟨m, hm, h1, _⟩
                        · exact h2
                        · exact absurd (h1 ▸ List.getElem_mem hm) hSN
                      have HSN := hid hSN
                      obtain ⟨i9, h9, z90, z91, z92⟩ := info_parts Try.info9
                      obtain ⟨i52, h52, z520, z521, z522⟩ := info_parts Try.info52
                      obtain ⟨i55, h55, z550, z551, z552⟩ := info_parts Try.info55
                      have hqm : qb ≠ wB.heap.size := cells_ne hr1 HLW.out.rm (by decide)
                      have hbs := hbx.size
                      clear hSN HC hlk hsg hwg
                      go_wp2_with (first
                        | (at_mapUpdate; go_loud (refine wpList_mapUpdate_new _ rfl _ _ _ 40 rfl 9 3 Try.underlying40 Try.underlying9 wB.heap.size (idxL N) rfl HLW.out.map S (.int .i64 (N.length : Int)) rfl rfl HNO.out ?_; intro w1 hm1 hg1 hs1; have L1 := hid (HLW.out.mapped hm1 hg1); have kq1 : w1.heap[qb]? = wr.heap[qb]? := hg1.block qb lq (fun e => hqm (Option.some.inj e)); have b1 : Below wB.heap.size wB w1 := hbx.trans ((Below.refl _ _).grown hg1 hbs (fun k hk => Nat.le_of_eq (Option.some.inj hk))); have y2 : w1.cell? ⟨qb, 2, none⟩ = some (.slice (some ⟨b', o', none⟩) p.runs.length p.uc) := (World.cell?_of_block (w := wr) (a := ⟨qb, 2, none⟩) kq1).trans e2; have y0 := cell_later b1 R0.out; have lq1 : qb < w1.heap.size := Nat.lt_of_lt_of_eq lq hs1.symm; have HS1 := hid hs1; have HG1 := hid hg1; have HM1 := hid hm1; clear hs1 hg1 hm1))
                        | (at_builtin; refine wpList_append_keeps w1 rfl _ _ 41 rfl wB.heap.size 9 i9 _ 1 16 Try.underlying41 h9 z90 z91 z92 rfl (by decide) (.slice na N.length nc) N.length (N.map Value.string) rfl (.inl L1.out.nms) 1 1 [.string S] (by simp [Act.eval]) rfl (by decide) (by simp [Value.oneCell']) (by unfold maxLen; omega) (by omega) b1.size ?_; intro g cap w2 hown hbel hkeep; have L2 := hid (L1.out.named hown hkeep); have kq2 : w2.heap[qb]? = w1.heap[qb]? := keeps_role hkeep L1.out.rn (by decide) qb lq1 hr1; have b2 : Below wB.heap.size wB w2 := b1.trans hbel; have lq2 : qb < w2.heap.size := Nat.lt_of_lt_of_le lq1 hbel.size)
                        | (at_builtin; refine wpList_append_keeps w2 rfl _ _ 42 rfl wB.heap.size 52 i52 _ 1 24 Try.underlying42 h52 z520 z521 z522 rfl (by decide) (.slice sa N.length sc) N.length svs1 rfl (.inl (by have := L2.out.gs.outer; rwa [gridOf_len] at this)) 1 1 [.slice none 0 0] (by simp [Act.eval]) rfl (by decide) (by simp [Value.oneCell']) (by unfold maxLen; omega) (by omega) b2.size ?_; intro g2 cap2 w3 hown2 hbel2 hkeep2; have L3 := hid (L2.out.pushS HSN.out HKN.out hown2 hkeep2); have kq3 : w3.heap[qb]? = w2.heap[qb]? := keeps_role hkeep2 L2.out.gs.ro (by decide) qb lq2 ((roleUp_old lq1).trans hr1); have b3 : Below wB.heap.size wB w3 := b2.trans hbel2; have lq3 : qb < w3.heap.size := Nat.lt_of_lt_of_le lq2 hbel2.size)
                        | (at_builtin; refine wpList_append_keeps w3 rfl _ _ 43 rfl wB.heap.size 55 i55 _ 1 24 Try.underlying43 h55 z550 z551 z552 rfl (by decide) (.slice wa N.length wc0) N.length wvs1 rfl (.inl (by have := L3.out.gw.outer; rwa [gridOf_len] at this)) 1 1 [.slice none 0 0] (by simp [Act.eval]) rfl (by decide) (by simp [Value.oneCell']) (by unfold maxLen; omega) (by omega) b3.size ?_; intro g3 cap3 w4 hown3 hbel3 hkeep3; have L4 := hid (L3.out.pushW HSN.out HG.out hown3 hkeep3); have kq4 : w4.heap[qb]? = w3.heap[qb]? := keeps_role hkeep3 L3.out.gw.ro (by decide) qb lq3 ((roleUp_old lq2).trans ((roleUp_old lq1).trans hr1)); have b4 : Below wB.heap.size wB w4 := b3.trans hbel3)
                        | fail)
                      go_meet
                      case rel =>
                        refine ⟨rfl, N.length, rfl, ?_⟩
                        rw [addName_out HSN.out]
                        exact ⟨_, _, _, by simp, by simp, L4.out, (roleUp_old lq3).trans ((roleUp_old lq2).trans ((roleUp_old lq1).trans hr1)), HBx.out.of_heap (kq4.trans (kq3.trans (kq2.trans kq1))), b4⟩
                    · clear hsg hwg hlk
                      go_wp2
                      go_meet
                      case rel =>
                        refine ⟨rfl, m, rfl, ?_⟩
                        rw [addName_in (hmS ▸ List.getElem_mem hm)]
                        exact ⟨_, _, _, hm, hmS, HLW.out, hr1, HBx.out, hbx⟩
                  case rest =>
                    clear HC hlk hsg hwg x0 x3 e2 hr1 HLW HBx HG
                    obtain ⟨rfl, m, rfl, HX⟩ := hcut
                    obtain ⟨role2, svs2, wvs2, N2, hN2, hm, hmS, LW2, hr2, hB2, hb2⟩ : ∃ role2 svs2 wvs2 N2, N2 = addName N S ∧ ∃ h : m < N2.length, N2[m] = S ∧ LawIs wc wB.heap.size role2 wB.heap.size u5 u6 svs2 u7 wvs2 N2 N2 N2 N2 (allTo ps i ++ keysTo p i k) ((allTo ps i).flatMap Key.rows) ∧ role2 qb = 0 ∧ Box wc qb #[.slice p.ra p.rows.length p.rc, .slice p.ta p.rates.length p.tc, .slice p.ua p.runs.length p.uc] 48 ∧ Below wB.heap.size wB wc := by
                      obtain ⟨role2, svs2, wvs2, hm, hmS, L⟩ := HX.out
                      exact ⟨role2, svs2, wvs2, _, rfl, hm, hmS, L⟩
                    have hNd2 : N2.Nodup := by rw [hN2]; exact addName_nodup HND.out S
                    have hGN : ∀ g ∈ (allTo ps i).flatMap Key.rows, g.nm ∈ N2 := fun g hg => by rw [hN2]; exact addName_sub (HG2.out g hg)
                    obtain ⟨sa2, sc2, hsv, hsg⟩ := own_shape LW2.gs.outer
                    rw [gridOf_len] at hsv hsg
                    obtain ⟨g0, hg0⟩ := hsg (by omega)
                    subst hg0
                    subst hsv
                    have hmv : m < svs2.length := by rw [LW2.gs.len, gridOf_len]; exact hm
                    obtain ⟨vm, hvm⟩ : ∃ v, v = svs2[m] := ⟨_, rfl⟩
                    have o1 : wc.ownsRow wB.heap.size 52 1 (.slice (some ⟨g0, 0, none⟩) N2.length sc2) N2.length svs2 := by have := LW2.gs.outer; rwa [gridOf_len] at this
                    have v1 : wc.cell? ⟨g0, m, none⟩ = some vm := by rw [o1.cellAt m (by omega), hvm]; simp
                    have v2 : wc.cell? ⟨qb, 2, none⟩ = some (.slice (some ⟨b', o', none⟩) p.runs.length p.uc) := by rw [← HUA.out]; exact hB2.cell 2
                    have v3 := cell_later hb2 R3.out
                    have hmN : N2.length ≤ 1048577 := by have := addName_len N S; rw [hN2]; omega
                    obtain ⟨sl, hsl⟩ : ∃ sl, sl = (selV ((allTo ps i ++ keysTo p i k).map Key.ent) N2[m]).length := ⟨_, rfl⟩
                    obtain ⟨cs, hcs⟩ : ∃ cs, cs = cells2 (selV ((allTo ps i ++ keysTo p i k).map Key.ent) N2[m]) := ⟨_, rfl⟩
                    have OWN : Hid (wc.drew.ownsRow wB.heap.size 54 2 vm sl cs) := by
                      have := LW2.gs.inner m (by rw [gridOf_len]; exact hm) hmv
                      rw [gridOf_get N2 _ m hm, ← hvm, ← hsl, ← hcs] at this
                      exact this
                    have SL : sl ≤ 1048576 := by
                      have h1 : (selV ((allTo ps i ++ keysTo p i k).map Key.ent) N2[m]).length ≤ (allTo ps i ++ keysTo p i k).length := by
                        unfold selV
                        rw [List.length_map]
                        exact Nat.le_trans (List.length_filter_le _ _) (by simp)
                      have h2 : (allTo ps i ++ keysTo p i k).length ≤ 1048576 := by
                        have := HFL.out
                        simp [keysTo]
                        omega
                      rw [hsl]
                      exact Nat.le_trans h1 h2
                    have HSL := hid hsl
                    have HCS := hid hcs
                    clear hsl hcs
                    have rvm : ∀ j, vm.ownBlock = some j → role2 j = 1 := fun j e => LW2.gs.ri m j hmv (by rw [← hvm]; exact e)
                    have rg0 : role2 g0 = 1 := LW2.gs.ro g0 rfl
                    have hn2 : vm.ownBlock ≠ some g0 := fun e => LW2.gs.dio m g0 hmv (by rw [← hvm]; exact e) rfl
                    have hn3 : vm.ownBlock ≠ some qb := fun e => cells_ne (rvm _ e) hr2 (by decide) rfl
                    have hqg : qb ≠ g0 := cells_ne hr2 rg0 (by decide)
                    have hgB : wB.heap.size ≤ g0 := (o1.lt g0 rfl).1
                    have hbl' : b' < wB.heap.size := World.block_lt_of_cell? _ _ R3.out
                    have lqc := hB2.lt
                    have lgc := (o1.lt g0 rfl).2
                    have hmo := fN_mono HDM.out.2 hltk
                    have hle := fN_le HDM.out.2 (i := k + 1) (by omega)
                    have hrl : fN p (k + 1) ≤ 65536 := by omega
                    obtain ⟨E, hE⟩ : ∃ E, E = fN p (k + 1) := ⟨_, rfl⟩
                    obtain ⟨f0, hf0⟩ : ∃ E, E = fN p k := ⟨_, rfl⟩
                    rw [← hE] at v3 hmo hrl
                    rw [← hf0] at hmo ⊢
                    have KE : Hid (keyAt p i k = ⟨S, i, f0, E - f0⟩) := by
                      have : p.runs[k]? = some p.runs[k] := List.getElem?_eq_getElem hltk
                      have e : keyAt p i k = ⟨S, i, f0, E - f0⟩ := by simp only [keyAt, this, hE, hf0, SE.out, Option.map_some, Option.getD_some]
                      exact e
                    have HE := hid hE
                    have HLW2 := hid LW2
                    have HB2 := hid hB2
                    have HVM := hid hvm
                    have HMS := hid hmS
                    have HO1 := hid o1
                    have HN2 := hid hN2
                    have HND2 := hid hNd2
                    have HGN := hid hGN
                    have HBb := hid hb2
                    clear LW2 hB2 hvm hmS o1 hN2 HX hNd2 hGN hE hf0 hsg hle hb2 lq
                    have SE1 : Seen3 g0 m qb b' (o' + k * 4 + 3) vm (.slice (some ⟨b', o', none⟩) p.runs.length p.uc) (.int .i64 (E : Int)) wc := ⟨v1, v2, v3⟩
                    have SE2 : Seen3 g0 m qb b' (o' + k * 4 + 3) vm (.slice (some ⟨b', o', none⟩) p.runs.length p.uc) (.int .i64 (E : Int)) (wc.alloc (.cells #[.int .i64 (i : Int), .int .i64 (IntKind.i64.wrap ((E : Int) - (f0 : Int)))] 54)).drew := by
                      have bb : Below wc.heap.size wc (wc.alloc (.cells #[.int .i64 (i : Int), .int .i64 (IntKind.i64.wrap ((E : Int) - (f0 : Int)))] 54)).drew := below_drew ((Below.refl _ _).alloc (Nat.le_refl _) _)
                      exact ⟨cell_later bb v1, cell_later bb v2, cell_later bb v3⟩
                    have s1 : ∀ q : SeenW3 g0 m qb b' (o' + k * 4 + 3) vm (.slice (some ⟨b', o', none⟩) p.runs.length p.uc) (.int .i64 (E : Int)), q.w.cell? ⟨g0, m, none⟩ = some vm := fun q => q.ok.1
                    have s2 : ∀ q : SeenW3 g0 m qb b' (o' + k * 4 + 3) vm (.slice (some ⟨b', o', none⟩) p.runs.length p.uc) (.int .i64 (E : Int)), q.w.cell? ⟨qb, 2, none⟩ = some (.slice (some ⟨b', o', none⟩) p.runs.length p.uc) := fun q => q.ok.2.1
                    have s3 : ∀ q : SeenW3 g0 m qb b' (o' + k * 4 + 3) vm (.slice (some ⟨b', o', none⟩) p.runs.length p.uc) (.int .i64 (E : Int)), q.w.cell? ⟨b', o' + k * 4 + 3, none⟩ = some (.int .i64 (E : Int)) := fun q => q.ok.2.2
                    have jne : Nonempty (SeenW3 g0 m qb b' (o' + k * 4 + 3) vm (.slice (some ⟨b', o', none⟩) p.runs.length p.uc) (.int .i64 (E : Int))) := ⟨⟨wc, SE1⟩⟩
                    have im : (m : Int) < (N2.length : Int) := by omega
                    obtain ⟨i54, h54, z540, z541, z542⟩ := info_parts Try.info54
                    go_wp2
                    refine wp_region_float (fun w' => ∃ q : SeenW3 g0 m qb b' (o' + k * 4 + 3) vm (.slice (some ⟨b', o', none⟩) p.runs.length p.uc) (.int .i64 (E : Int)), w' = q.w) 16 19 (by kernel_rfl) (by kernel_rfl) ?_
                    simp only [List.take_succ_cons, List.take_zero, List.drop_succ_cons, List.drop_zero]
                    repeat (refine wpPure_step (fun K hK => ?_); go_simp; refine hK _ ?_; clear hK K)
                    refine wpPure_nil ?_
                    refine wpMid_step ⟨⟨{ wc with drawn := wc.drawn + 1 }, SE1⟩, rfl⟩ (fun K hK => ?_)
                    go_simp
                    refine hK _ _ ?_
                    clear hK K
                    refine wpMid_step ⟨⟨_, SE2⟩, rfl⟩ (fun K hK => ?_)
                    refine loud_append wc.drew rfl _ _ 52 rfl wB.heap.size 54 i54 _ 2 16 Try.underlying52 h54 z540 z541 z542 rfl (by decide) vm sl cs rfl (.inl OWN.out) 1 1 [.int .i64 (i : Int), .int .i64 (IntKind.i64.wrap ((E : Int) - (f0 : Int)))] (by simp [Act.eval]) rfl (by decide) (by simp [Value.oneCell']) (by unfold maxLen; omega) (by omega) (HBb.out.size) ?_
                    intro g cap2 w2 hown hbel hkeep
                    refine hK _ _ ?_
                    clear hK K
                    have t2 : w2.heap[g0]? = wc.heap[g0]? := hkeep.1 g0 lgc hn2
                    have t3 : w2.heap[qb]? = wc.heap[qb]? := hkeep.1 qb lqc hn3
                    have u3 : w2.cell? ⟨b', o' + k * 4 + 3, none⟩ = some (.int .i64 (E : Int)) := cell_later (HBb.out.trans ((below_drew (Below.refl _ wc)).trans hbel)) R3.out |>.trans (by rw [HE.out])
                    have SE3 : Seen3 g0 m qb b' (o' + k * 4 + 3) vm (.slice (some ⟨b', o', none⟩) p.runs.length p.uc) (.int .i64 (E : Int)) w2 :=
                      ⟨(World.cell?_of_block (w := wc) (a := ⟨g0, m, none⟩) t2).trans v1, (World.cell?_of_block (w := wc) (a := ⟨qb, 2, none⟩) t3).trans v2, u3⟩
                    have fz : w2.frozen? ⟨g0, m, none⟩ = false := (World.frozen?_of_block (w := wc) (a := ⟨g0, m, none⟩) t2).trans (HO1.out.frozenAt m)
                    have u1 := SE3.1
                    have u2 := SE3.2.1
                    refine wpMid_step ⟨⟨_, SE3⟩, rfl⟩ (fun K hK => ?_)
                    go_simp
                    refine hK _ _ ?_
                    clear hK K
                    refine wpMid_nil ⟨⟨_, SE3⟩, rfl⟩ ?_
                    have hbg : b' ≠ g0 := by omega
                    have HT3 := hid t3
                    clear t2 t3
                    go_wp2
                    have hsub : IntKind.i64.wrap ((E : Int) - (f0 : Int)) = ((E - f0 : Nat) : Int) := by rw [IntKind.wrap_i64]; omega
                    rw [hsub] at hown
                    have bdr : Below wc.heap.size wc wc.drew := below_drew (Below.refl _ _)
                    have LN := (HLW2.out.later bdr).addS (k := keyAt p i k) (w2 := w2.setCell ⟨g0, m, none⟩ (.slice (some ⟨g, 0, none⟩) (sl + 1) cap2)) HND2.out hm hmv (by rw [KE.out]; exact HMS.out.symm) (by rw [KE.out, ← HSL.out, ← HCS.out]; exact hown) (by rw [← HVM.out]; exact hkeep) rfl
                    have hbC := HBb.out.size
                    refine ⟨⟨k + 1, hltk, by go_num, by rw [HE.out], ?_, ?_⟩, by simp [intOf]; omega⟩
                    · have hnm : N2 = firsts ((allTo ps i ++ keysTo p i (k + 1)).map fun k => k.nm) := by
                        rw [keysTo_succ, ← List.append_assoc, List.map_append, List.map_singleton, firsts_snoc, ← NE.out, KE.out]
                        exact HN2.out
                      rw [List.append_assoc, ← keysTo_succ] at LN
                      show LQ _ _ _ _ _ _ _ _ _ _
                      unfold LQ
                      rw [← hnm]
                      refine ⟨_, _, _, LN, HGN.out, (roleUp_old lqc).trans hr2, HB2.out.of_heap ?_⟩
                      rw [Below.heap_setCell _ _ _ _ hqg]
                      exact HT3.out
                    · exact Below.setCell (HBb.out.trans ((bdr.mono hbC).trans hbel)) hgB _
              · as_aux_lemma =>
                  have hkl : k = p.runs.length := by omega
                  subst hkl
                  have KA : Hid (allTo ps (i + 1) = allTo ps i ++ keysTo p i p.runs.length) := by rw [PE.out]; exact allTo_succ ps i hil
                  obtain ⟨K, hK⟩ : ∃ K, K = allTo ps i ++ keysTo p i p.runs.length := ⟨_, rfl⟩
                  obtain ⟨G0, hG0⟩ : ∃ G, G = (allTo ps i).flatMap Key.rows := ⟨_, rfl⟩
                  rw [← hK, ← hG0] at HQ
                  have KE := hid hK
                  have GE := hid hG0
                  have GL : Hid (G0.length ≤ 65536 * i) := by rw [hG0]; exact all_rows_len HDom.out HFit.out i (by omega)
                  clear hK hG0 hk hltk
                  have ze : decide ((p.runs.length : Int) < (p.runs.length : Int)) = false := by simp
                  go_wp2
                  go_loopw [14, 15] (fun rv ov wx => ∃ r row : Nat, row ≤ p.rows.length ∧ rv = .int .i64 r ∧ ov = .int .i64 row ∧ Hid (r ≤ p.runs.length ∧ fN p r ≤ row ∧ (r < p.runs.length → row ≤ fN p (r + 1))) ∧ Hid (LQ wB.heap.size wB.heap.size qb #[.slice p.ra p.rows.length p.rc, .slice p.ta p.rates.length p.tc, .slice p.ua p.runs.length p.uc] u5 u6 u7 K (G0 ++ part p i r row) wx) ∧ Below wB.heap.size wB wx) (fun _ ov _ => p.rows.length - (intOf ov).toNat)
                  case atStart => exact ⟨0, 0, Nat.zero_le _, rfl, rfl, ⟨Nat.zero_le _, Nat.le_refl _, fun _ => Nat.zero_le _⟩, by rw [part_zero, List.append_nil]; exact HQ.out, hbx⟩
                  case round =>
                    clear HQ hbx e2 lq ze
                    obtain ⟨r0, row, hrow, rfl, rfl, HR0, HQ, hbx⟩ := hrel
                    have e0 : wr.cell? ⟨qb, 0, none⟩ = some (.slice p.ra p.rows.length p.rc) := HQ.out.box.cell 0
                    have e2 : wr.cell? ⟨qb, 2, none⟩ = some (.slice p.ua p.runs.length p.uc) := HQ.out.box.cell 2
                    have lq := HQ.out.box.lt
                    by_cases hlo : row < p.rows.length
                    · have ilo : (row : Int) < (p.rows.length : Int) := by omega
                      obtain ⟨wA2, hwA2⟩ : ∃ wA2, wA2 = wr := ⟨_, rfl⟩
                      subst hwA2
                      go_wp2
                      go_loopw [14] (fun rv wx => ∃ r : Nat, rv = .int .i64 r ∧ wA2 = wx ∧ r ≤ p.runs.length ∧ Hid (fN p r ≤ row ∧ (r < p.runs.length → row ≤ fN p (r + 1)) ∧ part p i r row = part p i r0 row)) (fun rv _ => p.runs.length - (intOf rv).toNat)
                      case atStart => exact ⟨r0, rfl, rfl, HR0.out.1, HR0.out.2.1, HR0.out.2.2, rfl⟩
                      case round =>
                        obtain ⟨r, rfl, rfl, hr, HRr⟩ := hrel
                        by_cases hru : r < p.runs.length
                        · have iru : (r : Int) < (p.runs.length : Int) := by omega
                          obtain ⟨b', o', hua, r0', r1', r2', r3'⟩ := HRDp.out.2.2 r hru
                          have x0 := cell_later hbx r0'
                          have x3 := cell_later hbx r3'
                          rw [en_cast HDM.out.2 hru] at x3
                          rw [hua] at e2
                          by_cases hen : fN p (r + 1) ≤ row
                          · have ien : (fN p (r + 1) : Int) ≤ (row : Int) := by omega
                            clear hua r0' r1' r2' r3'
                            go_wp2
                            refine ⟨⟨r + 1, by go_num, trivial, hru, hen, fun h2 => ?_, ?_⟩, by simp [intOf]; omega⟩
                            · have h1 := HRr.out.2.1 hru
                              have h3 := fN_mono HDM.out.2 h2
                              omega
                            · have h1 := HRr.out.2.1 hru
                              have h3 : fN p (r + 1) = row := by omega
                              rw [← HRr.out.2.2, ← h3]
                              exact (part_next i r hru).symm
                          · have ien : ¬ (fN p (r + 1) : Int) ≤ (row : Int) := by omega
                            have HEN := hid hen
                            obtain ⟨role1, svs1, wvs1, LW, hG, hr1, hBx⟩ := HQ.out
                            obtain ⟨N, hN⟩ : ∃ N, N = firsts (K.map fun k => k.nm) := ⟨_, rfl⟩
                            rw [← hN] at LW hG
                            have hNd : N.Nodup := by rw [hN]; exact firsts_nodup _
                            have hkm : (keyAt p i r).nm = p.runs[r].mem := keyAt_nm p i r hru
                            have hSN : p.runs[r].mem ∈ N := by
                              rw [hN, KE.out]
                              refine firsts_mem (List.mem_map.2 ⟨keyAt p i r, List.mem_append_right _ ?_, hkm⟩)
                              simp only [keysTo, List.mem_map, List.mem_range]
                              exact ⟨r, hru, rfl⟩
                            have hNl : N.length ≤ 1048576 := by
                              have h1 := firsts_len (K.map fun k => k.nm)
                              have := HFL.out
                              rw [← hN, KE.out] at h1
                              simp [keysTo] at h1
                              omega
                            obtain ⟨S, hS⟩ : ∃ S, S = p.runs[r].mem := ⟨_, rfl⟩
                            rw [← hS] at x0 hkm hSN
                            obtain ⟨m, hm, hmS, hlk⟩ : ∃ m, ∃ h : m < N.length, N[m] = S ∧ (Instr.lookup 40 (.map (some wB.heap.size)) (.string S) false).run Try.prog wA2 = .ok (.int .i64 (m : Int)) wA2 := by
                              have hl := LW.map.lookup (P := Try.prog) (t := 40) Try.underlying40 Try.underlying9 (zero3 _) S false
                              rcases lk_idx N S with ⟨h1, h2⟩ | ⟨m, hm, h1, h2⟩
                              · exact absurd hSN h1
                              · exact ⟨m, hm, h1, by rw [hl, h2]; rfl⟩
                            obtain ⟨wa2, wc2, hwv, hwg⟩ := own_shape LW.gw.outer
                            rw [gridOf_len] at hwv hwg
                            obtain ⟨g0, hg0⟩ := hwg (by omega)
                            subst hg0
                            subst hwv
                            have hmv : m < wvs1.length := by rw [LW.gw.len, gridOf_len]; exact hm
                            obtain ⟨vm, hvm⟩ : ∃ v, v = wvs1[m] := ⟨_, rfl⟩
                            have o1 : wA2.ownsRow wB.heap.size 55 1 (.slice (some ⟨g0, 0, none⟩) N.length wc2) N.length wvs1 := by have := LW.gw.outer; rwa [gridOf_len] at this
                            have v1 : wA2.cell? ⟨g0, m, none⟩ = some vm := by rw [o1.cellAt m (by omega), hvm]; simp
                            obtain ⟨sl, hsl⟩ : ∃ sl, sl = (selV ((G0 ++ part p i r0 row).map Rf.ent) N[m]).length := ⟨_, rfl⟩
                            obtain ⟨cs, hcs⟩ : ∃ cs, cs = cells2 (selV ((G0 ++ part p i r0 row).map Rf.ent) N[m]) := ⟨_, rfl⟩
                            have OWN : Hid (wA2.ownsRow wB.heap.size 57 2 vm sl cs) := by
                              have := LW.gw.inner m (by rw [gridOf_len]; exact hm) hmv
                              rw [gridOf_get N _ m hm, ← hvm, ← hsl, ← hcs] at this
                              exact this
                            have SL : sl ≤ 1048576 * 512 := by
                              have h1 := selV_len ((G0 ++ part p i r0 row).map Rf.ent) N[m]
                              have h2 := part_len HDM.out.2 i r0 row HR0.out.1 HR0.out.2.1
                              have h3 := GL.out
                              rw [List.length_map, List.length_append, ← hsl] at h1
                              omega
                            have rvm : ∀ j, vm.ownBlock = some j → role1 j = 2 := fun j e => LW.gw.ri m j hmv (by rw [← hvm]; exact e)
                            have rg0 : role1 g0 = 2 := LW.gw.ro g0 rfl
                            have hn2 : vm.ownBlock ≠ some g0 := fun e => LW.gw.dio m g0 hmv (by rw [← hvm]; exact e) rfl
                            have hn3 : vm.ownBlock ≠ some qb := fun e => cells_ne (rvm _ e) hr1 (by decide) rfl
                            have hqg : qb ≠ g0 := cells_ne hr1 rg0 (by decide)
                            have hgB : wB.heap.size ≤ g0 := (o1.lt g0 rfl).1
                            have lgc := (o1.lt g0 rfl).2
                            have im : (m : Int) < (N.length : Int) := by omega
                            have hbs := hbx.size
                            obtain ⟨i57, h57, z570, z571, z572⟩ := info_parts Try.info57
                            have HLW := hid LW
                            have HG := hid hG
                            have HN := hid hN
                            have HND := hid hNd
                            have HKM := hid hkm
                            have HSN := hid hSN
                            have HMS := hid hmS
                            have HVM := hid hvm
                            have HO1 := hid o1
                            have HSL := hid hsl
                            have HCS := hid hcs
                            have HBX := hid hBx
                            have HBx := hid hbx
                            have HSE := hid hS
                            clear hua r0' r1' r2' r3' hen LW hG hN hNd hkm hSN hmS hvm o1 hsl hcs hBx hS hwg HQ hbx
                            go_wp2_with (first
                              | (at_builtin; refine wpList_append_keeps wA2 rfl _ _ 55 rfl wB.heap.size 57 i57 _ 2 16 Try.underlying55 h57 z570 z571 z572 rfl (by decide) vm sl cs rfl (.inl OWN.out) 1 1 [.int .i64 (i : Int), .int .i64 (row : Int)] (by simp [Act.eval]) rfl (by decide) (by simp [Value.oneCell']) (by unfold maxLen; omega) (by omega) hbs ?_; intro g cap2 w2 hown hbel hkeep; have t2 : w2.heap[g0]? = wA2.heap[g0]? := hkeep.1 g0 lgc hn2; have t3 : w2.heap[qb]? = wA2.heap[qb]? := hkeep.1 qb lq hn3; have u1 := (World.cell?_of_block (w := wA2) (a := ⟨g0, m, none⟩) t2).trans v1; have fz : w2.frozen? ⟨g0, m, none⟩ = false := (World.frozen?_of_block (w := wA2) (a := ⟨g0, m, none⟩) t2).trans (HO1.out.frozenAt m); have HT3 := hid t3; clear t2 t3)
                              | fail)
                            have LN := HLW.out.addW (k := ⟨S, i, row⟩) (w2 := w2.setCell ⟨g0, m, none⟩ (.slice (some ⟨g, 0, none⟩) (sl + 1) cap2)) HND.out hm hmv HMS.out.symm (by rw [← HSL.out, ← HCS.out]; exact hown) (by rw [← HVM.out]; exact hkeep) rfl
                            have hrle : row + 1 ≤ fN p (r + 1) := by have := HEN.out; omega
                            refine ⟨⟨r, row + 1, hlo, rfl, by go_num, ⟨hr, Nat.le_succ_of_le HRr.out.1, fun _ => hrle⟩, ?_, ?_⟩, by simp [intOf]; omega⟩
                            · show LQ _ _ _ _ _ _ _ _ _ _
                              unfold LQ
                              rw [← HN.out, part_row i r row hru HRr.out.1, HRr.out.2.2, HKM.out, ← List.append_assoc]
                              refine ⟨_, _, _, LN, fun x hx => ?_, (roleUp_old lq).trans hr1, HBX.out.of_heap ?_⟩
                              · rcases List.mem_append.1 hx with hx | hx
                                · exact HG.out x hx
                                · obtain rfl := List.mem_singleton.1 hx
                                  exact HSN.out
                              · rw [Below.heap_setCell _ _ _ _ hqg]
                                exact HT3.out
                            · exact Below.setCell (HBx.out.trans hbel) hgB _
                        · have iru : decide ((r : Int) < (p.runs.length : Int)) = false := by simp; omega
                          have HRE : Hid (r = p.runs.length) := by show r = p.runs.length; omega
                          go_wp2
                          refine ⟨⟨r, row + 1, hlo, rfl, by go_num, ⟨hr, Nat.le_succ_of_le HRr.out.1, fun h => absurd h hru⟩, ?_, hbx⟩, by simp [intOf]; omega⟩
                          have e : part p i r (row + 1) = part p i r0 row := by rw [← HRr.out.2.2, HRE.out, part_done, part_done]
                          rw [e]
                          exact HQ.out
                    · have ilo : decide ((row : Int) < (p.rows.length : Int)) = false := by simp; omega
                      have HRow : Hid (row = p.rows.length) := by show row = p.rows.length; omega
                      go_wp2
                      refine ⟨⟨i + 1, hlt, by go_num, ?_, hbx⟩, by simp [intOf]; omega⟩
                      have eK : K = allTo ps (i + 1) := KE.out.trans KA.out.symm
                      have eG : G0 ++ part p i r0 row = (allTo ps (i + 1)).flatMap Key.rows := by
                        have hrr := HR0.out
                        have e1 : row = p.rows.length := HRow.out
                        rw [e1] at hrr ⊢
                        rw [part_end HDM.out.2 i _ r0 rfl hrr.1 hrr.2.1 hrr.2.2, KA.out, List.flatMap_append, GE.out]
                      have := HQ.out.ls
                      rw [eG, eK] at this
                      exact this
          · have hin : n = i := by omega
            subst hin
            have ze : decide ((n : Int) < (n : Int)) = false := by simp
            obtain ⟨role1, svs1, wvs1, LW, hG⟩ := HL.out
            obtain ⟨N, hN⟩ : ∃ N, N = firsts ((allTo ps n).map fun k => k.nm) := ⟨_, rfl⟩
            have hFN : firsts (F.map fun f => f.nm) = N := by rw [map_nm, HFK.out, L.out, hN]
            have W := (HW.out.cast hFN).later hbr
            rw [← hN] at LW hG
            have hNl : N.length ≤ 1048576 := by
              have h1 := firsts_len ((allTo ps n).map fun k => k.nm)
              have h2 := allTo_len ps n (by rw [L.out]; exact Nat.le_refl _)
              have h3 := cost_mono ps n (by rw [L.out]; exact Nat.le_refl _)
              have h4 := HFit.out.2.1
              rw [← hN] at h1
              simp at h1
              omega
            obtain ⟨na, nc, hnv, hng⟩ := own_shape LW.nms
            obtain ⟨sa, sc, hsv, hsg⟩ := own_shape LW.gs.outer
            obtain ⟨wa, wc0, hwv, hwg⟩ := own_shape LW.gw.outer
            obtain ⟨oa, oc, hov, hog⟩ := W.shape
            rw [gridOf_len] at hsv hsg hwv hwg
            subst hnv
            subst hsv
            subst hwv
            subst hov
            obtain ⟨wC, hwC⟩ : ∃ wC, wC = wr := ⟨_, rfl⟩
            subst hwC
            have c2 : wC.cell? ⟨pb, 2, none⟩ = some (.map (some mb)) := W.box.cell 2
            have c3 : wC.cell? ⟨pb, 3, none⟩ = some (.slice oa N.length oc) := W.box.cell 3
            have hml := memberCount_any pb mb (idxL N) wC c2 W.map
            rw [idxL_len] at hml
            have HSC := hid (spanCount_any pb N.length oc oa wC c3)
            have HMC := hid hml
            have HWk := hid W
            have HLW := hid LW
            have HNG := hid hng
            have HSG := hid hsg
            have HWG := hid hwg
            have HOG := hid hog
            have HBR := hid hbr
            have HND := hid (W.nod)
            clear W LW hml hng hsg hwg hog hbr hG hN hFN HL HW
            go_wp2_with fail
            refine Calls.mono HSC.out ?_
            rintro e w' ⟨rfl, rfl⟩
            go_wp2_with fail
            refine Calls.mono HMC.out ?_
            rintro e w' ⟨rfl, rfl⟩
            go_wp2_with fail
            go_loopw [17] (fun jv wx => ∃ j : Nat, j ≤ N.length ∧ jv = .int .i64 j ∧ Below wC.heap.size wC wx) (fun jv _ => N.length - (intOf jv).toNat)
            case atStart => exact ⟨0, Nat.zero_le _, rfl, Below.refl _ _⟩
            case round =>
              obtain ⟨j, hj, rfl, hbj⟩ := hrel
              by_cases hjl : j < N.length
              · as_aux_lemma =>
                  obtain ⟨g0, hg0⟩ := HOG.out (by omega)
                  obtain ⟨gs, hgs⟩ := HSG.out (by omega)
                  obtain ⟨gw, hgw⟩ := HWG.out (by omega)
                  obtain ⟨gn, hgn⟩ := HNG.out (by omega)
                  subst hg0
                  subst hgs
                  subst hgw
                  subst hgn
                  have ij : (j : Int) < (N.length : Int) := by omega
                  obtain ⟨KS, hKS⟩ : ∃ KS, KS = (allTo ps n).filter fun k => decide (k.nm = N[j]) := ⟨_, rfl⟩
                  have JC : Hid (JOk wC role ps g0 gs gw j KS) := by rw [hKS]; exact jok HWk.out HLW.out (by rw [HFK.out, L.out]) hjl
                  have KL : KS.length ≤ 1048576 := by
                    have h2 := allTo_len ps n (by rw [L.out]; exact Nat.le_refl _)
                    have h3 := cost_mono ps n (by rw [L.out]; exact Nat.le_refl _)
                    have h4 := HFit.out.2.1
                    have h5 := List.length_filter_le (fun k : Key => decide (k.nm = N[j])) (allTo ps n)
                    rw [← hKS] at h5
                    omega
                  have RL : (KS.flatMap Key.rows).length ≤ 65536 * 4096 := by
                    have h1 := all_rows_len HDom.out HFit.out n (by rw [L.out]; exact Nat.le_refl _)
                    have h2 : (KS.flatMap Key.rows).length ≤ ((allTo ps n).flatMap Key.rows).length := by
                      rw [hKS, ← filter_rows]
                      exact List.length_filter_le _ _
                    omega
                  have d2 := cell_later hbj c2
                  have d3 := cell_later hbj c3
                  have cn : wC.cell? ⟨gn, j, none⟩ = some (.string N[j]) := by rw [HLW.out.nms.cellAt j (by omega)]; simp [hjl]
                  have dn := cell_later hbj cn
                  have hmi := hid (memberIndex_any pb mb (idxL N) N[j] j wr d2 (HWk.out.map.later hbj) (lk_idx_get HND.out hjl))
                  obtain ⟨S, hS⟩ : ∃ S, S = N[j] := ⟨_, rfl⟩
                  rw [← hS] at cn dn hmi
                  clear hS hKS
                  obtain ⟨a1, q1, e1, _⟩ := (JC.out.later hbj).s
                  obtain ⟨a3, q3, e3, _⟩ := (JC.out.later hbj).k
                  go_wp2_with fail
                  refine Calls.mono hmi.out ?_
                  rintro e w' ⟨rfl, rfl⟩
                  go_wp2_with fail
                  go_quiet ((go_at_call 22; exact quiet_eq (spanRuns_any pb g0 N.length oc j KS.length q3 a3 _ d3 e3 hjl)))
                  obtain ⟨wJ, hwJ⟩ : ∃ wJ, wJ = wr.drewN nq := ⟨_, rfl⟩
                  have hbJ : Below wC.heap.size wC wJ := by rw [hwJ]; exact ⟨hbj.os, hbj.tape, hbj.output, hbj.size, hbj.block⟩
                  rw [← hwJ]
                  clear hwJ d2 d3 dn hmi e1 e3 hbj
                  have hnn : decide ((KS.length : Int) = (KS.length : Int)) = true := by simp
                  go_wp2
                  go_loopw [20, 21] (fun tv kv wx => ∃ k : Nat, k ≤ KS.length ∧ kv = .int .i64 k ∧ tv = .int .i64 (off KS k : Int) ∧ Below wC.heap.size wC wx) (fun _ kv _ => KS.length - (intOf kv).toNat)
                  case atStart => exact ⟨0, Nat.zero_le _, rfl, by simp [off], hbJ⟩
                  case round =>
                    clear hbJ hnn
                    obtain ⟨k, hk, rfl, rfl, hbk⟩ := hrel
                    by_cases hkl : k < KS.length
                    · as_aux_lemma =>
                        have ik : (k : Int) < (KS.length : Int) := by omega
                        obtain ⟨wK, rfl⟩ : ∃ wK : World, wK = wr := ⟨_, rfl⟩
                        obtain ⟨pt, fr, nk, g1, q1, g3, q3, x, y, ym, hpt, l6⟩ := (JC.out.later hbk).l6 hkl
                        obtain ⟨⟨b, o, ha, p0, p1, p2⟩, hrd⟩ := HRB.out pt hpt
                        have hft := HFit.out.2.2 _ (List.getElem_mem hpt)
                        obtain ⟨P, hP⟩ : ∃ P, P = ps[pt] := ⟨_, rfl⟩
                        rw [← hP] at l6 p0 p1 p2 hrd hft
                        have hnk : nk ≤ 65536 := by have := l6.le; omega
                        have bBK : Below wB.heap.size wB wK := HBR.out.trans (hbk.mono HBR.out.size)
                        have ptn : pt < n := by rw [← L.out]; exact hpt
                        have ipt : (pt : Int) < (n : Int) := by omega
                        obtain ⟨ta, hta⟩ : ∃ ta, ta = P.ta := ⟨_, rfl⟩
                        rw [← hta] at p1
                        have ys := l6.ys
                        rw [← hta] at ys
                        have YL : Hid (ta.isSome = true → ym = nk) := by rw [hta]; exact l6.yl
                        obtain ⟨sb, hsb⟩ : ∃ sb, sb = wK.heap.size := ⟨_, rfl⟩
                        obtain ⟨wS, hwS⟩ : ∃ wS, wS = wK.alloc (.cells #[.int .i64 (pt : Int), .int .i64 (nk : Int)] 54) := ⟨_, rfl⟩
                        have bS : Below wK.heap.size wK wS := by rw [hwS]; exact (Below.refl _ _).alloc (Nat.le_refl _) _
                        have BX : Box wS sb #[.int .i64 (pt : Int), .int .i64 (nk : Int)] 54 := by rw [hwS, hsb]; exact box_new _ _ _
                        have bBS : Below wB.heap.size wB wS := bBK.trans (bS.mono bBK.size)
                        have bCS : Below wC.heap.size wC wS := hbk.trans (bS.mono hbk.size)
                        have z0 : wS.cell? ⟨sb, 0, none⟩ = some (.int .i64 (pt : Int)) := BX.cell 0
                        have z1 : wS.cell? ⟨sb, 1, none⟩ = some (.int .i64 (nk : Int)) := BX.cell 1
                        have s1 := l6.s
                        have s2 := l6.s0
                        have s3 := l6.s1
                        have pS := cell_later bBS p1
                        have d3 := cell_later bCS c3
                        have tS := cell_later bS l6.t
                        have t0S := cell_later bS l6.t0
                        have t1S := cell_later bS l6.t1
                        have HL6 := hid (l6.later bS)
                        have HRd := hid hrd
                        have HP0 := hid p0
                        have HP1 := hid p1
                        have HTA := hid hta
                        have HFT := hid hft
                        have HWS := hid hwS
                        have HSB := hid hsb
                        clear l6 p0 p1 p2 hrd hP hta hft hwS hsb BX
                        subst ha
                        go_upto_region 53 with fail
                        rw [← HWS.out, ← HSB.out]
                        clear s1 s2 s3
                        go_wp2_with fail
                        go_quiet ((go_at_call 23; exact quiet_eq (spanLen_any pb g0 N.length oc j g3 KS.length q3 k nk nk (some x) _ d3 tS hjl t0S hkl)))
                        have HRt := hid (spanHasRates_any pb g0 N.length oc j g3 KS.length q3 k ym ym y (wS.drewN nq) d3 tS hjl t1S hkl)
                        go_wp2_with fail
                        refine Calls.mono HRt.out ?_
                        rintro e w' ⟨rfl, rfl⟩
                        go_upto_region 58 with fail
                        go_cut [23, 259] from 214 to 340 (fun hv fv wx => hv = .bool ta.isSome ∧ fv = .bool false ∧ Below wS.heap.size wS wx)
                        case first =>
                          clear ys
                          cases ta with
                          | none =>
                            simp only [Option.isSome_none]
                            go_quiet (fail)
                            go_wp2
                            go_meet
                            case rel => exact ⟨rfl, rfl, ⟨rfl, rfl, rfl, Nat.le_refl _, fun _ _ => rfl⟩⟩
                          | some t =>
                            have hyl := YL.out rfl
                            subst hyl
                            simp only [Option.isSome_some]
                            go_quiet ((go_at_call 25; refine Calls.mono (spanRatesLen_any pb g0 N.length oc j g3 KS.length q3 k _ _ y (World.drewN wS _) d3 tS hjl t1S hkl) ?_; rintro e w' ⟨rfl, rfl⟩; exact ⟨rfl, _, rfl⟩))
                            go_wp2
                            go_meet
                            case rel => exact ⟨rfl, rfl, ⟨rfl, rfl, rfl, Nat.le_refl _, fun _ _ => rfl⟩⟩
                        case rest =>
                          obtain ⟨rfl, rfl, hbc⟩ := hcut
                          have z1c := cell_later hbc z1
                          clear pS tS t0S t1S HRt ys
                          go_wp2
                          go_loopw [20, 24] (fun tv iv wx => ∃ i : Nat, i ≤ nk ∧ iv = .int .i64 i ∧ tv = .int .i64 ((off KS k + i : Nat) : Int) ∧ Below wS.heap.size wS wx) (fun _ iv _ => nk - (intOf iv).toNat)
                          case atStart => exact ⟨0, Nat.zero_le _, rfl, rfl, hbc⟩
                          case round =>
                            clear hbc z1c
                            obtain ⟨i, hi, rfl, rfl, hbi⟩ := hrel
                            obtain ⟨wI, rfl⟩ : ∃ wI : World, wI = wr := ⟨_, rfl⟩
                            have y1 := cell_later hbi z1
                            by_cases hil : i < nk
                            · as_aux_lemma =>
                                have ii : (i : Int) < (nk : Int) := by omega
                                obtain ⟨htl, gg, cc, w0, w1, w2⟩ := (HL6.out.later hbi).wt i hil
                                obtain ⟨rb, hx, hfi, r0, r1, r2⟩ := HL6.out.rw i hil
                                obtain ⟨t, ht⟩ : ∃ t, t = off KS k + i := ⟨_, rfl⟩
                                obtain ⟨tl, hwl⟩ : ∃ tl, tl = (KS.flatMap Key.rows).length := ⟨_, rfl⟩
                                obtain ⟨row, hrow⟩ : ∃ row, row = fr + i := ⟨_, rfl⟩
                                obtain ⟨rn, hrn⟩ : ∃ rn, rn = P.rows.length := ⟨_, rfl⟩
                                obtain ⟨b2, o2, hra, v0, v1, v2⟩ := HRd.out.1 (fr + i) hfi
                                obtain ⟨mo, hmo⟩ : ∃ mo, mo = P.rows[fr + i].mo := ⟨_, rfl⟩
                                obtain ⟨li, hli⟩ : ∃ li, li = P.rows[fr + i].li := ⟨_, rfl⟩
                                obtain ⟨ho, hho⟩ : ∃ ho, ho = P.rows[fr + i].ho := ⟨_, rfl⟩
                                have P0 := HP0.out
                                rw [← ht, ← hwl] at htl
                                rw [← hwl] at w0
                                rw [← ht] at w1 w2 ⊢
                                rw [← hwl] at RL
                                rw [← hmo] at r0 v0
                                rw [← hli] at r1 v1
                                rw [← hho] at r2 v2
                                rw [← hrow] at w2 v0 v1 v2
                                rw [hra, ← hrn] at P0
                                have hrr : row < rn := by rw [hrow, hrn]; exact hfi
                                have irr : (row : Int) < (rn : Int) := by omega
                                have itl : (t : Int) < (tl : Int) := by omega
                                have nit : ¬ (tl : Int) ≤ (t : Int) := by omega
                                obtain ⟨rk, hrk⟩ : ∃ rk, rk = wI.heap.size := ⟨_, rfl⟩
                                obtain ⟨wR, hwR⟩ : ∃ wR, wR = wI.alloc (.cells #[.int .i64 (pt : Int), .int .i64 (row : Int)] 57) := ⟨_, rfl⟩
                                have bR : Below wI.heap.size wI wR := by rw [hwR]; exact (Below.refl _ _).alloc (Nat.le_refl _) _
                                have BY : Box wR rk #[.int .i64 (pt : Int), .int .i64 (row : Int)] 57 := by rw [hwR, hrk]; exact box_new _ _ _
                                have bSR : Below wS.heap.size wS wR := hbi.trans (bR.mono hbi.size)
                                have bBR : Below wB.heap.size wB wR := bBS.trans (bSR.mono bBS.size)
                                have m0 : wR.cell? ⟨rk, 0, none⟩ = some (.int .i64 (pt : Int)) := BY.cell 0
                                have m1 : wR.cell? ⟨rk, 1, none⟩ = some (.int .i64 (row : Int)) := BY.cell 1
                                have n0 := cell_later bSR z0
                                have HTT := hid ht
                                have HRR := hid hrow
                                have HMO := hid hmo
                                have HWR := hid hwR
                                have HRK := hid hrk
                                subst hx
                                have HCR := hid (spanRow_any pb g0 N.length oc j g3 KS.length q3 k nk nk rb (fr * 3) i mo li ho wR (cell_later bSR d3) (cell_later bSR HL6.out.t) hjl (cell_later bSR HL6.out.t0) hkl (cell_later bSR r0) (cell_later bSR r1) (cell_later bSR r2) hil)
                                clear ht hwl hrow hmo hli hho hwR hrk BY hrn hra
                                go_upto_region 66 with fail
                                rw [← HWR.out, ← HRK.out]
                                clear w0 w1 w2 y1
                                go_wp2_with fail
                                refine Calls.mono HCR.out ?_
                                rintro e wQ ⟨rfl, bQ⟩
                                have bBQ : Below wB.heap.size wB wQ := bBR.trans (bQ.mono bBR.size)
                                have bSQ : Below wS.heap.size wS wQ := bSR.trans (bQ.mono bSR.size)
                                have j0 := cell_later bQ m0
                                have j1 := cell_later bQ m1
                                have P0Q := cell_later bBQ P0
                                have v0Q := cell_later bBQ v0
                                have v1Q := cell_later bBQ v1
                                have v2Q := cell_later bBQ v2
                                have ine := gp_ne
                                have l1 : rk < wQ.heap.size := World.block_lt_of_cell? _ _ j0
                                have l2 : b < wQ.heap.size := World.block_lt_of_cell? _ _ P0Q
                                have l3 : b2 < wQ.heap.size := World.block_lt_of_cell? _ _ v0Q
                                clear m0 m1 n0
                                go_wp2_with fail
                                refine wp_region_float (fun w' => ∃ p, w' = grow wQ p) 10 11 (by kernel_rfl) (by kernel_rfl) ?_
                                simp only [List.take_succ_cons, List.take_zero, List.drop_succ_cons, List.drop_zero]
                                repeat (refine wpPure_step (fun K hK => ?_); go_simp; refine hK _ ?_; clear hK K)
                                refine wpPure_nil ?_
                                refine wpMid_step ⟨⟨1, []⟩, rfl⟩ (fun K hK => ?_)
                                go_simp
                                refine hK _ _ ?_
                                clear hK K
                                refine wpMid_nil (grow_alloc wQ ⟨1, []⟩ _) ?_
                                go_upto_region 70 with fail
                                obtain ⟨eb, heb⟩ : ∃ eb, eb = wQ.heap.size := ⟨_, rfl⟩
                                obtain ⟨wE, hwE⟩ : ∃ wE, wE = (wQ.alloc (.cells #[.int .i32 mo, .int .u32 li, .int .i64 ho] 67)).drew := ⟨_, rfl⟩
                                have bE : Below wQ.heap.size wQ wE := by rw [hwE]; exact below_drew ((Below.refl _ _).alloc (Nat.le_refl _) _)
                                have BE : Box wE eb #[.int .i32 mo, .int .u32 li, .int .i64 ho] 67 := by rw [hwE, heb]; exact box_new _ _ _
                                have bSE : Below wS.heap.size wS wE := bSQ.trans (bE.mono bSQ.size)
                                have bBE : Below wB.heap.size wB wE := bBQ.trans (bE.mono bBQ.size)
                                have k0 : wE.cell? ⟨eb, 0, none⟩ = some (.int .i32 mo) := BE.cell 0
                                have k1 : wE.cell? ⟨eb, 1, none⟩ = some (.int .u32 li) := BE.cell 1
                                have k2 : wE.cell? ⟨eb, 2, none⟩ = some (.int .i64 ho) := BE.cell 2
                                have j0E := cell_later bE j0
                                have j1E := cell_later bE j1
                                rw [← hwE, ← heb]
                                clear hwE BE j0 j1 P0Q v0Q v1Q v2Q l1 l2 l3 ine heb
                                go_upto_region 72 with fail
                                go_cut [23, 338] from 260 to 340 (fun hv fv wx => hv = .bool ta.isSome ∧ fv = .bool false ∧ Below wS.heap.size wS wx)
                                case first =>
                                  cases ta with
                                  | none =>
                                    simp only [Option.isSome_none]
                                    go_quiet (fail)
                                    go_wp2
                                    go_meet
                                    case rel => exact ⟨rfl, rfl, below_drewN bSE nq⟩
                                  | some tt =>
                                    have hts : P.ta.isSome = true := by rw [← HTA.out]; rfl
                                    obtain ⟨tb, hy, hfr, rr0⟩ := HL6.out.rt i hil hts
                                    obtain ⟨b3, o3, hb3, rr1⟩ := HRd.out.2.1 (fr + i) hfr
                                    have hyl := YL.out rfl
                                    have htt : tt = ⟨b3, o3, none⟩ := Option.some.inj (HTA.out.trans hb3)
                                    have P1 := cell_later bBE HP1.out
                                    have t1E := cell_later bSE HL6.out.t1
                                    obtain ⟨rt, hrt⟩ : ∃ rt, rt = P.rates[fr + i] := ⟨_, rfl⟩
                                    obtain ⟨tn, htn⟩ : ∃ tn, tn = P.rates.length := ⟨_, rfl⟩
                                    rw [← hrt] at rr0 rr1
                                    rw [← HRR.out] at rr1
                                    have rr1E := cell_later bBE rr1
                                    have rr0E := cell_later bSE rr0
                                    have d3E := cell_later bSE d3
                                    have tE := cell_later bSE HL6.out.t
                                    rw [← htn] at P1
                                    have irt : (row : Int) < (tn : Int) := by rw [HRR.out, htn]; omega
                                    have hiy : i < ym := by omega
                                    subst htt
                                    subst hy
                                    clear hrt htn hb3 hts hyl
                                    simp only [Option.isSome_some]
                                    go_quiet ((go_at_call 27; refine Calls.mono (spanRate_any pb g0 N.length oc j g3 KS.length q3 k ym ym tb fr i rt (World.drewN wE _) d3E tE hjl t1E hkl rr0E hiy) ?_; rintro e w' ⟨rfl, rfl⟩; exact ⟨rfl, _, rfl⟩))
                                    go_wp2
                                    go_meet
                                    case rel => exact ⟨rfl, rfl, below_drewN bSE nq⟩
                                case rest =>
                                  obtain ⟨rfl, rfl, hbn⟩ := hcut
                                  go_wp2
                                  refine ⟨⟨i + 1, hil, by go_num, (by rw [show off KS k + (i + 1) = t + 1 by rw [HTT.out]; omega]; go_num), hbn⟩, by simp [intOf]; omega⟩
                            · have hie : nk = i := by omega
                              subst hie
                              have zi : decide ((nk : Int) < (nk : Int)) = false := by simp
                              have HO := hid (HL6.out.off)
                              go_wp2
                              refine ⟨⟨k + 1, hkl, by go_num, by rw [HO.out], bCS.trans (hbi.mono bCS.size)⟩, by simp [intOf]; omega⟩
                    · have hke : KS.length = k := by omega
                      subst hke
                      have zi : decide ((KS.length : Int) < (KS.length : Int)) = false := by simp
                      obtain ⟨a1, q1, e1, _⟩ := (JC.out.later hbk).s
                      obtain ⟨a2, q2, e2, _⟩ := (JC.out.later hbk).r
                      rw [off_all]
                      obtain ⟨tl, hwl⟩ : ∃ tl, tl = (KS.flatMap Key.rows).length := ⟨_, rfl⟩
                      rw [← hwl] at e2 ⊢
                      clear hwl
                      go_wp2
                      refine ⟨⟨j + 1, hjl, by go_num, hbk⟩, by simp [intOf]; omega⟩
              · have zj : decide ((j : Int) < (N.length : Int)) = false := by simp; omega
                go_wp2
                go_ret
                have hh := HBR.out.trans (hbj.mono HBR.out.size)
                exact ⟨rfl, HBB.out.trans (hh.mono HBB.out.size)⟩

end Go.Proofs.Qxb6000140a
