import Derived.Test.Qxb6000044aPtF
namespace Go.Proofs.Qxb6000044a
open Go.RowKit

theorem fits_of {rows rows' : List RowD} {n : Nat} (h : rows'.map RowD.ss = rows.map RowD.ss) (hf : ∀ r ∈ rows, r.ss.length ≤ n) : ∀ r ∈ rows', r.ss.length ≤ n := by
  intro r hr
  have : r.ss ∈ rows.map RowD.ss := by rw [← h]; exact List.mem_map_of_mem hr
  obtain ⟨r0, h0, e⟩ := List.mem_map.1 this
  rw [← e]
  exact hf r0 h0

set_option maxRecDepth 100000 in
set_option maxHeartbeats 4000000 in
theorem pt_walk (cp : ByteArray) (a1 a2 a3 : Option Addr) (n1 n2 n3 c1 c2 c3 : Nat) (ts : List ByteArray) (bs : List Bool) (rows : List RowD) (w : World) (hcp : cp.size ≤ maxLen)
    (h1 : ts.length = n1) (h2 : bs.length = n2) (h3 : rows.length = n3) (m1 : n1 ≤ maxLen) (m2 : n2 ≤ maxLen) (m3 : n3 ≤ maxLen) (r1 : RV w a1 (strsV ts)) (r2 : RV w a2 (bs.map Value.bool)) (r3 : RR w a3 rows)
    (k1 : a1 = none → c1 = 0) (k2 : a2 = none → c2 = 0) (k3 : a3 = none → c3 = 0)
    (z1 : ∀ s ∈ ts, s.size ≤ maxLen) (z3 : ∀ r ∈ rows, r.ss.length ≤ maxLen ∧ ∀ s ∈ r.ss, s.size ≤ maxLen) :
    Calls Try.prog 5 #[.string cp, .slice a1 n1 c1, .slice a2 n2 c2, .slice a3 n3 c3] w fun e w' => e = .returned (.bool true) ∧ Below w.heap.size w w' := by
  have HB := hid (bytesPt_any cp a1 a2 a3 n1 n2 n3 c1 c2 c3 ts rows w hcp h1 h3 m1 m2 m3 r1 r3 z1 z3)
  have HW := hid (within_any cp a1 a2 a3 n1 n2 n3 c1 c2 c3 ts rows w hcp h1 h3 m1 m2 m3 r1 r3 z1 z3)
  have R1 := hid r1
  have R2 := hid r2
  have R3 := hid r3
  have L1 := hid h1
  have L2 := hid h2
  have L3 := hid h3
  have K1 := hid k1
  have K2 := hid k2
  have K3 := hid k3
  clear z1 z3 r1 r2 r3 h1 h2 h3 k1 k2 k3
  unfold maxLen at hcp m1 m2 m3
  go_enter Try.func5, Try.ntmps5
  go_wp2_with fail
  refine Calls.mono HB.out ?_
  rintro e w' ⟨rfl, b, rfl, _⟩
  cases b with
  | false =>
    go_wp2_with fail
    go_ret
    exact ⟨rfl, Below.refl _ _⟩
  | true =>
    go_wp2_with fail
    refine Calls.mono HW.out ?_
    rintro e w' ⟨rfl, b, rfl, F⟩
    cases b with
    | false =>
      clear F
      go_wp2_with fail
      go_ret
      exact ⟨rfl, Below.refl _ _⟩
    | true =>
      obtain ⟨hn1, hn3, hrl⟩ := F rfl
      have HRL := hid hrl
      clear F hrl HB HW
      by_cases e12 : n2 = n1
      · subst e12
        have HF := hid (fit_any n2 n3 c3 a3 rows w L3.out hn1 hn3 R3.out HRL.out)
        go_wp2_with fail
        refine Calls.mono HF.out ?_
        rintro e w' ⟨rfl, b, rfl, F⟩
        cases b with
        | false =>
          clear F
          go_wp2_with fail
          go_ret
          exact ⟨rfl, Below.refl _ _⟩
        | true =>
          have hfit : ∀ r ∈ rows, r.ss.length ≤ n2 := F rfl
          have HFit := hid hfit
          have C1 := hid (cloneS_any a1 n2 c1 ts w hn1 L1.out K1.out R1.out)
          clear F hfit HF
          go_wp2_with fail
          refine Calls.mono C1.out ?_
          rintro e wa ⟨a1', rfl, rv1, b1, _, _⟩
          have C2 := hid (cloneB_any a2 n2 c2 bs wa hn1 L2.out K2.out (R2.out.later b1))
          clear C1
          go_wp2_with fail
          refine Calls.mono C2.out ?_
          rintro e wb ⟨a2', rfl, rv2, b2, _, _⟩
          have C3 := hid (cloneR_any a3 n3 c3 rows wb hn3 L3.out K3.out ((R3.out.later b1).later b2) HRL.out)
          clear C2
          go_wp2_with fail
          refine Calls.mono C3.out ?_
          rintro e wc ⟨a3', rows', rfl, hss, rr3, b3⟩
          have hl' : rows'.length = n3 := by have := congrArg List.length hss; simp at this; rw [this, L3.out]
          have C4 := hid (zpage_any cp a1' a2' a3' n2 n3 n2 n2 n3 ts bs rows' wc L1.out L2.out hl' hn1 hn3 ((rv1.later b2).later b3) (rv2.later b3) rr3 (fits_of hss HFit.out))
          have V1 := hid ((rv1.later b2).later b3)
          have V2 := hid (rv2.later b3)
          have V3 := hid rr3
          have L' := hid hl'
          have F' := hid (fits_of hss HFit.out)
          have B3 := hid ((b1.trans (b2.mono b1.size)).trans (b3.mono (Nat.le_trans b1.size b2.size)))
          clear C3 rv1 rv2 rr3 b1 b2 b3 hss hl' HFit R1 R2 R3 K1 K2 K3 HRL
          go_wp2_with fail
          refine Calls.mono C4.out ?_
          rintro e wd ⟨ah, ag, ch, cg, rfl, bd, hh, hg⟩
          have hal : Below wd.heap.size wd (wd.alloc (.cells #[.string cp, .slice ah n2 ch, .slice ag n3 cg] 39)) := (Below.refl _ _).alloc (Nat.le_refl _) _
          have t1 : (wd.alloc (.cells #[.string cp, .slice ah n2 ch, .slice ag n3 cg] 39)).cell? ⟨wd.heap.size, 1, none⟩ = some (.slice ah n2 ch) := by simp
          have t2 : (wd.alloc (.cells #[.string cp, .slice ah n2 ch, .slice ag n3 cg] 39)).cell? ⟨wd.heap.size, 2, none⟩ = some (.slice ag n3 cg) := by simp
          have Q1 := hid ((V1.out.later bd).later hal)
          have Q2 := hid ((V2.out.later bd).later hal)
          have Q3 := hid ((V3.out.later bd).later hal)
          have QB := hid ((B3.out.trans (bd.mono B3.out.size)).trans (hal.mono (Nat.le_trans B3.out.size bd.size)))
          have HH : Hid (0 < n2 → ∃ g, ah = some ⟨g, 0, none⟩ ∧ PageRow (wd.alloc (.cells #[.string cp, .slice ah n2 ch, .slice ag n3 cg] 39)) g (ts.zip bs)) := fun hp => by
            obtain ⟨g, x1, _, x3⟩ := hh hp
            exact ⟨g, x1, fun i hi => ⟨cell_later hal (x3 i hi).1, cell_later hal (x3 i hi).2⟩⟩
          have HG : Hid (0 < n3 → ∃ g, ag = some ⟨g, 0, none⟩ ∧ ∀ j (h : j < rows'.length), ∃ M, (wd.alloc (.cells #[.string cp, .slice ah n2 ch, .slice ag n3 cg] 39)).cell? ⟨g, j, none⟩ = some (.slice (some ⟨M, 0, none⟩) rows'[j].ss.length rows'[j].ss.length) ∧ PageRow (wd.alloc (.cells #[.string cp, .slice ah n2 ch, .slice ag n3 cg] 39)) M (rows'[j].ss.zip ((ts.zip bs).map Prod.snd))) := fun hp => by
            obtain ⟨g, x1, _, x3⟩ := hg hp
            refine ⟨g, x1, fun j hj => ?_⟩
            obtain ⟨M, _, y2, y3⟩ := x3 j hj
            exact ⟨M, cell_later hal y2, fun i hi => ⟨cell_later hal (y3 i hi).1, cell_later hal (y3 i hi).2⟩⟩
          clear V1 V2 V3 B3 bd hh hg hal C4
          go_wp2_with fail
          generalize wd.alloc (.cells #[.string cp, .slice ah n2 ch, .slice ag n3 cg] 39) = wq at t1 t2 Q1 Q2 Q3 QB HH HG ⊢
          generalize wd.heap.size = T at t1 t2 ⊢
          go_loopw [10] (fun i wx => ∃ k : Nat, k ≤ n2 ∧ i = .int .i64 k ∧ ∃ q, wx = wq.drewN q) (fun i _ => n2 - (intOf i).toNat)
          case atStart => exact ⟨0, Nat.zero_le _, rfl, 0, rfl⟩
          case round =>
            obtain ⟨k, hk, rfl, nd, rfl⟩ := hrel
            by_cases hlt : k < n2
            · have hkt : k < ts.length := by rw [L1.out]; exact hlt
              have hkb : k < bs.length := by rw [L2.out]; exact hlt
              obtain ⟨g, hg, hp⟩ := HH.out (by omega)
              obtain ⟨p1, p2⟩ := hp k (by simp [L1.out, L2.out]; exact hlt)
              obtain ⟨b1, o1, e1, q1⟩ := strsV_at Q1.out hkt
              obtain ⟨b2, o2, e2, q2⟩ := Q2.out.at (k := k) (u := .bool bs[k]) (by simp [hkb])
              simp only [List.getElem_zip] at p1 p2
              generalize ts[k] = tx at p1 q1
              generalize bs[k] = bx at p2 q2
              subst hg
              subst e1
              subst e2
              clear HH HG Q1 Q2 Q3 t2 hp hkt hkb
              go_wp2
              go_quiet (fail)
              go_wp2
              go_roundw
              case rel => exact ⟨k + 1, by omega, by go_num, nd + nq, rfl⟩
              case measure => simp [intOf]; omega
            · clear HH Q1
              go_wp2
              go_loopw [11] (fun i wx => ∃ j : Nat, j ≤ n3 ∧ i = .int .i64 j ∧ ∃ q, wx = wq.drewN q) (fun i _ => n3 - (intOf i).toNat)
              case atStart => exact ⟨0, Nat.zero_le _, rfl, nd, rfl⟩
              case round =>
                obtain ⟨j, hj, rfl, ne, rfl⟩ := hrel
                by_cases hlt2 : j < n3
                · have hjr : j < rows'.length := by rw [L'.out]; exact hlt2
                  obtain ⟨g, hg, hgp⟩ := HG.out (by omega)
                  obtain ⟨M, x1, x2⟩ := hgp j hjr
                  obtain ⟨b3, o3, e3, q3, rv3, nn3⟩ := Q3.out.at hjr
                  clear nn3
                  have hfj := F'.out _ (List.getElem_mem hjr)
                  unfold RowD.val at q3
                  generalize rows'[j] = r at x1 x2 q3 rv3 hfj
                  obtain ⟨ra, rc, rs⟩ := r
                  simp only at x1 x2 q3 rv3 hfj
                  obtain ⟨n', hn'⟩ : ∃ n', n' = rs.length := ⟨_, rfl⟩
                  rw [← hn'] at x1 q3 hfj
                  have HN := hid hn'
                  have X2 := hid x2
                  have RV3 := hid rv3
                  subst hg
                  subst e3
                  clear hgp x2 rv3 hn' HG Q3 t1
                  go_wp2
                  go_quiet (fail)
                  go_wp2
                  go_loopw [12] (fun i wx => ∃ t : Nat, t ≤ n' ∧ i = .int .i64 t ∧ ∃ q, wx = wq.drewN q) (fun i _ => n' - (intOf i).toNat)
                  case atStart => exact ⟨0, Nat.zero_le _, rfl, ne + nq, World.drewN_drewN ..⟩
                  case round =>
                    obtain ⟨t, ht, rfl, nf, rfl⟩ := hrel
                    by_cases hlt3 : t < n'
                    · have hts : t < rs.length := by rw [← HN.out]; exact hlt3
                      have htb : t < bs.length := by rw [L2.out]; omega
                      obtain ⟨p1, p2⟩ := X2.out t (by simp [L1.out, L2.out, ← HN.out]; omega)
                      obtain ⟨b1, o1, e1, q1⟩ := strsV_at RV3.out hts
                      obtain ⟨b2, o2, e2, q2⟩ := Q2.out.at (k := t) (u := .bool bs[t]) (by simp [htb])
                      simp only [List.getElem_zip, List.getElem_map] at p1 p2
                      generalize rs[t] = tx at p1 q1
                      generalize bs[t] = bx at p2 q2
                      subst e1
                      subst e2
                      clear X2 RV3 Q2 hts htb
                      go_wp2
                      go_quiet (fail)
                      go_wp2
                      go_roundw
                      case rel => exact ⟨t + 1, by omega, by go_num, _, rfl⟩
                      case measure => simp [intOf]; omega
                    · go_wp2
                      go_roundw
                      case rel => exact ⟨j + 1, by omega, by go_num, _, rfl⟩
                      case measure => simp [intOf]; omega
                · go_wp2
                  go_ret
                  exact ⟨rfl, below_drewN QB.out ne⟩
      · have d1 : ((n2 : Int) != (n1 : Int)) = true := by simp; omega
        go_wp2_with fail
        go_ret
        exact ⟨rfl, Below.refl _ _⟩

end Go.Proofs.Qxb6000044a
