import Derived.Test.Qxb6601113aDocE
namespace Go.Proofs.Qxb6601113a
open Go.RowKit


set_option maxRecDepth 100000 in
set_option maxHeartbeats 4000000 in
theorem doc_walk (id res : ByteArray) (a1 a2 a3 : Option Addr) (n1 n2 n3 c1 c2 c3 : Nat) (i : Int) (l1 l2 l3 : List ByteArray) (w : World) (hid : id.size ≤ maxLen) (hres : res.size ≤ maxLen)
    (h1 : l1.length = n1) (h2 : l2.length = n2) (h3 : l3.length = n3) (m1 : n1 ≤ maxLen) (m2 : n2 ≤ maxLen) (m3 : n3 ≤ maxLen) (r1 : RS w a1 l1) (r2 : RS w a2 l2) (r3 : RS w a3 l3)
    (z1 : ∀ s ∈ l1, s.size ≤ maxLen) (z2 : ∀ s ∈ l2, s.size ≤ maxLen) (z3 : ∀ s ∈ l3, s.size ≤ maxLen) :
    Calls Try.prog 5 #[.string id, .string res, .slice a1 n1 c1, .slice a2 n2 c2, .slice a3 n3 c3, .int .i64 i] w fun e w' => e = .returned (.bool true) ∧ Below w.heap.size w w' := by
  have HB := hideIt (bytesDoc_any id res a1 a2 a3 n1 n2 n3 c1 c2 c3 i l1 l2 l3 w hid hres h1 h2 h3 m1 m2 m3 r1 r2 r3 z1 z2 z3)
  have HT := hideIt (tooBig_any id res a1 a2 a3 n1 n2 n3 c1 c2 c3 l1 l2 l3 w hid hres h1 h2 h3 m1 m2 m3 r1 r2 r3 z1 z2 z3)
  have R1 := hideIt (r1)
  have R2 := hideIt (r2)
  have R3 := hideIt (r3)
  have L1 := hideIt (h1)
  have L2 := hideIt (h2)
  have L3 := hideIt (h3)
  clear z1 z2 z3 r1 r2 r3 h1 h2 h3
  unfold maxLen at hid hres m1 m2 m3
  have hcv := fun w s => run_bytes_of_string (P := Try.prog) w 9 22 5 s Try.underlying9 Try.underlying22 Try.underlying5
  go_enter Try.func5, Try.ntmps5
  go_wp2_with fail
  refine Calls.mono HB.out ?_
  rintro e w' ⟨rfl, b, rfl, _⟩
  cases b with
  | false =>
    go_wp2_with fail
    go_ret
    exact ⟨rfl, Below.refl _ _⟩
  | true =>
    go_wp2_with fail
    refine Calls.mono HT.out ?_
    rintro e w' ⟨rfl, b, rfl, F⟩
    cases b with
    | true =>
      clear F
      go_wp2_with fail
      go_ret
      exact ⟨rfl, Below.refl _ _⟩
    | false =>
      obtain ⟨hn2, hi1, hi2, za, zd⟩ := F rfl
      have ZA := hideIt (za)
      have ZD := hideIt (zd)
      clear F za zd HB HT
      by_cases e3 : n3 = n2
      · subst e3
        by_cases e1 : n1 = n3
        · subst e1
          by_cases hi0 : 0 ≤ i
          · by_cases hi3 : i < n1
            · obtain ⟨k, rfl⟩ : ∃ k : Nat, i = (k : Int) := ⟨i.toNat, by omega⟩
              have hk : k < n1 := by omega
              have d1 : decide ((k : Int) < 0) = false := by simp
              have d2 : decide (n1 ≤ k) = false := by simp; omega
              go_wp2_with fail
              refine (incident_any id res a1 a2 a3 n1 c1 c2 c3 l1 l2 l3 w L1.out L2.out L3.out hn2 R1.out R2.out R3.out).mono ?_
              rintro e wi ⟨gi, gt, rfl, hbi, q0, q1, q2, q3⟩
              obtain ⟨q4, q5⟩ := q3 k hk
              clear q3
              obtain ⟨b2, o2, au, ea, HA, ta⟩ := R2.out.at k (by rw [L2.out]; exact hk)
              obtain ⟨b3, o3, de, ed, HD, td⟩ := R3.out.at k (by rw [L3.out]; exact hk)
              have sa : au.size ≤ 1048576 := ZA.out au (by rw [HA]; simp [List.getD, show k < l2.length by rw [L2.out]; exact hk])
              have sd : de.size ≤ 1048576 := ZD.out de (by rw [HD]; simp [List.getD, show k < l3.length by rw [L3.out]; exact hk])
              rw [← HA] at q4
              rw [← HD] at q5
              clear HA HD ZA ZD R1 R2 R3 L1 L2 L3
              subst ea
              subst ed
              go_wp2_with fail
              refine (document_any gi gt n1 k id res au de wi hk hn2 hi1 hi2 sa sd q0 q1 q2 q4 q5).mono ?_
              rintro e wd ⟨S, rfl, hbd, hS⟩
              have HS := hideIt hS
              have ta' := cell_later (hbi.trans (hbd.mono hbi.size)) ta
              have td' := cell_later (hbi.trans (hbd.mono hbi.size)) td
              have hB0 := hbi.trans (hbd.mono hbi.size)
              clear hS q0 q1 q2 q4 q5 ta td hbi hbd
              have hlen : S.size ≤ 67108865 := by
                have := docP_len id res au de hi1 hi2 sa sd 4
                rw [← bts_length, HS.out]
                simp [docP] at this ⊢
                omega
              have HD0 : Hid (bts S = docP id res au de 4 ++ [125]) := by rw [Hid, HS.out]; simp [docP]
              clear HS
              go_wp2_with fail
              have F : ∀ cq : Nat, Below w.heap.size w ((wd.alloc (.cells (bytesRow S cq) 5 ((bytesRow S cq).size, (bytesRow S cq).size + 1))).drew) ∧
                  (∀ j, j < S.size → ((wd.alloc (.cells (bytesRow S cq) 5 ((bytesRow S cq).size, (bytesRow S cq).size + 1))).drew).cell? ⟨wd.heap.size, j, none⟩ = some (.int .u8 ((bts S).getD j 0))) ∧
                  ((wd.alloc (.cells (bytesRow S cq) 5 ((bytesRow S cq).size, (bytesRow S cq).size + 1))).drew).cell? ⟨b2, o2 + k, none⟩ = some (.string au) ∧
                  ((wd.alloc (.cells (bytesRow S cq) 5 ((bytesRow S cq).size, (bytesRow S cq).size + 1))).drew).cell? ⟨b3, o3 + k, none⟩ = some (.string de) := fun cq =>
                ⟨(hB0.alloc hB0.size _).drew, fun j hj => bytes_cell wd S cq j hj _, cell_later ((Below.refl _ _).alloc (Nat.le_refl _) _).drew ta', cell_later ((Below.refl _ _).alloc (Nat.le_refl _) _).drew td'⟩
              generalize grownCap wd S.size 0 5 = cq
              obtain ⟨hB, hqc, ta, td⟩ := F cq
              generalize (wd.alloc (.cells (bytesRow S cq) 5 ((bytesRow S cq).size, (bytesRow S cq).size + 1))).drew = wq at hB hqc ta td ⊢
              have HQ := hideIt (fun (wx : World) (hbx : Below wq.heap.size wq wx) (j : Nat) (hj : j < S.size) => cell_later hbx (hqc j hj))
              have HBW := hideIt hB
              have HTA := hideIt ta
              have HTD := hideIt td
              clear F ta' td' hB0 hqc hB ta td
              generalize wd.heap.size = g at HQ ⊢
              obtain ⟨Q, hQ⟩ : ∃ Q, Q = bts S := ⟨_, rfl⟩
              have hQl : Q.length = S.size := by rw [hQ, bts_length]
              rw [← hQ] at HD0 HQ
              generalize S.size = nq at *
              have HL := hideIt hQl
              clear hQ hQl
              refine (exp_q g nq cq 0 123 0 Q [] ((memb kInc id ++ 44 :: memb kRes res ++ 44 :: memb kAut au ++ 44 :: memb kDes de ++ [125])) wq rfl rfl HL.out (by rw [HD0.out]; simp [docP]) (by omega) (HQ.out wq (Below.refl _ _))).mono ?_
              rintro e w' ⟨P0, rfl, rfl, HP0⟩
              go_wp2_with fail
              go_loopw [16, 18] (fun p i wr => ∃ m P : Nat, m ≤ 4 ∧ i = .int .i64 m ∧ p = .int .i64 P ∧ Hid (P = (docP id res au de m).length) ∧ Below wq.heap.size wq wr) (fun _ i _ => 4 - (intOf i).toNat)
              case atStart => exact ⟨0, P0, by omega, rfl, rfl, by simp [Hid, docP]; exact HP0.out, Below.refl _ _⟩
              case round =>
                obtain ⟨m, P, hm, rfl, rfl, HP, hbr⟩ := hrel
                clear HP0 d1 d2
                rcases (show m = 0 ∨ m = 1 ∨ m = 2 ∨ m = 3 ∨ m = 4 by omega) with rfl | rfl | rfl | rfl | rfl
                · have HV := hideIt hi1
                  go_wp2_with fail
                  refine (scan_at g nq cq P (P : Int) Q (docP id res au de 0) (58 :: quoted id ++ ([44] ++ memb kRes res ++ [44] ++ memb kAut au ++ [44] ++ memb kDes de ++ [125])) kInc wr rfl HP.out.symm HL.out (by rw [HD0.out]; simp [docP, memb]) (by omega) (by decide) (HQ.out wr hbr)).mono ?_
                  rintro e w2 ⟨v2, P2, rfl, ho2, hb2, HP2⟩
                  have hB2 := hbr.trans (hb2.mono hbr.size)
                  go_wp2_with (go_at_call 19; go_in)
                  refine (eq_same v2 kInc _ w2 (by decide) ho2).mono ?_
                  rintro e w3 ⟨rfl, n3, rfl⟩
                  have hB3 := below_drewN hB2 n3
                  clear ho2 hb2 hB2
                  go_wp2_with fail
                  refine (exp_q g nq cq P2 58 (P2 : Int) Q (docP id res au de 0 ++ quoted kInc) (quoted id ++ ([44] ++ memb kRes res ++ [44] ++ memb kAut au ++ [44] ++ memb kDes de ++ [125])) (w2.drewN n3) rfl (by simp; have := HP.out; have := HP2.out; omega) HL.out (by rw [HD0.out]; simp [docP, memb]) (by omega) (HQ.out _ hB3)).mono ?_
                  rintro e w' ⟨P3, rfl, rfl, HP3⟩
                  go_wp2_with fail
                  refine (scan_at g nq cq P3 (P3 : Int) Q (docP id res au de 0 ++ quoted kInc ++ [58]) ([44] ++ memb kRes res ++ [44] ++ memb kAut au ++ [44] ++ memb kDes de ++ [125]) id (w2.drewN n3) rfl (by simp; have := HP.out; have := HP2.out; have := HP3.out; omega) HL.out (by rw [HD0.out]; simp [docP, memb]) (by omega) HV.out (HQ.out _ hB3)).mono ?_
                  rintro e w5 ⟨v5, P5, rfl, ho5, hb5, HP5⟩
                  have hB5 := hB3.trans (hb5.mono hB3.size)
                  have ta := cell_later hB5 HTA.out
                  have td := cell_later hB5 HTD.out
                  have HO5 := hideIt ho5
                  clear ho5 hb5 hB3
                  go_wp2
                  go_quiet ((first | (go_at_call 20; exact Calls.quiet_of_same (val0 _ _ _ _ _)) | (go_at_call 11; exact Calls.quiet_of (eq_same v5 id _ _ HV.out HO5.out))))
                  go_wp2
                  go_roundw
                  case rel => exact ⟨1, P5, by omega, by go_num, rfl, (by have := HP.out; have := HP2.out; have := HP3.out; have := HP5.out; simp [Hid, docP, memb] at *; omega), below_drewN hB5 _⟩
                  case measure => simp [intOf]
                · have HV := hideIt hi2
                  go_wp2_with fail
                  refine (exp_q g nq cq P 44 (P : Int) Q (docP id res au de 1) (memb kRes res ++ ([44] ++ memb kAut au ++ [44] ++ memb kDes de ++ [125])) wr rfl HP.out.symm HL.out (by rw [HD0.out]; simp [docP]) (by omega) (HQ.out wr hbr)).mono ?_
                  rintro e w' ⟨P1, rfl, rfl, HP1⟩
                  go_wp2_with fail
                  refine (scan_at g nq cq P1 (P1 : Int) Q (docP id res au de 1 ++ [44]) (58 :: quoted res ++ ([44] ++ memb kAut au ++ [44] ++ memb kDes de ++ [125])) kRes wr rfl (by simp; have := HP.out; have := HP1.out; omega) HL.out (by rw [HD0.out]; simp [docP, memb]) (by omega) (by decide) (HQ.out wr hbr)).mono ?_
                  rintro e w2 ⟨v2, P2, rfl, ho2, hb2, HP2⟩
                  have hB2 := hbr.trans (hb2.mono hbr.size)
                  go_wp2_with (go_at_call 19; go_in)
                  refine (eq_same v2 kRes _ w2 (by decide) ho2).mono ?_
                  rintro e w3 ⟨rfl, n3, rfl⟩
                  have hB3 := below_drewN hB2 n3
                  clear ho2 hb2 hB2
                  go_wp2_with fail
                  refine (exp_q g nq cq P2 58 (P2 : Int) Q (docP id res au de 1 ++ [44] ++ quoted kRes) (quoted res ++ ([44] ++ memb kAut au ++ [44] ++ memb kDes de ++ [125])) (w2.drewN n3) rfl (by simp; have := HP.out; have := HP1.out; have := HP2.out; omega) HL.out (by rw [HD0.out]; simp [docP, memb]) (by omega) (HQ.out _ hB3)).mono ?_
                  rintro e w' ⟨P3, rfl, rfl, HP3⟩
                  go_wp2_with fail
                  refine (scan_at g nq cq P3 (P3 : Int) Q (docP id res au de 1 ++ [44] ++ quoted kRes ++ [58]) ([44] ++ memb kAut au ++ [44] ++ memb kDes de ++ [125]) res (w2.drewN n3) rfl (by simp; have := HP.out; have := HP1.out; have := HP2.out; have := HP3.out; omega) HL.out (by rw [HD0.out]; simp [docP, memb]) (by omega) HV.out (HQ.out _ hB3)).mono ?_
                  rintro e w5 ⟨v5, P5, rfl, ho5, hb5, HP5⟩
                  have hB5 := hB3.trans (hb5.mono hB3.size)
                  have ta := cell_later hB5 HTA.out
                  have td := cell_later hB5 HTD.out
                  have HO5 := hideIt ho5
                  clear ho5 hb5 hB3
                  go_wp2
                  go_quiet ((first | (go_at_call 20; exact Calls.quiet_of_same (val1 _ _ _ _ _)) | (go_at_call 11; exact Calls.quiet_of (eq_same v5 res _ _ HV.out HO5.out))))
                  go_wp2
                  go_roundw
                  case rel => exact ⟨2, P5, by omega, by go_num, rfl, (by have := HP.out; have := HP1.out; have := HP2.out; have := HP3.out; have := HP5.out; simp [Hid, docP, memb] at *; omega), below_drewN hB5 _⟩
                  case measure => simp [intOf]
                · have HV := hideIt sa
                  go_wp2_with fail
                  refine (exp_q g nq cq P 44 (P : Int) Q (docP id res au de 2) (memb kAut au ++ ([44] ++ memb kDes de ++ [125])) wr rfl HP.out.symm HL.out (by rw [HD0.out]; simp [docP]) (by omega) (HQ.out wr hbr)).mono ?_
                  rintro e w' ⟨P1, rfl, rfl, HP1⟩
                  go_wp2_with fail
                  refine (scan_at g nq cq P1 (P1 : Int) Q (docP id res au de 2 ++ [44]) (58 :: quoted au ++ ([44] ++ memb kDes de ++ [125])) kAut wr rfl (by simp; have := HP.out; have := HP1.out; omega) HL.out (by rw [HD0.out]; simp [docP, memb]) (by omega) (by decide) (HQ.out wr hbr)).mono ?_
                  rintro e w2 ⟨v2, P2, rfl, ho2, hb2, HP2⟩
                  have hB2 := hbr.trans (hb2.mono hbr.size)
                  go_wp2_with (go_at_call 19; go_in)
                  refine (eq_same v2 kAut _ w2 (by decide) ho2).mono ?_
                  rintro e w3 ⟨rfl, n3, rfl⟩
                  have hB3 := below_drewN hB2 n3
                  clear ho2 hb2 hB2
                  go_wp2_with fail
                  refine (exp_q g nq cq P2 58 (P2 : Int) Q (docP id res au de 2 ++ [44] ++ quoted kAut) (quoted au ++ ([44] ++ memb kDes de ++ [125])) (w2.drewN n3) rfl (by simp; have := HP.out; have := HP1.out; have := HP2.out; omega) HL.out (by rw [HD0.out]; simp [docP, memb]) (by omega) (HQ.out _ hB3)).mono ?_
                  rintro e w' ⟨P3, rfl, rfl, HP3⟩
                  go_wp2_with fail
                  refine (scan_at g nq cq P3 (P3 : Int) Q (docP id res au de 2 ++ [44] ++ quoted kAut ++ [58]) ([44] ++ memb kDes de ++ [125]) au (w2.drewN n3) rfl (by simp; have := HP.out; have := HP1.out; have := HP2.out; have := HP3.out; omega) HL.out (by rw [HD0.out]; simp [docP, memb]) (by omega) HV.out (HQ.out _ hB3)).mono ?_
                  rintro e w5 ⟨v5, P5, rfl, ho5, hb5, HP5⟩
                  have hB5 := hB3.trans (hb5.mono hB3.size)
                  have ta := cell_later hB5 HTA.out
                  have td := cell_later hB5 HTD.out
                  have HO5 := hideIt ho5
                  clear ho5 hb5 hB3
                  go_wp2
                  go_quiet ((first | (go_at_call 20; exact Calls.quiet_of_same (val2 _ _ _ _ _)) | (go_at_call 11; exact Calls.quiet_of (eq_same v5 au _ _ HV.out HO5.out))))
                  go_wp2
                  go_roundw
                  case rel => exact ⟨3, P5, by omega, by go_num, rfl, (by have := HP.out; have := HP1.out; have := HP2.out; have := HP3.out; have := HP5.out; simp [Hid, docP, memb] at *; omega), below_drewN hB5 _⟩
                  case measure => simp [intOf]
                · have HV := hideIt sd
                  go_wp2_with fail
                  refine (exp_q g nq cq P 44 (P : Int) Q (docP id res au de 3) (memb kDes de ++ ([125])) wr rfl HP.out.symm HL.out (by rw [HD0.out]; simp [docP]) (by omega) (HQ.out wr hbr)).mono ?_
                  rintro e w' ⟨P1, rfl, rfl, HP1⟩
                  go_wp2_with fail
                  refine (scan_at g nq cq P1 (P1 : Int) Q (docP id res au de 3 ++ [44]) (58 :: quoted de ++ ([125])) kDes wr rfl (by simp; have := HP.out; have := HP1.out; omega) HL.out (by rw [HD0.out]; simp [docP, memb]) (by omega) (by decide) (HQ.out wr hbr)).mono ?_
                  rintro e w2 ⟨v2, P2, rfl, ho2, hb2, HP2⟩
                  have hB2 := hbr.trans (hb2.mono hbr.size)
                  go_wp2_with (go_at_call 19; go_in)
                  refine (eq_same v2 kDes _ w2 (by decide) ho2).mono ?_
                  rintro e w3 ⟨rfl, n3, rfl⟩
                  have hB3 := below_drewN hB2 n3
                  clear ho2 hb2 hB2
                  go_wp2_with fail
                  refine (exp_q g nq cq P2 58 (P2 : Int) Q (docP id res au de 3 ++ [44] ++ quoted kDes) (quoted de ++ ([125])) (w2.drewN n3) rfl (by simp; have := HP.out; have := HP1.out; have := HP2.out; omega) HL.out (by rw [HD0.out]; simp [docP, memb]) (by omega) (HQ.out _ hB3)).mono ?_
                  rintro e w' ⟨P3, rfl, rfl, HP3⟩
                  go_wp2_with fail
                  refine (scan_at g nq cq P3 (P3 : Int) Q (docP id res au de 3 ++ [44] ++ quoted kDes ++ [58]) ([125]) de (w2.drewN n3) rfl (by simp; have := HP.out; have := HP1.out; have := HP2.out; have := HP3.out; omega) HL.out (by rw [HD0.out]; simp [docP, memb]) (by omega) HV.out (HQ.out _ hB3)).mono ?_
                  rintro e w5 ⟨v5, P5, rfl, ho5, hb5, HP5⟩
                  have hB5 := hB3.trans (hb5.mono hB3.size)
                  have ta := cell_later hB5 HTA.out
                  have td := cell_later hB5 HTD.out
                  have HO5 := hideIt ho5
                  clear ho5 hb5 hB3
                  go_wp2
                  go_quiet ((first | (go_at_call 20; exact Calls.quiet_of_same (val3 _ _ _ _ _)) | (go_at_call 11; exact Calls.quiet_of (eq_same v5 de _ _ HV.out HO5.out))))
                  go_wp2
                  go_roundw
                  case rel => exact ⟨4, P5, by omega, by go_num, rfl, (by have := HP.out; have := HP1.out; have := HP2.out; have := HP3.out; have := HP5.out; simp [Hid, docP, memb] at *; omega), below_drewN hB5 _⟩
                  case measure => simp [intOf]
                · go_wp2_with fail
                  refine (exp_q g nq cq P 125 (P : Int) Q (docP id res au de 4) [] wr rfl HP.out.symm HL.out (by rw [HD0.out]) (by omega) (HQ.out wr hbr)).mono ?_
                  rintro e w' ⟨P1, rfl, rfl, HP1⟩
                  have hPn : P1 = nq := by have := HP1.out; have := HP.out; have := HL.out; rw [HD0.out] at this; simp at this; omega
                  have hpb : ((P1 : Int) == (nq : Int)) = true := by simp; omega
                  clear hPn
                  go_wp2
                  go_ret
                  exact ⟨rfl, HBW.out.trans (hbr.mono HBW.out.size)⟩
            · have d1 : decide (i < 0) = false := by simp; omega
              have d2 : decide ((n1 : Int) ≤ i) = true := by simp; omega
              go_wp2_with fail
              go_ret
              exact ⟨rfl, Below.refl _ _⟩
          · have d1 : decide (i < 0) = true := by simp; omega
            go_wp2_with fail
            go_ret
            exact ⟨rfl, Below.refl _ _⟩
        · have d1 : ((n1 : Int) != (n3 : Int)) = true := by simp; omega
          go_wp2_with fail
          go_ret
          exact ⟨rfl, Below.refl _ _⟩
      · have d1 : ((n3 : Int) != (n2 : Int)) = true := by simp; omega
        go_wp2_with fail
        go_ret
        exact ⟨rfl, Below.refl _ _⟩

end Go.Proofs.Qxb6601113a
