import Derived.Test.Qxb6601113aDocB
namespace Go.Proofs.Qxb6601113a
open Go.RowKit

theorem Try.info39 : (Try.prog.info? 39).map (fun i => (i.zero, i.size, i.bytes)) = some (some (.agg #[.string ByteArray.empty, .string ByteArray.empty, .string ByteArray.empty]), 3, 48) := by kernel_rfl

/-! zzIncident -/
set_option maxRecDepth 100000 in
set_option maxHeartbeats 2000000 in
theorem incident_any (id res : ByteArray) (a1 a2 a3 : Option Addr) (n c1 c2 c3 : Nat) (s1 s2 s3 : List ByteArray) (w : World) 
    (h1 : s1.length = n) (h2 : s2.length = n) (h3 : s3.length = n) (hn : n ≤ 65536) (r1 : RS w a1 s1) (r2 : RS w a2 s2) (r3 : RS w a3 s3) :
    Calls Try.prog 16 #[.string id, .string res, .slice a1 n c1, .slice a2 n c2, .slice a3 n c3] w fun e w' => ∃ gi gt, e = .returned (.pointer (some ⟨gi, 0, none⟩)) ∧ Below w.heap.size w w' ∧
      w'.cell? ⟨gi, 0, none⟩ = some (.string id) ∧ w'.cell? ⟨gi, 1, none⟩ = some (.string res) ∧ w'.cell? ⟨gi, 2, none⟩ = some (.slice (some ⟨gt, 0, none⟩) n n) ∧
      ∀ i, i < n → w'.cell? ⟨gt, i * 3 + 1, none⟩ = some (.string (s2.getD i ByteArray.empty)) ∧ w'.cell? ⟨gt, i * 3 + 2, none⟩ = some (.string (s3.getD i ByteArray.empty)) := by
  have H1 : Hid (RS w a1 s1) := r1
  have H2 : Hid (RS w a2 s2) := r2
  have H3 : Hid (RS w a3 s3) := r3
  have L1 : Hid (s1.length = n) := h1
  have L2 : Hid (s2.length = n) := h2
  have L3 : Hid (s3.length = n) := h3
  clear h1 h2 h3 r1 r2 r3
  obtain ⟨i0, hi, hz0, hz1, hz2⟩ := info_parts Try.info39
  go_enter Try.func16, Try.ntmps16
  go_wp2_with (at_make; refine wpList_make_full _ rfl _ _ 40 rfl w.heap.size 39 i0 _ 3 Try.underlying40 hi hz0 hz1 .i64 .i64 _ _ n rfl rfl rfl rfl (by rw [hz2]; omega) (by unfold maxLen; omega) (Nat.le_refl _) ?_)
  intro w1 hown hgrow
  clear hi hz0 hz1 hz2
  have hb : Below w.heap.size w w1 := (Below.refl _ _).grown hgrow (Nat.le_refl _) (by simp)
  go_wp2
  go_loopw [13] (fun i wr => ∃ (k : Nat) (cs : List Value), k ≤ n ∧ i = .int .i64 k ∧ wr.ownsRow w.heap.size 39 3 (.slice (some ⟨w.heap.size, 0, none⟩) n n) n cs ∧ Below w.heap.size w wr ∧
    Hid (∀ j, j < k → cs[j * 3 + 1]? = some (.string (s2.getD j ByteArray.empty)) ∧ cs[j * 3 + 2]? = some (.string (s3.getD j ByteArray.empty)))) (fun i _ => n - (intOf i).toNat)
  case atStart => exact ⟨0, _, Nat.zero_le _, rfl, hown, hb, fun j hj => by omega⟩
  case round =>
    obtain ⟨k, cs, hk, rfl, ho, hbr, HK⟩ := hrel
    clear hown hgrow hb
    by_cases hlt : k < n
    · obtain ⟨b1, o1, S1, e1, E1, t1⟩ := H1.out.at k (by rw [L1.out]; exact hlt)
      obtain ⟨b2, o2, S2, e2, E2, t2⟩ := H2.out.at k (by rw [L2.out]; exact hlt)
      obtain ⟨b3, o3, S3, e3, E3, t3⟩ := H3.out.at k (by rw [L3.out]; exact hlt)
      have HE2 : Hid (S2 = s2.getD k ByteArray.empty) := E2
      have HE3 : Hid (S3 = s3.getD k ByteArray.empty) := E3
      have q1 : wr.cell? ⟨b1, o1 + k, none⟩ = some (.string S1) := by rw [hbr.cell (World.block_lt_of_cell? _ _ t1)]; exact t1
      have q2 : wr.cell? ⟨b2, o2 + k, none⟩ = some (.string S2) := by rw [hbr.cell (World.block_lt_of_cell? _ _ t2)]; exact t2
      have q3 : wr.cell? ⟨b3, o3 + k, none⟩ = some (.string S3) := by rw [hbr.cell (World.block_lt_of_cell? _ _ t3)]; exact t3
      have nb1 := World.block_lt_of_cell? _ _ t1
      have nb2 : ¬ w.heap.size = b2 := by have := World.block_lt_of_cell? _ _ t2; simp at this; omega
      have nb3 : ¬ w.heap.size = b3 := by have := World.block_lt_of_cell? _ _ t3; simp at this; omega
      have hcl : cs.length = n * 3 := ho.1
      have f0 := ho.frozenAt (k * 3)
      have f1 := ho.frozenAt (k * 3 + 1)
      have f2 := ho.frozenAt (k * 3 + 2)
      obtain ⟨x0, g0⟩ : ∃ x, wr.cell? ⟨w.heap.size, k * 3, none⟩ = some x := ⟨cs[k * 3]'(by omega), by rw [ho.cellAt (k * 3) (by omega)]; simp⟩
      obtain ⟨x1, g1⟩ : ∃ x, wr.cell? ⟨w.heap.size, k * 3 + 1, none⟩ = some x := ⟨cs[k * 3 + 1]'(by omega), by rw [ho.cellAt (k * 3 + 1) (by omega)]; simp⟩
      obtain ⟨x2, g2⟩ : ∃ x, wr.cell? ⟨w.heap.size, k * 3 + 2, none⟩ = some x := ⟨cs[k * 3 + 2]'(by omega), by rw [ho.cellAt (k * 3 + 2) (by omega)]; simp⟩
      have HO : Hid (wr.ownsRow w.heap.size 39 3 (.slice (some ⟨w.heap.size, 0, none⟩) n n) n cs) := ho
      have HCL : Hid (cs.length = n * 3) := hcl
      clear E1 E2 E3 t1 t2 t3 H1 H2 H3 nb1 ho hcl
      subst e1
      subst e2
      subst e3
      go_wp2
      go_roundw
      case rel =>
        refine ⟨k + 1, _, by omega, by go_num, (((HO.out.stored (k * 3) _).1.stored (k * 3 + 1) _).1.stored (k * 3 + 2) _).1, ((hbr.setCell (Nat.le_refl _) _).setCell (Nat.le_refl _) _).setCell (Nat.le_refl _) _, ?_⟩
        intro j hj
        have hcl := HCL.out
        by_cases hjk : j = k
        · subst hjk
          rw [← HE2.out, ← HE3.out]
          constructor
          · rw [List.getElem?_set_ne (by omega), List.getElem?_set_self (by simp; omega)]
          · rw [List.getElem?_set_self (by simp; omega)]
        · rw [List.getElem?_set_ne (by omega), List.getElem?_set_ne (by omega), List.getElem?_set_ne (by omega), List.getElem?_set_ne (by omega), List.getElem?_set_ne (by omega), List.getElem?_set_ne (by omega)]
          exact HK.out j (by omega)
      case measure => simp [intOf]; omega
    · have hk' : k = n := by omega
      subst hk'
      have hlw := (ho.lt w.heap.size rfl).2
      go_wp2
      go_ret
      refine ⟨wr.heap.size, w.heap.size, rfl, hbr.alloc hbr.size _, by simp, by simp, by simp, fun i hi => ?_⟩
      have h := HK.out i hi
      rw [← ho.cellAt _ (by omega), ← ho.cellAt _ (by omega)] at h
      exact ⟨cell_later ((Below.refl _ _).alloc (Nat.le_refl _) _) h.1, cell_later ((Below.refl _ _).alloc (Nat.le_refl _) _) h.2⟩

end Go.Proofs.Qxb6601113a
