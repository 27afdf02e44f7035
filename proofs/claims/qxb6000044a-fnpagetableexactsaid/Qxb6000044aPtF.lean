import Derived.Test.Qxb6000044aPtE
import Derived.RegionTactic
import Derived.BigRegion
namespace Go.Proofs.Qxb6000044a
open Go.RowKit

theorem Try.info46 : (Try.prog.info? 46).map (fun i => (i.zero, i.size, i.bytes)) = some (some (.agg #[.string ByteArray.empty, .string ByteArray.empty, .bool false]), 3, 40) := by kernel_rfl

set_option maxRecDepth 100000 in
set_option maxHeartbeats 2000000 in
theorem zpage_any (cp : ByteArray) (a1 a2 a3 : Option Addr) (nT nR c1 c2 c3 : Nat) (ts : List ByteArray) (bs : List Bool) (rows : List RowD) (w : World)
    (h1 : ts.length = nT) (h2 : bs.length = nT) (h3 : rows.length = nR) (hT : nT ≤ 1048576) (hR : nR ≤ 1048576) (r1 : RV w a1 (strsV ts)) (r2 : RV w a2 (bs.map Value.bool)) (r3 : RR w a3 rows) (hf : ∀ r ∈ rows, r.ss.length ≤ nT) :
    Calls Try.prog 18 #[.string cp, .slice a1 nT c1, .slice a2 nT c2, .slice a3 nR c3] w (PtPost w cp nT nR (ts.zip bs) rows) := by
  obtain ⟨i0, hi, hz0, hz1, hz2⟩ := info_parts Try.info46
  have R1 := hid r1
  have R2 := hid r2
  have R3 := hid r3
  have L1 := hid h1
  have L2 := hid h2
  have L3 := hid h3
  have HF := hid hf
  clear h1 h2 h3 r1 r2 r3 hf
  go_enter Try.func18, Try.ntmps18
  go_wp2_with (at_make; refine wpList_make_full (w.alloc (.cells #[.string ByteArray.empty, .slice none 0 0, .slice none 0 0] 39)) rfl _ _ 44 rfl (w.heap.size + 1) 46 i0 _ 3 Try.underlying44 hi hz0 hz1 .i64 .i64 _ _ nT rfl rfl rfl rfl (by rw [hz2]; omega) (by unfold maxLen; omega) (by simp) ?_)
  intro w1 hown hgrow
  have hb1 : Below w.heap.size w w1 := ((Below.refl _ _).alloc (Nat.le_refl _) _).grown hgrow (by simp) (by simp)
  have hres : w1.heap[w.heap.size]? = some (.cells #[.string ByteArray.empty, .slice none 0 0, .slice none 0 0] 39 (0, 0)) := by
    rw [hgrow.block _ (by simp) (by simp)]; exact heap_alloc_new w _
  clear hgrow hi hz0 hz1 hz2
  go_wp2
  go_loopw [10] (fun i wx => ∃ (k : Nat) (cs : List Value), k ≤ nT ∧ i = .int .i64 k ∧ wx.ownsRow (w.heap.size + 1) 46 3 (.slice (some ⟨w.heap.size + 1, 0, none⟩) nT nT) nT cs ∧ Below w.heap.size w wx ∧
    wx.heap[w.heap.size]? = some (.cells #[.string ByteArray.empty, .slice none 0 0, .slice none 0 0] 39 (0, 0)) ∧
    Hid (∀ t (ht : t < k) (h1 : t < ts.length) (h2 : t < bs.length), cs[t * 3]? = some (.string ByteArray.empty) ∧ cs[t * 3 + 1]? = some (.string ts[t]) ∧ cs[t * 3 + 2]? = some (.bool bs[t]))) (fun i _ => nT - (intOf i).toNat)
  case atStart => exact ⟨0, _, Nat.zero_le _, rfl, hown, hb1, hres, fun t ht => by omega⟩
  case round =>
    clear hown hb1 hres
    obtain ⟨k, cs, hk, rfl, ho, hbr, hre, HK⟩ := hrel
    have hlw := (ho.lt (w.heap.size + 1) rfl).2
    by_cases hlt : k < nT
    · obtain ⟨b1, o1, e1, q1⟩ := strsV_at R1.out (k := k) (by rw [L1.out]; exact hlt)
      obtain ⟨b2, o2, e2, q2⟩ := R2.out.at (k := k) (u := .bool (bs[k]'(by rw [L2.out]; exact hlt))) (by simp [L2.out, hlt])
      have p1 : wr.cell? ⟨b1, o1 + k, none⟩ = some (.string (ts[k]'(by rw [L1.out]; exact hlt))) := by rw [hbr.cell (World.block_lt_of_cell? _ _ q1)]; exact q1
      have p2 : wr.cell? ⟨b2, o2 + k, none⟩ = some (.bool (bs[k]'(by rw [L2.out]; exact hlt))) := by rw [hbr.cell (World.block_lt_of_cell? _ _ q2)]; exact q2
      obtain ⟨tx, htx⟩ : ∃ t, t = ts[k]'(by rw [L1.out]; exact hlt) := ⟨_, rfl⟩
      obtain ⟨bx, hbx⟩ : ∃ b, b = bs[k]'(by rw [L2.out]; exact hlt) := ⟨_, rfl⟩
      rw [← htx] at p1
      rw [← hbx] at p2
      have HTX := hid htx
      have HBX := hid hbx
      have hcl : cs.length = nT * 3 := ho.1
      have f0 := ho.frozenAt (k * 3)
      have f1 := ho.frozenAt (k * 3 + 1)
      have f2 := ho.frozenAt (k * 3 + 2)
      obtain ⟨x0, g0⟩ : ∃ x, wr.cell? ⟨w.heap.size + 1, k * 3, none⟩ = some x := ⟨cs[k * 3]'(by omega), by rw [ho.cellAt (k * 3) (by omega)]; simp⟩
      obtain ⟨x1, g1⟩ : ∃ x, wr.cell? ⟨w.heap.size + 1, k * 3 + 1, none⟩ = some x := ⟨cs[k * 3 + 1]'(by omega), by rw [ho.cellAt (k * 3 + 1) (by omega)]; simp⟩
      obtain ⟨x2, g2⟩ : ∃ x, wr.cell? ⟨w.heap.size + 1, k * 3 + 2, none⟩ = some x := ⟨cs[k * 3 + 2]'(by omega), by rw [ho.cellAt (k * 3 + 2) (by omega)]; simp⟩
      have HO := hid ho
      have HCL := hid hcl
      clear htx hbx hcl ho q1 q2 R1 R2 R3
      subst e1
      subst e2
      go_wp2
      have hki : (k : Int) < (nT : Int) := by omega
      go_region
      all_goals go_wp2
      go_roundw
      case rel =>
        refine ⟨k + 1, _, by omega, by go_num, World.ownsRow.drew (((HO.out.stored (k * 3) _).1.stored (k * 3 + 1) _).1.stored (k * 3 + 2) _).1, ((((hbr.setCell (by simp) _).setCell (by simp) _).setCell (by simp) _).drew), ?_, ?_⟩
        · show (((wr.setCell _ _).setCell _ _).setCell _ _).heap[w.heap.size]? = _
          rw [Below.heap_setCell _ _ _ _ (by simp), Below.heap_setCell _ _ _ _ (by simp), Below.heap_setCell _ _ _ _ (by simp)]
          exact hre
        · intro t ht h1 h2
          have hcl := HCL.out
          by_cases hte : t = k
          · subst hte
            rw [← HTX.out, ← HBX.out]
            refine ⟨?_, ?_, ?_⟩
            · rw [List.getElem?_set_ne (by omega), List.getElem?_set_ne (by omega), List.getElem?_set_self (by omega)]; rfl
            · rw [List.getElem?_set_ne (by omega), List.getElem?_set_self (by simp; omega)]
            · rw [List.getElem?_set_self (by simp; omega)]
          · rw [List.getElem?_set_ne (by omega), List.getElem?_set_ne (by omega), List.getElem?_set_ne (by omega), List.getElem?_set_ne (by omega), List.getElem?_set_ne (by omega), List.getElem?_set_ne (by omega), List.getElem?_set_ne (by omega), List.getElem?_set_ne (by omega), List.getElem?_set_ne (by omega)]
            exact HK.out t (by omega) h1 h2
      case measure => simp [intOf]; omega
    · have hkn : k = nT := by omega
      subst hkn
      have hrep : RepOk (wr.alloc (.cells #[.slice (some ⟨w.heap.size + 1, 0, none⟩) k k, .slice a3 nR c3] 50)) wr.heap.size (w.heap.size + 1) k a3 nR c3 (ts.zip bs) rows := by
        have hal : Below wr.heap.size wr (wr.alloc (.cells #[.slice (some ⟨w.heap.size + 1, 0, none⟩) k k, .slice a3 nR c3] 50)) := (Below.refl _ _).alloc (Nat.le_refl _) _
        refine ⟨by simp, by simp, fun i hi => ?_, by simp [L1.out, L2.out], L3.out, (R3.out.later hbr).later hal, HF.out⟩
        simp [L1.out, L2.out] at hi
        have h := HK.out i hi (by rw [L1.out]; exact hi) (by rw [L2.out]; exact hi)
        rw [← ho.cellAt _ (by omega), ← ho.cellAt _ (by omega), ← ho.cellAt _ (by omega)] at h
        refine ⟨cell_later hal h.1, ?_, ?_⟩
        · simpa using cell_later hal h.2.1
        · simpa using cell_later hal h.2.2
      have HP := hid (page_any cp wr.heap.size (w.heap.size + 1) k a3 nR c3 (ts.zip bs) rows _ hrep hT hR)
      clear hrep
      go_wp2_with fail
      refine Calls.mono HP.out ?_
      rintro e w2 ⟨ah, ag, ch, cg, rfl, hb2, hh, hg⟩
      have hr2 : w2.heap[w.heap.size]? = some (.cells #[.string ByteArray.empty, .slice none 0 0, .slice none 0 0] 39 (0, 0)) := by
        rw [hb2.block _ (by simp; omega), Below.heap_alloc _ _ _ (by omega)]; exact hre
      obtain ⟨s0, s1, s2, g0, g1, g2⟩ := three_cells hr2
      have HH := hid hh
      have HG := hid hg
      have HB2 := hid hb2
      clear hr2 hh hg HP hb2 ho HK hre
      go_wp2
      refine bodyPost_ret (v := .agg #[.string cp, .slice ah k ch, .slice ag nR cg]) (by simp [results, Try.results18, go_sem, s0, s1, s2]) rfl ?_
      exact PtPost.put (w1 := wr.alloc (.cells #[.slice (some ⟨w.heap.size + 1, 0, none⟩) k k, .slice a3 nR c3] 50)) ((hbr.alloc (by omega) _).trans (HB2.out.mono (by simp; omega))) (by simp; omega) HH.out HG.out

end Go.Proofs.Qxb6000044a
