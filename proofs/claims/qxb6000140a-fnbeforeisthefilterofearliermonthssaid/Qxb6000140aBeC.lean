import Derived.Test.Qxb6000140aBeB
namespace Go.Proofs.Qxb6000140a
open Go.RowKit

/-- The rows of a month before m. -/
def flt (m : Int) (l : List Q4) : List Q4 := l.filter fun q => decide (q.m < m)
theorem flt_snoc (m : Int) (l : List Q4) (q : Q4) : flt m (l ++ [q]) = flt m l ++ if q.m < m then [q] else [] := by
  simp only [flt, List.filter_append]
  congr 1
  by_cases h : q.m < m <;> simp [h]
theorem flt_len (m : Int) (l : List Q4) : (flt m l).length ≤ l.length := List.length_filter_le _ _
theorem flt_all (m : Int) (l : List Q4) (h : (flt m l).length = l.length) : flt m l = l := by
  have := List.length_filter_eq_length_iff (p := fun q : Q4 => decide (q.m < m)) (l := l)
  unfold flt at h ⊢
  exact List.filter_eq_self.2 (this.1 h)

theorem RQ.at0 {w : World} {g : Nat} {l : List Q4} (h : RQ w g 0 l) (i : Nat) (hi : i < l.length) : w.cell? ⟨g, i * 4, none⟩ = some (.int .i64 l[i].m) ∧ w.cell? ⟨g, i * 4 + 1, none⟩ = some (.int .i64 l[i].h) ∧ w.cell? ⟨g, i * 4 + 2, none⟩ = some (.int .i64 l[i].r) ∧ w.cell? ⟨g, i * 4 + 3, none⟩ = some (.int .i64 l[i].l) := by
  simpa using h i hi

/-- What Before leaves. -/
def BePost (w : World) (F : List Q4) (e : Ending) (w' : World) : Prop :=
  ∃ g cap N, e = .returned (.slice (some ⟨g, 0, none⟩) N cap) ∧ Hid (N = F.length) ∧ RQ w' g 0 F ∧ Below w.heap.size w w'

set_option maxHeartbeats 2000000 in
theorem before_any (g n : Nat) (m : Int) (l : List Q4) (w : World) (hl : l.length = n) (hn : n ≤ 32768) (hr : RQ w g 0 l) :
    Calls Try.prog 10 #[.slice (some ⟨g, 0, none⟩) n n, .int .i64 m] w (BePost w (flt m l)) := by
  have HR := hid hr
  have HL := hid hl
  clear hr hl
  go_enter Try.func10, Try.ntmps10
  go_wp2
  go_loopw [5, 13] (fun c i wx => ∃ k : Nat, k ≤ n ∧ i = .int .i64 k ∧ c = .int .i64 ((flt m (l.take k)).length : Int) ∧ Below w.heap.size w wx) (fun _ i _ => n - (intOf i).toNat)
  case atStart => exact ⟨0, Nat.zero_le _, rfl, rfl, Below.refl _ _⟩
  case round =>
    obtain ⟨k, hk, rfl, rfl, hbr⟩ := hrel
    obtain ⟨c, hc⟩ : ∃ c, c = (flt m (l.take k)).length := ⟨_, rfl⟩
    have hcb : c ≤ k := by rw [hc]; have := flt_len m (l.take k); have := List.length_take_le k l; omega
    rw [← hc]
    have HC := hid hc
    clear hc
    by_cases hlt : k < n
    · have hkl : k < l.length := by rw [HL.out]; exact hlt
      obtain ⟨p0, p1, p2, p3⟩ := (HR.out.later hbr).at0 k hkl
      have HN : Hid (∀ n' : Nat, n' = (if l[k].m < m then c + 1 else c) → n' = (flt m (l.take (k + 1))).length) := fun n' hn' => by
        rw [List.take_succ_eq_append_getElem hkl, flt_snoc, List.length_append, ← HC.out, hn']
        split <;> simp
      generalize l[k] = x at p0 p1 p2 p3 HN
      obtain ⟨xm, xh, xr, xl⟩ := x
      simp only at p0 p1 p2 p3 HN
      clear HC HR
      by_cases hx : xm < m
      · go_wp2
        go_roundw
        case rel => exact ⟨k + 1, by omega, by go_num, by rw [← HN.out (c + 1) (by simp [hx])]; go_num, hbr.alloc hbr.size _⟩
        case measure => simp [intOf]; omega
      · go_wp2
        go_roundw
        case rel => exact ⟨k + 1, by omega, by go_num, by rw [← HN.out c (by simp [hx])], hbr.alloc hbr.size _⟩
        case measure => simp [intOf]; omega
    · have hkn : k = n := by omega
      subst hkn
      have ht : l.take k = l := List.take_of_length_le (by rw [HL.out]; exact Nat.le_refl _)
      have hcf : c = (flt m l).length := by rw [HC.out, ht]
      have HCF := hid hcf
      clear hcf HC
      by_cases hck : c = k
      · subst hck
        go_wp2
        go_ret
        have hall := flt_all m l (by rw [← HCF.out, HL.out])
        refine ⟨g, c, c, rfl, HCF.out, ?_, hbr⟩
        rw [hall]
        exact HR.out.later hbr
      · obtain ⟨i0, hi, hz0, hz1, hz2⟩ := info_parts Try.info33
        have hne : ((c : Int) == (k : Int)) = false := by simp; omega
        go_wp2_with (at_make; refine wpList_make_own _ rfl _ _ 24 rfl wr.heap.size 33 i0 _ 4 Try.underlying24 hi hz0 hz1 .i64 .i64 _ c rfl rfl rfl (by rw [hz2]; omega) (by unfold maxLen; omega) (Nat.le_refl _) ?_)
        intro w1 hown hgrow
        obtain ⟨B, hB⟩ : ∃ B, B = wr.heap.size := ⟨_, rfl⟩
        have hBw : w.heap.size ≤ B := by rw [hB]; exact hbr.size
        have hb1 : Below w.heap.size w w1 := hbr.trans (((Below.refl _ _).grown hgrow (Nat.le_refl _) (by simp)).mono hbr.size)
        have hB1 : B ≤ w1.heap.size := by rw [hB]; exact hgrow.size
        rw [← hB] at hown
        have hown2 : w1.ownsRow B 33 4 (.slice (some ⟨wr.heap.size, 0, none⟩) 0 c) (flt m (l.take 0)).length (qcs (flt m (l.take 0))) := by simpa [flt, qcs] using (hB ▸ hown)
        clear hgrow hown hbr
        go_wp2
        go_loopw [8, 33] (fun v i wx => ∃ q : Nat, q ≤ k ∧ i = .int .i64 q ∧ wx.ownsRow B 33 4 v (flt m (l.take q)).length (qcs (flt m (l.take q))) ∧ Below w.heap.size w wx ∧ B ≤ wx.heap.size ∧ Hid (v ≠ .slice none 0 0)) (fun _ i _ => k - (intOf i).toNat)
        case atStart => exact ⟨0, Nat.zero_le _, rfl, hown2, hb1, hB1, by simp [Hid]⟩
        case round =>
          clear hown2 hb1 hB1 hB
          obtain ⟨q, hq, rfl, ho, hbr, hBr, HNil⟩ := hrel
          have hfl : (flt m (l.take q)).length ≤ 32768 := by have := flt_len m (l.take q); have := List.length_take_le q l; omega
          by_cases hlt2 : q < k
          · have hkl : q < l.length := by rw [HL.out]; exact hlt2
            obtain ⟨p0, p1, p2, p3⟩ := (HR.out.later hbr).at0 q hkl
            have hsn : Hid (flt m (l.take (q + 1)) = flt m (l.take q) ++ if l[q].m < m then [l[q]] else []) := by
              show flt m (l.take (q + 1)) = _
              rw [List.take_succ_eq_append_getElem hkl, flt_snoc]
            obtain ⟨fl, hfle⟩ : ∃ fl, fl = flt m (l.take q) := ⟨_, rfl⟩
            rw [← hfle] at ho hfl hsn
            generalize l[q] = x at p0 p1 p2 p3 hsn
            clear hfle hkl
            by_cases hx : x.m < m
            · have HS : Hid (flt m (l.take (q + 1)) = fl ++ [x]) := by have := hsn.out; rw [if_pos hx] at this; exact this
              obtain ⟨xm, xh, xr, xl⟩ := x
              simp only at p0 p1 p2 p3 hx
              have HO := hid ho
              clear hsn ho
              go_wp2_with (at_builtin; refine wpList_append_into (wr.alloc (.cells #[.int .i64 xm, .int .i64 xh, .int .i64 xr, .int .i64 xl] 33)) rfl _ _ 24 rfl B 33 i0 _ 4 32 Try.underlying24 hi hz0 hz1 hz2 rfl (by decide) u8 fl.length (qcs fl) rfl (Or.inl (HO.out.alloc _)) 1 1 [.int .i64 xm, .int .i64 xh, .int .i64 xr, .int .i64 xl] (by simp [Act.eval]) rfl (by decide) (by intro u hu; simp at hu; rcases hu with rfl | rfl | rfl | rfl <;> rfl) (by unfold maxLen; omega) (by omega) (by simp; omega) ?_)
              intro g1 cap1 w2 ho2 hb2
              have R1 : w2.ownsRow B 33 4 (.slice (some ⟨g1, 0, none⟩) (fl.length + 1) cap1) (flt m (l.take (q + 1))).length (qcs (flt m (l.take (q + 1)))) := by
                rw [HS.out, List.length_append, qcs_snoc]; exact ho2
              have R2 : Below w.heap.size w w2 := (hbr.alloc hbr.size _).trans (hb2.mono hBw)
              have R3 : B ≤ w2.heap.size := by have := hb2.size; simp at this; omega
              clear ho2 hb2 hbr HO HS HNil
              go_wp2
              go_roundw
              case rel => exact ⟨q + 1, by omega, by go_num, R1, R2, R3, by simp [Hid]⟩
              case measure => simp [intOf]; omega
            · have HS : Hid (flt m (l.take (q + 1)) = fl) := by have := hsn.out; rw [if_neg hx, List.append_nil] at this; exact this
              obtain ⟨xm, xh, xr, xl⟩ := x
              simp only at p0 p1 p2 p3 hx
              have HO := hid ho
              clear hsn ho
              go_wp2
              go_roundw
              case rel => exact ⟨q + 1, by omega, by go_num, by rw [HS.out]; exact HO.out.alloc _, hbr.alloc hbr.size _, by simp; omega, HNil⟩
              case measure => simp [intOf]; omega
          · have hqk : q = k := by omega
            subst hqk
            rw [ht] at ho
            have hshape : ∃ g1 cap1, u8 = .slice (some ⟨g1, 0, none⟩) (flt m l).length cap1 := by
              rcases ho.2 with ⟨h, _⟩ | ⟨g1, cap1, cur, h, _⟩
              · exact absurd h HNil.out
              · exact ⟨g1, cap1, h⟩
            obtain ⟨g1, cap1, hv⟩ := hshape
            subst hv
            clear hi hz0 hz1 hz2
            go_wp2
            go_ret
            exact ⟨g1, cap1, _, rfl, rfl, rq_of_own ho rfl, hbr⟩

end Go.Proofs.Qxb6000140a
