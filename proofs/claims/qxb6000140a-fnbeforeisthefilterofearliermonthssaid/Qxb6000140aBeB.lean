import Derived.Test.Qxb6000140aBeA
import Derived.Test.Qxb6000140aQt
namespace Go.Proofs.Qxb6000140a
open Go.RowKit
attribute [local go_sem] cell_grow frozen_grow

/-- What bRows leaves. -/
def BrPost (w : World) (n : Nat) (l : List Q4) (e : Ending) (w' : World) : Prop :=
  e = .returned (.slice (some ⟨w.heap.size, 0, none⟩) n n) ∧ RQ w' w.heap.size 0 l ∧ Below w.heap.size w w' ∧ w.heap.size < w'.heap.size

set_option maxHeartbeats 4000000 in
theorem bRows_any (a : Option Addr) (n cap : Nat) (l : List Q4) (w : World) (hl : l.length = n) (hn : n ≤ 32768) (hr : 0 < n → ∃ b o, a = some ⟨b, o, none⟩ ∧ RQ w b o l) :
    Calls Try.prog 11 #[.slice a n cap] w (BrPost w n l) := by
  obtain ⟨i0, hi, hz0, hz1, hz2⟩ := info_parts Try.info33
  have HR := hid hr
  have HL := hid hl
  clear hr hl
  go_enter Try.func11, Try.ntmps11
  go_wp2_with (at_make; refine wpList_make_full _ rfl _ _ 24 rfl w.heap.size 33 i0 _ 4 Try.underlying24 hi hz0 hz1 .i64 .i64 _ _ n rfl rfl rfl rfl (by rw [hz2]; omega) (by unfold maxLen; omega) (Nat.le_refl _) ?_)
  intro w1 hown hgrow
  have hb1 : Below w.heap.size w w1 := (Below.refl _ _).grown hgrow (Nat.le_refl _) (by simp)
  clear hi hz0 hz1 hz2 hgrow
  go_wp2
  go_loopw [4] (fun i wx => ∃ (k : Nat) (cs : List Value), k ≤ n ∧ i = .int .i64 k ∧ wx.ownsRow w.heap.size 33 4 (.slice (some ⟨w.heap.size, 0, none⟩) n n) n cs ∧ Below w.heap.size w wx ∧
    Hid (∀ t (_ : t < k) (h : t < l.length), cs[t * 4]? = some (.int .i64 l[t].m) ∧ cs[t * 4 + 1]? = some (.int .i64 l[t].h) ∧ cs[t * 4 + 2]? = some (.int .i64 l[t].r) ∧ cs[t * 4 + 3]? = some (.int .i64 l[t].l))) (fun i _ => n - (intOf i).toNat)
  case atStart => exact ⟨0, _, Nat.zero_le _, rfl, hown, hb1, fun t ht => by omega⟩
  case round =>
    clear hown hb1
    obtain ⟨k, cs, hk, rfl, ho, hbr, HK⟩ := hrel
    have hlw := (ho.lt w.heap.size rfl).2
    by_cases hlt : k < n
    · obtain ⟨b, o, ha, hq⟩ := HR.out (by omega)
      have hkl : k < l.length := by rw [HL.out]; exact hlt
      obtain ⟨q0, q1, q2, q3⟩ := hq k hkl
      have p0 : wr.cell? ⟨b, o + k * 4, none⟩ = some (.int .i64 l[k].m) := by rw [hbr.cell (World.block_lt_of_cell? _ _ q0)]; exact q0
      have p1 : wr.cell? ⟨b, o + k * 4 + 1, none⟩ = some (.int .i64 l[k].h) := by rw [hbr.cell (World.block_lt_of_cell? _ _ q1)]; exact q1
      have p2 : wr.cell? ⟨b, o + k * 4 + 2, none⟩ = some (.int .i64 l[k].r) := by rw [hbr.cell (World.block_lt_of_cell? _ _ q2)]; exact q2
      have p3 : wr.cell? ⟨b, o + k * 4 + 3, none⟩ = some (.int .i64 l[k].l) := by rw [hbr.cell (World.block_lt_of_cell? _ _ q3)]; exact q3
      obtain ⟨x, hx⟩ : ∃ x, x = l[k] := ⟨_, rfl⟩
      rw [← hx] at p0 p1 p2 p3
      have HX := hid hx
      obtain ⟨xm, xh, xr, xl⟩ := x
      simp only at p0 p1 p2 p3
      have hcl : cs.length = n * 4 := ho.1
      have f0 := ho.frozenAt (k * 4)
      have f1 := ho.frozenAt (k * 4 + 1)
      have f2 := ho.frozenAt (k * 4 + 2)
      have f3 := ho.frozenAt (k * 4 + 3)
      obtain ⟨x0, g0⟩ : ∃ x, wr.cell? ⟨w.heap.size, k * 4, none⟩ = some x := ⟨cs[k * 4]'(by omega), by rw [ho.cellAt (k * 4) (by omega)]; simp⟩
      obtain ⟨x1, g1⟩ : ∃ x, wr.cell? ⟨w.heap.size, k * 4 + 1, none⟩ = some x := ⟨cs[k * 4 + 1]'(by omega), by rw [ho.cellAt (k * 4 + 1) (by omega)]; simp⟩
      obtain ⟨x2, g2⟩ : ∃ x, wr.cell? ⟨w.heap.size, k * 4 + 2, none⟩ = some x := ⟨cs[k * 4 + 2]'(by omega), by rw [ho.cellAt (k * 4 + 2) (by omega)]; simp⟩
      obtain ⟨x3, g3⟩ : ∃ x, wr.cell? ⟨w.heap.size, k * 4 + 3, none⟩ = some x := ⟨cs[k * 4 + 3]'(by omega), by rw [ho.cellAt (k * 4 + 3) (by omega)]; simp⟩
      have HO := hid ho
      have HCL := hid hcl
      clear hcl ho q1 q2 q3 hx hq HR
      have nb : b < wr.heap.size := World.block_lt_of_cell? _ _ p0
      clear q0
      subst ha
      have hki : (k : Int) < (n : Int) := by omega
      go_wp2
      have ine := gp_ne
      refine wp_region_quiet_tail (fun w' => ∃ p, w' = grow wr p) 23 (by kernel_rfl) (by kernel_rfl) (grow_one wr) ?_
      simp only [List.take_succ_cons, List.take_zero, List.drop_succ_cons, List.drop_zero]
      repeat (quiet_step ((go_at_call 33; refine (workRow_any _ _ _ _ _).mono ?_; rintro e w' ⟨rfl, rfl⟩; exact ⟨rfl, grow_alloc _ _ _⟩)))
      refine wpQuiet_nil ?_
      rintro _ ⟨gp, rfl⟩
      go_wp2
      go_roundw
      case rel =>
        have hg := grow_below wr gp
        refine ⟨k + 1, _, by omega, by go_num, (((((own_later HO.out hg).stored (k * 4) _).1.stored (k * 4 + 1) _).1.stored (k * 4 + 2) _).1.stored (k * 4 + 3) _).1, ((((hbr.trans (hg.mono hbr.size)).setCell (Nat.le_refl _) _).setCell (Nat.le_refl _) _).setCell (Nat.le_refl _) _).setCell (Nat.le_refl _) _, ?_⟩
        intro t ht h
        have hcl := HCL.out
        by_cases hte : t = k
        · subst hte
          rw [← HX.out]
          refine ⟨?_, ?_, ?_, ?_⟩
          · rw [List.getElem?_set_ne (by omega), List.getElem?_set_ne (by omega), List.getElem?_set_ne (by omega), List.getElem?_set_self (by omega)]
          · rw [List.getElem?_set_ne (by omega), List.getElem?_set_ne (by omega), List.getElem?_set_self (by simp; omega)]
          · rw [List.getElem?_set_ne (by omega), List.getElem?_set_self (by simp; omega)]
          · rw [List.getElem?_set_self (by simp; omega)]
        · have e : ∀ j, j ≠ k * 4 → j ≠ k * 4 + 1 → j ≠ k * 4 + 2 → j ≠ k * 4 + 3 → ((((cs.set (k * 4) (Value.int .i64 xm)).set (k * 4 + 1) (Value.int .i64 xh)).set (k * 4 + 2) (Value.int .i64 xr)).set (k * 4 + 3) (Value.int .i64 xl))[j]? = cs[j]? := fun j a1 a2 a3 a4 => by
            rw [List.getElem?_set_ne (by omega), List.getElem?_set_ne (by omega), List.getElem?_set_ne (by omega), List.getElem?_set_ne (by omega)]
          rw [e _ (by omega) (by omega) (by omega) (by omega), e _ (by omega) (by omega) (by omega) (by omega), e _ (by omega) (by omega) (by omega) (by omega), e _ (by omega) (by omega) (by omega) (by omega)]
          exact HK.out t (by omega) h
      case measure => simp [intOf]; omega
    · have hkn : k = n := by omega
      subst hkn
      go_wp2
      go_ret
      refine ⟨rfl, fun i hi => ?_, hbr, hlw⟩
      have h := HK.out i (by rw [← HL.out]; exact hi) hi
      have := HL.out
      rw [← ho.cellAt _ (by omega), ← ho.cellAt _ (by omega), ← ho.cellAt _ (by omega), ← ho.cellAt _ (by omega)] at h
      simpa using h

end Go.Proofs.Qxb6000140a
