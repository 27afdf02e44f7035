/-
  (*keySet).add.
-/
import Derived.Test.Qxb6000994aC
import Derived.Deep.CutRange
namespace Go.Proofs.Qxb6000994a
open Go.RowKit
attribute [local go_sem] cell_grow frozen_grow

open Classical in
/-- What add leaves. -/
def AddPost (w : World) (base pb : Nat) (ks : List ByteArray) (s : ByteArray) (e : Ending) (w' : World) : Prop := e = .returned (.bool (decide (s ∉ ks))) ∧ KSet w' base pb (addName ks s) ∧ Below base w w'

theorem post_in {w w' : World} {base pb : Nat} {ks : List ByteArray} {s : ByteArray} {e : Ending} (h : s ∈ ks) (he : e = .returned (.bool false)) (hk : KSet w' base pb ks) (hb : Below base w w') : AddPost w base pb ks s e w' :=
  ⟨by rw [he]; simp [h], by rw [addName_in h]; exact hk, hb⟩
theorem post_out {w w' : World} {base pb : Nat} {ks : List ByteArray} {s : ByteArray} {e : Ending} (h : s ∉ ks) (he : e = .returned (.bool true)) (hk : KSet w' base pb (ks ++ [s])) (hb : Below base w w') : AddPost w base pb ks s e w' :=
  ⟨by rw [he]; simp [h], by rw [addName_out h]; exact hk, hb⟩
theorem nodup_snoc {ks : List ByteArray} {s : ByteArray} (h : ks.Nodup) (hs : s ∉ ks) : (ks ++ [s]).Nodup := by
  rw [List.nodup_append]
  exact ⟨h, by simp, fun a ha b hb => by simp at hb; subst hb; exact fun e => hs (e ▸ ha)⟩

theorem quiet_eq {P : Program} {f : FuncId} {args : Array Value} {w : World} {n : Nat} {v : Value} (h : Calls P f args (w.drewN n) fun e w' => e = .returned v ∧ w.drewN n = w') : Calls P f args (w.drewN n) fun e w'' => e = .returned v ∧ ∃ m, w'' = w.drewN m :=
  Calls.quiet_of_same (h.mono fun _ _ ⟨a, b⟩ => ⟨a, b.symm⟩)

theorem few_get {L ks : List ByteArray} (ht : L.take ks.length = ks) (hL : L.length = 8) (hk : ks.length ≤ 8) (i : Nat) (hi : i < ks.length) : L[i]'(by omega) = ks[i] := by
  have : (L.take ks.length)[i]? = ks[i]? := by rw [ht]
  rw [List.getElem?_take, if_pos hi, List.getElem?_eq_getElem (by omega), List.getElem?_eq_getElem hi] at this
  exact Option.some.inj this
theorem few_rs {w : World} {pb : Nat} {L ks : List ByteArray} {n : Int} {m : Option Nat} (hL : L.length = 8) (hk : ks.length ≤ 8) (ht : L.take ks.length = ks) (hB : Box w pb (fewCs L n m) 32) : RS w (some ⟨pb, 0, none⟩) ks := fun i hi =>
  ⟨pb, 0, rfl, by rw [hB.cell, Nat.zero_add, fewCs_few hL i (by omega), few_get ht hL hk i hi]⟩

set_option maxHeartbeats 2000000 in
theorem add_big (w : World) (base pb mb : Nat) (ks L : List ByteArray) (n : Int) (s : ByteArray) (hp : base ≤ pb) (hn : ks.Nodup) (hL : L.length = 8) (hB : Box w pb (fewCs L n (some mb)) 32) (hM : MapIs w mb (tru ks)) (hne : mb ≠ pb) (hm : base ≤ mb) :
    Calls Try.prog 11 #[.pointer (some ⟨pb, 0, none⟩), .string s] w (AddPost w base pb ks s) := by
  have c9 : w.cell? ⟨pb, 9, none⟩ = some (.map (some mb)) := by rw [hB.cell 9]; exact fewCs_m hL
  have q := eql30
  have hlk := hM.lookup (P := Try.prog) (t := 30) Try.underlying30 Try.underlying9 (zero4 _) s false
  have HB := hid hB
  have HM := hid hM
  have HN := hid hn
  have HL := hid hL
  by_cases hs : s ∈ ks
  · rw [lk_tru_in hs] at hlk
    simp at hlk
    have HS := hid hs
    clear hB hM hn hs hL
    go_enter Try.func11, Try.ntmps11
    go_wp2
    go_ret
    exact post_in HS.out rfl ⟨hp, HN.out, .inr ⟨L, n, mb, HL.out, HB.out, HM.out, hne, hm⟩⟩ (Below.refl _ _)
  · rw [lk_tru_out hs] at hlk
    simp at hlk
    have HS := hid hs
    have lp := hB.lt
    clear hB hM hn hs hL
    go_enter Try.func11, Try.ntmps11
    go_wp2_with (at_mapUpdate; refine wpList_mapUpdate_new _ rfl _ _ _ 30 rfl 9 4 Try.underlying30 Try.underlying9 mb (tru ks) rfl HM.out s (.bool true) rfl rfl (lk_tru_out HS.out) ?_; intro w1 hm1 hg1 hs1; have HM1 := hid hm1; have HG1 := hid hg1; clear hm1 hg1 hs1)
    go_ret
    refine post_out HS.out rfl ⟨hp, nodup_snoc HN.out HS.out, .inr ⟨L, n, mb, HL.out, HB.out.of_heap (HG1.out.block pb lp (fun e => hne (Option.some.inj e).symm)), by rw [tru_snoc]; exact HM1.out, hne, hm⟩⟩ ?_
    exact (Below.refl _ _).grown HG1.out (by omega) (fun k hk => by rw [← Option.some.inj hk]; exact hm)

set_option maxHeartbeats 2000000 in
theorem add_in (w : World) (base pb : Nat) (ks L : List ByteArray) (s : ByteArray) (hp : base ≤ pb) (hn : ks.Nodup) (hL : L.length = 8) (hk : ks.length ≤ 8) (ht : L.take ks.length = ks) (hB : Box w pb (fewCs L (ks.length : Int) none) 32) (hs : s ∈ ks) :
    Calls Try.prog 11 #[.pointer (some ⟨pb, 0, none⟩), .string s] w (AddPost w base pb ks s) := by
  have c9 : w.cell? ⟨pb, 9, none⟩ = some (.map none) := by rw [hB.cell 9]; exact fewCs_m hL
  have c8 : w.cell? ⟨pb, 8, none⟩ = some (.int .i64 (ks.length : Int)) := by rw [hB.cell 8]; exact fewCs_n hL
  have q := eql30
  have hr := few_rs hL hk ht hB
  have HC : Hid (∀ k, Calls Try.prog 12 #[.slice (some ⟨pb, 0, none⟩) ks.length 8, .string s] (w.drewN k) fun e w' => e = .returned (.bool true) ∧ w.drewN k = w') := fun k => by
    have := contains_any (some ⟨pb, 0, none⟩) ks.length 8 ks s (w.drewN k) rfl (by omega) hr
    simpa [hs] using this
  have KS : Hid (KSet w base pb ks) := ⟨hp, hn, .inl ⟨L, hL, hk, ht, hB⟩⟩
  have HS := hid hs
  obtain ⟨n, hnn⟩ : ∃ n, n = ks.length := ⟨_, rfl⟩
  have HNN := hid hnn
  rw [← hnn] at c8 HC
  have i8 : (n : Int) ≤ 8 := by omega
  clear hr hn hL ht hB hs hnn hk
  go_enter Try.func11, Try.ntmps11
  go_wp2_with fail
  go_quiet ((go_at_call 12; exact quiet_eq (HC.out _)))
  go_wp2
  go_ret
  exact post_in HS.out rfl KS.out ⟨rfl, rfl, rfl, Nat.le_refl _, fun _ _ => rfl⟩

set_option maxHeartbeats 2000000 in
theorem add_few (w : World) (base pb : Nat) (ks L : List ByteArray) (s : ByteArray) (hp : base ≤ pb) (hn : ks.Nodup) (hL : L.length = 8) (hk : ks.length < 8) (ht : L.take ks.length = ks) (hB : Box w pb (fewCs L (ks.length : Int) none) 32) (hs : s ∉ ks) :
    Calls Try.prog 11 #[.pointer (some ⟨pb, 0, none⟩), .string s] w (AddPost w base pb ks s) := by
  have c9 : w.cell? ⟨pb, 9, none⟩ = some (.map none) := by rw [hB.cell 9]; exact fewCs_m hL
  have c8 : w.cell? ⟨pb, 8, none⟩ = some (.int .i64 (ks.length : Int)) := by rw [hB.cell 8]; exact fewCs_n hL
  obtain ⟨u, ck⟩ : ∃ u, w.cell? ⟨pb, ks.length, none⟩ = some (.string u) := ⟨_, by rw [hB.cell]; exact fewCs_few hL _ hk⟩
  have fk := hB.frozen ks.length
  have f8 := hB.frozen 8
  have q := eql30
  have hr := few_rs hL (by omega) ht hB
  have HC : Hid (∀ k, Calls Try.prog 12 #[.slice (some ⟨pb, 0, none⟩) ks.length 8, .string s] (w.drewN k) fun e w' => e = .returned (.bool false) ∧ w.drewN k = w') := fun k => by
    have := contains_any (some ⟨pb, 0, none⟩) ks.length 8 ks s (w.drewN k) rfl (by omega) hr
    simpa [hs] using this
  have HS := hid hs
  have HN := hid hn
  have HL := hid hL
  have HT := hid ht
  have HB := hid hB
  obtain ⟨n, hnn⟩ : ∃ n, n = ks.length := ⟨_, rfl⟩
  have HNN := hid hnn
  rw [← hnn] at c8 ck fk HC
  have i8 : (n : Int) < 8 := by omega
  have i7 : (n : Int) ≤ 8 := by omega
  have n8 : n ≠ 8 := by omega
  have n9 : ¬ 8 = n := by omega
  clear hr hn hL ht hB hs hnn hk
  go_enter Try.func11, Try.ntmps11
  go_wp2_with fail
  go_quiet ((go_at_call 12; exact quiet_eq (HC.out _)))
  go_wp2_with fail
  refine wp_region_quiet_tail (fun w' => ∃ n, w' = w.drewN n) 9 (by kernel_rfl) (by kernel_rfl) ⟨nq + 1, by simp [World.drewN, Nat.add_assoc]⟩ ?_
  simp only [List.take_succ_cons, List.take_zero, List.drop_succ_cons, List.drop_zero]
  repeat (quiet_step (fail))
  refine wpQuiet_nil ?_
  rintro _ ⟨n2, rfl⟩
  go_wp2
  go_ret
  have B0 : Box (w.drewN n2) pb (fewCs L (ks.length : Int) none) 32 := HB.out
  have hn8 : n < 8 := by omega
  have B1 := (B0.set n (.string s)).set 8 (.int .i64 ((n : Int) + 1))
  rw [fewCs_set HL.out n hn8, fewCs_setn (by simp [HL.out])] at B1
  refine post_out HS.out rfl ⟨hp, nodup_snoc HN.out HS.out, .inl ⟨L.set n s, by simp [HL.out], by simp; rw [← HNN.out]; omega, ?_, ?_⟩⟩ ?_
  · rw [List.length_append, List.length_singleton, ← HNN.out, List.take_succ_eq_append_getElem (by simp [HL.out]; omega)]
    simp
    rw [← HT.out, ← HNN.out]
    exact List.take_set_of_le (Nat.le_refl _)
  · simpa [← HNN.out] using B1
  · have b0 : Below base w (w.drewN n2) := ⟨rfl, rfl, rfl, Nat.le_refl _, fun _ _ => rfl⟩
    have b1 : Below base w ((w.drewN n2).setCell ⟨pb, n, none⟩ (.string s)) := Below.setCell b0 hp _
    exact Below.setCell b1 hp _

theorem eight {L : List ByteArray} (h : L.length = 8) : ∃ s0 s1 s2 s3 s4 s5 s6 s7, L = [s0, s1, s2, s3, s4, s5, s6, s7] := by
  match L, h with
  | [a, b, c, d, e, f, g, h], _ => exact ⟨a, b, c, d, e, f, g, h, rfl⟩

/-- The keys go into the map one by one. -/
def Turned (w : World) (base pb mb : Nat) (L : List ByteArray) (i : Nat) (w' : World) : Prop := Box w' pb (fewCs L 8 (some mb)) 32 ∧ MapIs w' mb (tru (L.take i)) ∧ Below base w w'

set_option maxHeartbeats 2000000 in
theorem add_turn (w : World) (base pb : Nat) (ks L : List ByteArray) (s : ByteArray) (hp : base ≤ pb) (hn : ks.Nodup) (hL : L.length = 8) (hk : ks.length = 8) (ht : L.take ks.length = ks) (hB : Box w pb (fewCs L (ks.length : Int) none) 32) (hs : s ∉ ks) :
    Calls Try.prog 11 #[.pointer (some ⟨pb, 0, none⟩), .string s] w (AddPost w base pb ks s) := by
  obtain rfl : L = ks := by rw [hk, ← hL, List.take_length] at ht; exact ht
  rw [hk] at hB
  have c9 : w.cell? ⟨pb, 9, none⟩ = some (.map none) := by rw [hB.cell 9]; exact fewCs_m hL
  have c8 : w.cell? ⟨pb, 8, none⟩ = some (.int .i64 8) := by rw [hB.cell 8]; exact fewCs_n hL
  have f9 := hB.frozen 9
  have q := eql30
  have hr := few_rs hL (by omega) ht hB
  have HC : Hid (∀ k, Calls Try.prog 12 #[.slice (some ⟨pb, 0, none⟩) 8 8, .string s] (w.drewN k) fun e w' => e = .returned (.bool false) ∧ w.drewN k = w') := fun k => by
    have := contains_any (some ⟨pb, 0, none⟩) L.length 8 L s (w.drewN k) rfl (by omega) hr
    rw [hL] at this
    simpa [hs] using this
  have HS := hid hs
  have HN := hid hn
  have HL := hid hL
  have HB := hid hB
  have lp := hB.lt
  obtain ⟨s0, s1, s2, s3, s4, s5, s6, s7, hLe⟩ := eight hL
  have HLE := hid hLe
  clear hr hn ht hB hs hk hLe hL
  go_enter Try.func11, Try.ntmps11
  go_wp2_with fail
  go_quiet ((go_at_call 12; exact quiet_eq (HC.out _)))
  go_upto_region 8 with fail
  obtain ⟨wq, hwq⟩ : ∃ wq, wq = w.drewN nq := ⟨_, rfl⟩
  have bq : Below w.heap.size w wq := by rw [hwq]; exact ⟨rfl, rfl, rfl, Nat.le_refl _, fun _ _ => rfl⟩
  obtain ⟨mb, hmb⟩ : ∃ mb, mb = wq.heap.size := ⟨_, rfl⟩
  obtain ⟨wM, hwM⟩ : ∃ wM, wM = wq.alloc (.map #[] 0) := ⟨_, rfl⟩
  have hmm : (Instr.makeMap 30 none).run Try.prog wq = .ok (.map (some mb)) wM := by rw [hwM, hmb]; exact run_makeMap _ _
  have bM : Below w.heap.size w wM := by rw [hwM]; exact bq.alloc bq.size _
  have hsq := bq.size
  have hne : mb ≠ pb := by omega
  have hbm : base ≤ mb := by omega
  have MM : Hid (MapIs wM mb []) := by rw [hwM, hmb]; exact mapIs_made wq
  have BM := HB.out.later bM
  have m9 : wM.cell? ⟨pb, 9, none⟩ = some (.map none) := by rw [BM.cell 9]; exact fewCs_m HL.out
  have fz9 := BM.frozen 9
  rw [← hwq]
  clear hwq hwM hmb c9 c8 f9
  go_upto_region 9 with fail
  obtain ⟨w1, hw1⟩ : ∃ w1, w1 = wM.setCell ⟨pb, 9, none⟩ (.map (some mb)) := ⟨_, rfl⟩
  have T0 : Hid (Turned w base pb mb L 0 w1) := by
    have h1 := BM.set 9 (.map (some mb))
    rw [fewCs_setm HL.out] at h1
    refine ⟨by rw [hw1]; exact h1, ?_, ?_⟩
    · rw [hw1]
      exact MM.out.of_heap (Below.heap_setCell _ _ _ _ hne)
    · rw [hw1]
      exact Below.setCell (bM.mono (by omega)) hp _
  have ch := HLE.out
  have k0 : w1.cell? ⟨pb, 0, none⟩ = some (.string s0) := by rw [T0.out.1.cell 0, fewCs_few HL.out 0 (by omega)]; simp [ch]
  have k1 : w1.cell? ⟨pb, 1, none⟩ = some (.string s1) := by rw [T0.out.1.cell 1, fewCs_few HL.out 1 (by omega)]; simp [ch]
  have k2 : w1.cell? ⟨pb, 2, none⟩ = some (.string s2) := by rw [T0.out.1.cell 2, fewCs_few HL.out 2 (by omega)]; simp [ch]
  have k3 : w1.cell? ⟨pb, 3, none⟩ = some (.string s3) := by rw [T0.out.1.cell 3, fewCs_few HL.out 3 (by omega)]; simp [ch]
  have k4 : w1.cell? ⟨pb, 4, none⟩ = some (.string s4) := by rw [T0.out.1.cell 4, fewCs_few HL.out 4 (by omega)]; simp [ch]
  have k5 : w1.cell? ⟨pb, 5, none⟩ = some (.string s5) := by rw [T0.out.1.cell 5, fewCs_few HL.out 5 (by omega)]; simp [ch]
  have k6 : w1.cell? ⟨pb, 6, none⟩ = some (.string s6) := by rw [T0.out.1.cell 6, fewCs_few HL.out 6 (by omega)]; simp [ch]
  have k7 : w1.cell? ⟨pb, 7, none⟩ = some (.string s7) := by rw [T0.out.1.cell 7, fewCs_few HL.out 7 (by omega)]; simp [ch]
  rw [← hw1]
  clear ch hw1 hmm m9 fz9 BM bM
  go_wp2
  go_loopw [6, 51] (fun kv iv wx => ∃ i : Nat, i ≤ 8 ∧ iv = .int .i64 i ∧ Hid (Turned w base pb mb L i wx)) (fun _ iv _ => 8 - (intOf iv).toNat)
  case atStart => exact ⟨0, Nat.zero_le _, rfl, T0⟩
  case round =>
    clear T0 k0 k1 k2 k3 k4 k5 k6 k7
    obtain ⟨i, hi, rfl, T⟩ := hrel
    have t9 : wr.cell? ⟨pb, 9, none⟩ = some (.map (some mb)) := by rw [T.out.1.cell 9]; exact fewCs_m HL.out
    by_cases hlt : i < 8
    · have hix := idx29 s0 s1 s2 s3 s4 s5 s6 s7 wr i hlt
      have hil : i < L.length := by rw [HL.out]; exact hlt
      obtain ⟨S, hS⟩ : ∃ S, S = [s0, s1, s2, s3, s4, s5, s6, s7][i] := ⟨_, rfl⟩
      rw [← hS] at hix
      have hSL : L[i] = S := by rw [hS]; simp [HLE.out]
      have hno : S ∉ L.take i := fun h => by
        obtain ⟨j, hj, e⟩ := List.getElem_of_mem h
        rw [List.length_take] at hj
        rw [List.getElem_take] at e
        have := List.pairwise_iff_getElem.1 HN.out j i (by omega) hil (by omega)
        exact this (e.trans hSL.symm)
      have HSL := hid hSL
      have HNO := hid hno
      have ii : (i : Int) < 8 := by omega
      have lpr := T.out.1.lt
      clear hS hSL hno
      go_wp2_with (at_mapUpdate; refine wpList_mapUpdate_new _ rfl _ _ _ 30 rfl 9 4 Try.underlying30 Try.underlying9 mb (tru (L.take i)) rfl T.out.2.1 S (.bool true) rfl rfl (lk_tru_out HNO.out) ?_; intro w2 hm2 hg2 hs2; have HM2 := hid hm2; have HG2 := hid hg2; clear hm2 hg2 hs2)
      go_roundw
      case rel =>
        refine ⟨i + 1, by omega, by go_num, T.out.1.of_heap (HG2.out.block pb lpr (fun e => hne (Option.some.inj e).symm)), ?_, ?_⟩
        · rw [List.take_succ_eq_append_getElem hil, HSL.out, tru_snoc]
          exact HM2.out
        · exact T.out.2.2.trans ((Below.refl _ _).grown HG2.out (by have := T.out.2.2.size; omega) (fun k hk => by rw [← Option.some.inj hk]; exact hbm))
      case measure => simp [intOf]; omega
    · have hi8 : i = 8 := by omega
      subst hi8
      have hT : Hid (MapIs wr mb (tru L)) := by have := T.out.2.1; rwa [← HL.out, List.take_length] at this
      have hlk := hT.out.lookup (P := Try.prog) (t := 30) Try.underlying30 Try.underlying9 (zero4 _) s false
      rw [lk_tru_out HS.out] at hlk
      simp at hlk
      have lpr := T.out.1.lt
      go_wp2_with (at_mapUpdate; refine wpList_mapUpdate_new _ rfl _ _ _ 30 rfl 9 4 Try.underlying30 Try.underlying9 mb (tru L) rfl hT.out s (.bool true) rfl rfl (lk_tru_out HS.out) ?_; intro w2 hm2 hg2 hs2; have HM2 := hid hm2; have HG2 := hid hg2; clear hm2 hg2 hs2)
      go_ret
      refine post_out HS.out rfl ⟨hp, nodup_snoc HN.out HS.out, .inr ⟨L, 8, mb, HL.out, T.out.1.of_heap (HG2.out.block pb lpr (fun e => hne (Option.some.inj e).symm)), by rw [tru_snoc]; exact HM2.out, hne, hbm⟩⟩ ?_
      exact T.out.2.2.trans ((Below.refl _ _).grown HG2.out (by have := T.out.2.2.size; omega) (fun k hk => by rw [← Option.some.inj hk]; exact hbm))

end Go.Proofs.Qxb6000994a
