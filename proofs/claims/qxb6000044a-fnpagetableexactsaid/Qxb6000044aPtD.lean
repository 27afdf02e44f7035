import Derived.Test.Qxb6000044aPtC
namespace Go.Proofs.Qxb6000044a
open Go.RowKit

theorem Try.info27 : (Try.prog.info? 27).map (fun i => (i.zero, i.size, i.bytes)) = some (some (.slice none 0 0), 1, 24) := by kernel_rfl

theorem set_app {A : List Value} {n k : Nat} {z v : Value} (hA : A.length = k) (hk : k < n) : (A ++ List.replicate (n - k) z).set k v = (A ++ [v]) ++ List.replicate (n - (k + 1)) z := by
  obtain ⟨m, hm⟩ : ∃ m, n - k = m + 1 := ⟨n - k - 1, by omega⟩
  rw [hm, show n - (k + 1) = m by omega, List.replicate_succ, List.set_append_right _ _ (by omega), hA, Nat.sub_self]
  simp

theorem app_cell {A : List Value} {n k : Nat} {z : Value} (hA : A.length = k) (hk : k < n) : (A ++ List.replicate (n - k) z)[k]? = some z := by
  rw [List.getElem?_append_right (by omega), hA, Nat.sub_self]
  simp [show 0 < n - k by omega]

theorem own_later {w w' : World} {base : Nat} {e : TypeId} {size n : Nat} {v : Value} {xs : List Value} (h : w.ownsRow base e size v n xs) (hb : Below w.heap.size w w') : w'.ownsRow base e size v n xs := by
  refine ⟨h.1, ?_⟩
  rcases h.2 with h2 | ⟨g, cap, cur, hv, hg, hh, r⟩
  · exact .inl h2
  · exact .inr ⟨g, cap, cur, hv, hg, by rw [hb.block g (lt_of_block hh)]; exact hh, r⟩

theorem RV.setCell {w : World} {a : Option Addr} {vs : List Value} (h : RV w a vs) {p : Addr} {u : Value} (hp : ∀ x, a = some x → x.block ≠ p.block) : RV (w.setCell p u) a vs := by
  refine ⟨h.1, fun x hx j v hj => ?_⟩
  rw [World.cell?_of_block (w := w) (Below.heap_setCell _ _ _ _ ?_)]
  · exact h.2 x hx j v hj
  · have := hp x hx
    simp only [Addr.add]
    split <;> exact this

/-- What cloneRows leaves. -/
def RowsPost (w : World) (n : Nat) (rows : List RowD) (e : Ending) (w' : World) : Prop :=
  ∃ a' rows', e = .returned (.slice a' n n) ∧ rows'.map RowD.ss = rows.map RowD.ss ∧ RR w' a' rows' ∧ Below w.heap.size w w'

set_option maxHeartbeats 1000000 in
theorem cloneR_any (a : Option Addr) (n cap : Nat) (rows : List RowD) (w : World) (hl : n ≤ 1048576) (hz : rows.length = n) (hnil : a = none → cap = 0) (h : RR w a rows) (hr : ∀ r ∈ rows, r.ss.length ≤ 1048576) :
    Calls Try.prog 17 #[.slice a n cap] w (RowsPost w n rows) := by
  cases a with
  | none =>
    obtain rfl := hnil rfl
    have h0 : rows = [] := by have := h.1.1 rfl; simpa using this
    subst h0
    simp at hz
    subst hz
    have hn := fun w => Lib.run_eql_slice_nil (P := Try.prog) w 29 27 none 0 0 0 0 Try.underlying29
    clear h hnil hl hr
    go_enter Try.func17, Try.ntmps17
    go_wp2
    go_ret
    exact ⟨none, [], rfl, rfl, ⟨rv_nil _, fun r hr => by simp at hr⟩, Below.refl _ _⟩
  | some x =>
    have HR := hid h
    have HL := hid hz
    have HB := hid hr
    clear h hz hr hnil
    obtain ⟨i0, hi, hz0, hz1, hz2⟩ := info_parts Try.info27
    have hn := fun w => Lib.run_eql_slice_nil (P := Try.prog) w 29 27 (some x) n cap 0 0 Try.underlying29
    go_enter Try.func17, Try.ntmps17
    go_wp2_with (at_make; refine wpList_make_full _ rfl _ _ 29 rfl w.heap.size 27 i0 (.slice none 0 0) 1 Try.underlying29 hi hz0 hz1 .i64 .i64 _ _ n rfl rfl rfl rfl (by rw [hz2]; omega) (by unfold maxLen; omega) (Nat.le_refl _) ?_)
    intro w1 hown hgrow
    clear hi hz0 hz1 hz2 hn
    have hb : Below w.heap.size w w1 := (Below.refl _ _).grown hgrow (Nat.le_refl _) (by simp)
    go_wp2
    go_loopw [4] (fun i wr => ∃ (k : Nat) (done : List RowD), k ≤ n ∧ i = .int .i64 k ∧ Hid (done.length = k ∧ done.map RowD.ss = (rows.take k).map RowD.ss) ∧ wr.ownsRow w.heap.size 27 1 (.slice (some ⟨w.heap.size, 0, none⟩) n n) n (done.map RowD.val ++ List.replicate (n - k) (.slice none 0 0)) ∧ Below w.heap.size w wr ∧
      Hid (∀ r ∈ done, RV wr r.a (strsV r.ss) ∧ (r.a = none → r.cap = 0) ∧ ∀ x, r.a = some x → w.heap.size < x.block)) (fun i _ => n - (intOf i).toNat)
    case atStart => exact ⟨0, [], Nat.zero_le _, rfl, ⟨rfl, rfl⟩, by simpa [Value.cells, toList_madeCells_one] using hown, hb, fun r hr => by simp at hr⟩
    case round =>
      obtain ⟨k, done, hk, rfl, HD, ho, hbr, HV⟩ := hrel
      clear hown hgrow hb
      by_cases hlt : k < n
      · have hkr : k < rows.length := by rw [HL.out]; exact hlt
        obtain ⟨b, o, ha, hc, hrv, hrn⟩ := HR.out.at hkr
        have hcx : wr.cell? ⟨b, o + k, none⟩ = some rows[k].val := by rw [hbr.cell (World.block_lt_of_cell? _ _ hc)]; exact hc
        obtain ⟨r, hr⟩ : ∃ r, r = rows[k] := ⟨_, rfl⟩
        rw [← hr] at hcx hrv hrn
        have HRk := hid hr
        have hrl : r.ss.length ≤ 1048576 := by rw [hr]; exact HB.out _ (List.getElem_mem hkr)
        have hrv' : RV wr r.a (strsV r.ss) := ⟨hrv.1, fun y hy j u hj => by
          have := hrv.2 y hy j u hj
          rw [hbr.cell (World.block_lt_of_cell? _ _ this)]; exact this⟩
        have HCL := hid (cloneS_any r.a r.ss.length r.cap r.ss wr hrl rfl hrn hrv')
        have hlw := (ho.lt w.heap.size rfl).2
        unfold RowD.val at hcx
        have hx := Option.some.inj ha
        subst hx
        clear hr hc hrv hrn hrv' ha HB
        go_wp2_with fail
        refine Calls.mono HCL.out ?_
        rintro e w2 ⟨a3, rfl, rv3, b3, n3, g3⟩
        have ho2 := own_later ho b3
        have hfz := ho2.frozenAt k
        have hce : w2.cell? ⟨w.heap.size, k, none⟩ = some (.slice none 0 0) := by rw [ho2.cellAt k (by omega)]; exact app_cell (by simpa using HD.out.1) hlt
        have hst := ho2.stored k (.slice a3 r.ss.length r.ss.length)
        rw [set_app (by simpa using HD.out.1) hlt] at hst
        have R1 := hst.1
        have R2 : Below w.heap.size w (w2.setCell ⟨w.heap.size, k, none⟩ (.slice a3 r.ss.length r.ss.length)) := (hbr.trans (b3.mono hbr.size)).setCell (Nat.le_refl _) _
        have R3 : Hid (∀ q ∈ done ++ [(⟨a3, r.ss.length, r.ss⟩ : RowD)], RV (w2.setCell ⟨w.heap.size, k, none⟩ (.slice a3 r.ss.length r.ss.length)) q.a (strsV q.ss) ∧ (q.a = none → q.cap = 0) ∧ ∀ x, q.a = some x → w.heap.size < x.block) := by
          intro q hq
          rcases List.mem_append.1 hq with h | h
          · obtain ⟨v1, v2, v3⟩ := HV.out q h
            exact ⟨(v1.later b3).setCell (fun x hx => by have := v3 x hx; simp; omega), v2, v3⟩
          · simp at h
            subst h
            exact ⟨rv3.setCell (fun x hx => by have := g3 x hx; simp; omega), n3, fun x hx => by have := g3 x hx; omega⟩
        have R4 : Hid ((done ++ [(⟨a3, r.ss.length, r.ss⟩ : RowD)]).length = k + 1 ∧ (done ++ [(⟨a3, r.ss.length, r.ss⟩ : RowD)]).map RowD.ss = (rows.take (k + 1)).map RowD.ss) := by
          refine ⟨by simp [HD.out.1], ?_⟩
          rw [List.take_succ_eq_append_getElem hkr, List.map_append, List.map_append, HD.out.2, ← HRk.out]
          rfl
        clear hst ho2 ho hbr HCL rv3 b3 n3 g3 HV HRk
        go_wp2
        go_roundw
        case rel => exact ⟨k + 1, _, by omega, by go_num, R4, by rw [List.map_append]; exact R1, R2, R3⟩
        case measure => simp [intOf]; omega
      · have hkl : k = n := by omega
        subst hkl
        go_wp2
        go_ret
        refine ⟨_, done, rfl, ?_, ⟨?_, fun r hr => ?_⟩, hbr⟩
        · have := HD.out.2
          rwa [List.take_of_length_le (by rw [HL.out]; exact Nat.le_refl _)] at this
        · have := rv_of_own ho
          rwa [Nat.sub_self, List.replicate_zero, List.append_nil] at this
        · exact ⟨(HV.out r hr).1, (HV.out r hr).2.1⟩

end Go.Proofs.Qxb6000044a
