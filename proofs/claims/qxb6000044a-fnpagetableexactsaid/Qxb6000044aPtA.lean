import Derived.Test.Qxb6000044aRd
namespace Go.Proofs.Qxb6000044a
open Go.RowKit

def Within (n1 n3 : Nat) (rows : List RowD) : Prop := n1 ≤ 1048576 ∧ n3 ≤ 1048576 ∧ ∀ r ∈ rows, r.ss.length ≤ 1048576
def Fits (nc : Nat) (rows : List RowD) : Prop := ∀ r ∈ rows, r.ss.length ≤ nc

/-! pageBytesWithin at the law's limit -/
set_option maxRecDepth 100000 in
set_option maxHeartbeats 2000000 in
theorem within_any (cp : ByteArray) (a1 a2 a3 : Option Addr) (n1 n2 n3 c1 c2 c3 : Nat) (ts : List ByteArray) (rows : List RowD) (w : World) (hcp : cp.size ≤ maxLen)
    (h1 : ts.length = n1) (h3 : rows.length = n3) (m1 : n1 ≤ maxLen) (m2 : n2 ≤ maxLen) (m3 : n3 ≤ maxLen) (r1 : RV w a1 (strsV ts)) (r3 : RR w a3 rows)
    (z1 : ∀ s ∈ ts, s.size ≤ maxLen) (z3 : ∀ r ∈ rows, r.ss.length ≤ maxLen ∧ ∀ s ∈ r.ss, s.size ≤ maxLen) :
    Calls Try.prog 13 #[.string cp, .slice a1 n1 c1, .slice a2 n2 c2, .slice a3 n3 c3, .int .i64 1048576] w fun e w' => w = w' ∧ BoolThen e (Within n1 n3 rows) := by
  unfold maxLen at hcp m1 m2 m3
  have H1 : Hid (∀ k, k < n1 → ∃ b o S, a1 = some ⟨b, o, none⟩ ∧ S.size ≤ 9223372036854775807 ∧ w.cell? ⟨b, o + k, none⟩ = some (.string S)) := fun k hk => by
    obtain ⟨b, o, ha, hc⟩ := strsV_at r1 (k := k) (by omega)
    exact ⟨b, o, _, ha, z1 _ (List.getElem_mem _), hc⟩
  have H3 : Hid (∀ k (hk : k < rows.length), ∃ b o a' c' n', rows[k].ss.length = n' ∧ a3 = some ⟨b, o, none⟩ ∧ n' ≤ 9223372036854775807 ∧ w.cell? ⟨b, o + k, none⟩ = some (.slice a' n' c') ∧ Hid (∀ i, i < n' → ∃ b o S, a' = some ⟨b, o, none⟩ ∧ S.size ≤ 9223372036854775807 ∧ w.cell? ⟨b, o + i, none⟩ = some (.string S))) := fun k hk => by
    obtain ⟨b, o, ha, hc, hr, _⟩ := r3.at hk
    have hz := z3 _ (List.getElem_mem hk)
    refine ⟨b, o, _, _, _, rfl, ha, hz.1, hc, fun i hi => ?_⟩
    obtain ⟨b', o', ha', hc'⟩ := strsV_at hr hi
    exact ⟨b', o', _, ha', hz.2 _ (List.getElem_mem _), hc'⟩
  have L3 := hid h3
  clear h1 h3 r1 r3 z1 z3
  by_cases hall : cp.size ≤ 1048576 ∧ n1 ≤ 1048576 ∧ n2 ≤ 1048576 ∧ n3 ≤ 1048576
  · obtain ⟨b1, b2, b3, b4⟩ := hall
    have d1 : decide ((1048576 : Int) < (cp.size : Int)) = false := by simp; omega
    have d2 : decide ((1048576 : Int) < (n1 : Int)) = false := by simp; omega
    have d3 : decide ((1048576 : Int) < (n2 : Int)) = false := by simp; omega
    have d4 : decide ((1048576 : Int) < (n3 : Int)) = false := by simp; omega
    go_enter Try.func13, Try.ntmps13
    go_wp2
    any_goals (go_ret; exact ⟨rfl, bool_false rfl⟩)
    go_loop [11, 12] (fun v i => ∃ (k : Nat) (t : Int), k ≤ n1 ∧ i = .int .i64 k ∧ v = .int .i64 t ∧ 0 ≤ t ∧ t ≤ 1048576) (fun _ i => n1 - (intOf i).toNat)
    case atStart => exact ⟨0, _, Nat.zero_le _, rfl, rfl, by omega, by omega⟩
    case round =>
      obtain ⟨k, t, hk, rfl, rfl, ht0, ht1⟩ := hrel
      by_cases hlt : k < n1
      · obtain ⟨b, o, S, ha, hSm, hcx⟩ := H1.out k hlt
        clear H1 H3
        subst ha
        go_wp2
        any_goals (go_ret; exact ⟨rfl, bool_false rfl⟩)
        go_round
        case rel => exact ⟨k + 1, t + S.size, by omega, by go_num, rfl, by omega, by omega⟩
        case measure => simp [intOf]; omega
      · go_wp2
        clear H1
        go_loop [11, 13] (fun v i => ∃ (k : Nat) (t : Int), k ≤ n3 ∧ i = .int .i64 k ∧ v = .int .i64 t ∧ 0 ≤ t ∧ t ≤ 1048576 ∧ Hid (∀ r ∈ rows.take k, r.ss.length ≤ 1048576)) (fun _ i => n3 - (intOf i).toNat)
        case atStart => exact ⟨0, _, Nat.zero_le _, rfl, rfl, by omega, by omega, fun r hr => by simp at hr⟩
        case round =>
          obtain ⟨k2, t2, hk2, rfl, rfl, hu0, hu1, HK⟩ := hrel
          by_cases hlt2 : k2 < n3
          · obtain ⟨b, o, a', c', n', hn', ha, hnm, hcx, HR⟩ := H3.out k2 (by rw [L3.out]; exact hlt2)
            have HN := hid hn'
            clear H3 hn'
            subst ha
            go_wp2
            any_goals (go_ret; exact ⟨rfl, bool_false rfl⟩)
            go_loop [11, 15] (fun v i => ∃ (k : Nat) (t : Int), k ≤ n' ∧ i = .int .i64 k ∧ v = .int .i64 t ∧ 0 ≤ t ∧ t ≤ 1048576) (fun _ i => n' - (intOf i).toNat)
            case atStart => exact ⟨0, _, Nat.zero_le _, rfl, rfl, by omega, by omega⟩
            case round =>
              obtain ⟨k3, t3, hk3, rfl, rfl, hv0, hv1⟩ := hrel
              by_cases hlt3 : k3 < n'
              · obtain ⟨b', o', S, ha', hSm, hcs⟩ := HR.out k3 hlt3
                subst ha'
                clear hcx
                go_wp2
                any_goals (go_ret; exact ⟨rfl, bool_false rfl⟩)
                go_round
                case rel => exact ⟨k3 + 1, t3 + S.size, by omega, by go_num, rfl, by omega, by omega⟩
                case measure => simp [intOf]; omega
              · have hn1 : n' ≤ 1048576 := by omega
                go_wp2
                go_round
                case rel =>
                  refine ⟨k2 + 1, t3, by omega, by go_num, rfl, by omega, by omega, ?_⟩
                  intro r hr
                  rw [List.take_succ_eq_append_getElem (by rw [L3.out]; exact hlt2)] at hr
                  rcases List.mem_append.1 hr with h | h
                  · exact HK.out r h
                  · simp at h
                    rw [h, HN.out]; exact hn1
                case measure => simp [intOf]; omega
          · go_wp2
            go_ret
            refine ⟨rfl, bool_true rfl ⟨b2, b4, ?_⟩⟩
            have := HK.out
            rwa [List.take_of_length_le (by rw [L3.out]; omega)] at this
  · clear H1 H3 L3
    go_enter Try.func13, Try.ntmps13
    go_wp2_with fail
    all_goals (go_ret; exact ⟨rfl, bool_false rfl⟩)

/-! rowsFit -/
set_option maxHeartbeats 1000000 in
theorem fit_any (nc n3 c3 : Nat) (a3 : Option Addr) (rows : List RowD) (w : World) (h3 : rows.length = n3) (_hn : nc ≤ 1048576) (hn3 : n3 ≤ 1048576) (r3 : RR w a3 rows) (z3 : ∀ r ∈ rows, r.ss.length ≤ 1048576) :
    Calls Try.prog 14 #[.int .i64 (nc : Int), .slice a3 n3 c3] w fun e w' => w = w' ∧ BoolThen e (Fits nc rows) := by
  have H3 : Hid (∀ k (hk : k < rows.length), ∃ b o a' c' n', rows[k].ss.length = n' ∧ a3 = some ⟨b, o, none⟩ ∧ n' ≤ 1048576 ∧ w.cell? ⟨b, o + k, none⟩ = some (.slice a' n' c')) := fun k hk => by
    obtain ⟨b, o, ha, hc, hr, _⟩ := r3.at hk
    exact ⟨b, o, _, _, _, rfl, ha, z3 _ (List.getElem_mem hk), hc⟩
  have L3 := hid h3
  clear h3 r3 z3
  go_enter Try.func14, Try.ntmps14
  go_wp2
  go_loop [5] (fun i => ∃ k : Nat, k ≤ n3 ∧ i = .int .i64 k ∧ Hid (∀ r ∈ rows.take k, r.ss.length ≤ nc)) (fun i => n3 - (intOf i).toNat)
  case atStart => exact ⟨0, Nat.zero_le _, rfl, fun r hr => by simp at hr⟩
  case round =>
    obtain ⟨k, hk, rfl, HK⟩ := hrel
    by_cases hlt : k < n3
    · obtain ⟨b, o, a', c', n', hn', ha, hnm, hcx⟩ := H3.out k (by rw [L3.out]; exact hlt)
      have HN := hid hn'
      clear H3 hn'
      subst ha
      by_cases hf : nc < n'
      · go_wp2
        go_ret
        exact ⟨rfl, bool_false rfl⟩
      · go_wp2
        go_round
        case rel =>
          refine ⟨k + 1, by omega, by go_num, ?_⟩
          intro r hr
          rw [List.take_succ_eq_append_getElem (by rw [L3.out]; exact hlt)] at hr
          rcases List.mem_append.1 hr with h | h
          · exact HK.out r h
          · simp at h
            rw [h, HN.out]; omega
        case measure => simp [intOf]; omega
    · go_wp2
      go_ret
      refine ⟨rfl, bool_true rfl ?_⟩
      have := HK.out
      rwa [List.take_of_length_le (by rw [L3.out]; omega)] at this

end Go.Proofs.Qxb6000044a
