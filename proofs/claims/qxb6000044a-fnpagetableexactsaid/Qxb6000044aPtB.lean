import Derived.Test.Qxb6000044aPtA
namespace Go.Proofs.Qxb6000044a
open Go.RowKit

theorem any_b {b : Bool} {e : Ending} (h : e = .returned (.bool b)) : BoolThen e True := ⟨b, h, fun _ => trivial⟩

/-! zzBytes_FnPageTableExact: it comes back with a bool -/
set_option maxRecDepth 100000 in
set_option maxHeartbeats 2000000 in
theorem bytesPt_any (cp : ByteArray) (a1 a2 a3 : Option Addr) (n1 n2 n3 c1 c2 c3 : Nat) (ts : List ByteArray) (rows : List RowD) (w : World) (hcp : cp.size ≤ maxLen)
    (h1 : ts.length = n1) (h3 : rows.length = n3) (m1 : n1 ≤ maxLen) (m2 : n2 ≤ maxLen) (m3 : n3 ≤ maxLen) (r1 : RV w a1 (strsV ts)) (r3 : RR w a3 rows)
    (z1 : ∀ s ∈ ts, s.size ≤ maxLen) (z3 : ∀ r ∈ rows, r.ss.length ≤ maxLen ∧ ∀ s ∈ r.ss, s.size ≤ maxLen) :
    Calls Try.prog 12 #[.string cp, .slice a1 n1 c1, .slice a2 n2 c2, .slice a3 n3 c3] w fun e w' => w = w' ∧ BoolThen e True := by
  unfold maxLen at hcp m1 m2 m3
  have H1 : Hid (∀ k, k < n1 → ∃ b o S, a1 = some ⟨b, o, none⟩ ∧ S.size ≤ 9223372036854775807 ∧ w.cell? ⟨b, o + k, none⟩ = some (.string S)) := fun k hk => by
    obtain ⟨b, o, ha, hc⟩ := strsV_at r1 (k := k) (by omega)
    exact ⟨b, o, _, ha, z1 _ (List.getElem_mem _), hc⟩
  have H3 : Hid (∀ k (hk : k < rows.length), ∃ b o a' c' n', rows[k].ss.length = n' ∧ a3 = some ⟨b, o, none⟩ ∧ n' ≤ 9223372036854775807 ∧ w.cell? ⟨b, o + k, none⟩ = some (.slice a' n' c') ∧ Hid (∀ i, i < n' → ∃ b o S, a' = some ⟨b, o, none⟩ ∧ S.size ≤ 9223372036854775807 ∧ w.cell? ⟨b, o + i, none⟩ = some (.string S))) := fun k hk => by
    obtain ⟨b, o, ha, hc, hr, _⟩ := r3.at hk
    have hz := z3 _ (List.getElem_mem hk)
    refine ⟨b, o, _, _, _, rfl, ha, hz.1, hc, fun i hi => ?_⟩
    obtain ⟨b', o', ha', hc'⟩ := strsV_at hr hi
    exact ⟨b', o', _, ha', hz.2 _ (List.getElem_mem _), hc'⟩
  have L3 := hid h3
  clear h1 h3 r1 r3 z1 z3
  go_enter Try.func12, Try.ntmps12
  go_wp2
  any_goals (go_ret; exact ⟨rfl, any_b rfl⟩)
  go_loop [9, 10] (fun v i => ∃ (k : Nat) (t : Int), k ≤ n1 ∧ i = .int .i64 k ∧ v = .int .i64 t ∧ 0 ≤ t ∧ t ≤ 1048576) (fun _ i => n1 - (intOf i).toNat)
  case atStart => exact ⟨0, _, Nat.zero_le _, rfl, rfl, by omega, by omega⟩
  case round =>
    obtain ⟨k, t, hk, rfl, rfl, ht0, ht1⟩ := hrel
    by_cases hlt : k < n1
    · obtain ⟨b, o, S, ha, hSm, hcx⟩ := H1.out k hlt
      clear H1 H3
      subst ha
      go_wp2
      any_goals (go_ret; exact ⟨rfl, any_b rfl⟩)
      go_round
      case rel => exact ⟨k + 1, t + S.size, by omega, by go_num, rfl, by omega, by omega⟩
      case measure => simp [intOf]; omega
    · clear H1
      go_wp2
      any_goals (go_ret; exact ⟨rfl, any_b rfl⟩)
      go_loop [9, 11] (fun v i => ∃ (k : Nat) (t : Int), k ≤ n3 ∧ i = .int .i64 k ∧ v = .int .i64 t ∧ 0 ≤ t ∧ t ≤ 1048576) (fun _ i => n3 - (intOf i).toNat)
      case atStart => exact ⟨0, _, Nat.zero_le _, rfl, rfl, by omega, by omega⟩
      case round =>
        obtain ⟨k2, t2, hk2, rfl, rfl, hu0, hu1⟩ := hrel
        by_cases hlt2 : k2 < n3
        · obtain ⟨b, o, a', c', n', hn', ha, hnm, hcx, HR⟩ := H3.out k2 (by rw [L3.out]; exact hlt2)
          clear H3 hn'
          subst ha
          go_wp2
          any_goals (go_ret; exact ⟨rfl, any_b rfl⟩)
          go_loop [9, 12] (fun v i => ∃ (k : Nat) (t : Int), k ≤ n' ∧ i = .int .i64 k ∧ v = .int .i64 t ∧ 0 ≤ t ∧ t ≤ 1048576) (fun _ i => n' - (intOf i).toNat)
          case atStart => exact ⟨0, _, Nat.zero_le _, rfl, rfl, by omega, by omega⟩
          case round =>
            obtain ⟨k3, t3, hk3, rfl, rfl, hv0, hv1⟩ := hrel
            by_cases hlt3 : k3 < n'
            · obtain ⟨b', o', S, ha', hSm, hcs⟩ := HR.out k3 hlt3
              subst ha'
              go_wp2
              any_goals (go_ret; exact ⟨rfl, any_b rfl⟩)
              go_round
              case rel => exact ⟨k3 + 1, t3 + S.size, by omega, by go_num, rfl, by omega, by omega⟩
              case measure => simp [intOf]; omega
            · go_wp2
              go_round
              case rel => exact ⟨k2 + 1, t3, by omega, by go_num, rfl, by omega, by omega⟩
              case measure => simp [intOf]; omega
        · go_wp2
          go_ret
          exact ⟨rfl, any_b rfl⟩

end Go.Proofs.Qxb6000044a
