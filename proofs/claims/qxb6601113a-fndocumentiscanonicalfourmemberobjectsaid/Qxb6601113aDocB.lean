import Derived.Test.Qxb6601113aDocA
namespace Go.Proofs.Qxb6601113a
open Go.RowKit

theorem any_bool {b : Bool} {e : Ending} (h : e = .returned (.bool b)) : BoolIf e True := ⟨b, h, fun _ => trivial⟩

/-! zzBytes_FnDocumentIsCanonicalFourMemberObject: it comes back with a bool -/
set_option maxRecDepth 100000 in
set_option maxHeartbeats 2000000 in
theorem bytesDoc_any (id res : ByteArray) (a1 a2 a3 : Option Addr) (n1 n2 n3 c1 c2 c3 : Nat) (i : Int) (s1 s2 s3 : List ByteArray) (w : World) (hid : id.size ≤ maxLen) (hres : res.size ≤ maxLen)
    (h1 : s1.length = n1) (h2 : s2.length = n2) (h3 : s3.length = n3) (m1 : n1 ≤ maxLen) (m2 : n2 ≤ maxLen) (m3 : n3 ≤ maxLen) (r1 : RS w a1 s1) (r2 : RS w a2 s2) (r3 : RS w a3 s3)
    (z1 : ∀ s ∈ s1, s.size ≤ maxLen) (z2 : ∀ s ∈ s2, s.size ≤ maxLen) (z3 : ∀ s ∈ s3, s.size ≤ maxLen) :
    Calls Try.prog 14 #[.string id, .string res, .slice a1 n1 c1, .slice a2 n2 c2, .slice a3 n3 c3, .int .i64 i] w fun e w' => w = w' ∧ BoolIf e True := by
  unfold maxLen at hid hres m1 m2 m3
  have H1 : Hid (∀ k, k < n1 → ∃ b o S, a1 = some ⟨b, o, none⟩ ∧ S.size ≤ 9223372036854775807 ∧ w.cell? ⟨b, o + k, none⟩ = some (.string S)) := fun k hk => by
    obtain ⟨b, o, S, ha, hS, hc⟩ := r1.at k (by omega)
    exact ⟨b, o, S, ha, z1 S (by rw [hS]; simp [List.getD, show k < s1.length by omega]), hc⟩
  have H2 : Hid (∀ k, k < n2 → ∃ b o S, a2 = some ⟨b, o, none⟩ ∧ S.size ≤ 9223372036854775807 ∧ w.cell? ⟨b, o + k, none⟩ = some (.string S)) := fun k hk => by
    obtain ⟨b, o, S, ha, hS, hc⟩ := r2.at k (by omega)
    exact ⟨b, o, S, ha, z2 S (by rw [hS]; simp [List.getD, show k < s2.length by omega]), hc⟩
  have H3 : Hid (∀ k, k < n3 → ∃ b o S, a3 = some ⟨b, o, none⟩ ∧ S.size ≤ 9223372036854775807 ∧ w.cell? ⟨b, o + k, none⟩ = some (.string S)) := fun k hk => by
    obtain ⟨b, o, S, ha, hS, hc⟩ := r3.at k (by omega)
    exact ⟨b, o, S, ha, z3 S (by rw [hS]; simp [List.getD, show k < s3.length by omega]), hc⟩
  clear h1 h2 h3 r1 r2 r3 z1 z2 z3
  go_enter Try.func14, Try.ntmps14
  go_wp2
  any_goals (go_ret; exact ⟨rfl, any_bool rfl⟩)
  go_loop [13, 14] (fun v i => ∃ (k : Nat) (t : Int), k ≤ n1 ∧ i = .int .i64 k ∧ v = .int .i64 t ∧ 0 ≤ t ∧ t ≤ 1048576) (fun _ i => n1 - (intOf i).toNat)
  case atStart => exact ⟨0, _, Nat.zero_le _, rfl, rfl, by omega, by omega⟩
  case round =>
    obtain ⟨k, t, hk, rfl, rfl, ht0, ht1⟩ := hrel
    by_cases hlt : k < n1
    · obtain ⟨b, o, S, ha, hSm, hcx⟩ := H1.out k hlt
      clear H1 H2 H3
      subst ha
      go_wp2
      any_goals (go_ret; exact ⟨rfl, any_bool rfl⟩)
      go_round
      case rel => exact ⟨k + 1, t + S.size, by omega, by go_num, rfl, by omega, by omega⟩
      case measure => simp [intOf]; omega
    · go_wp2
      any_goals (go_ret; exact ⟨rfl, any_bool rfl⟩)
      go_loop [13, 15] (fun v i => ∃ (k : Nat) (t : Int), k ≤ n2 ∧ i = .int .i64 k ∧ v = .int .i64 t ∧ 0 ≤ t ∧ t ≤ 1048576) (fun _ i => n2 - (intOf i).toNat)
      case atStart => exact ⟨0, _, Nat.zero_le _, rfl, rfl, by omega, by omega⟩
      case round =>
        obtain ⟨k, t, hk, rfl, rfl, ht0, ht1⟩ := hrel
        by_cases hlt : k < n2
        · obtain ⟨b, o, S, ha, hSm, hcx⟩ := H2.out k hlt
          clear H1 H2 H3
          subst ha
          go_wp2
          any_goals (go_ret; exact ⟨rfl, any_bool rfl⟩)
          go_round
          case rel => exact ⟨k + 1, t + S.size, by omega, by go_num, rfl, by omega, by omega⟩
          case measure => simp [intOf]; omega
        · go_wp2
          any_goals (go_ret; exact ⟨rfl, any_bool rfl⟩)
          go_loop [13, 16] (fun v i => ∃ (k : Nat) (t : Int), k ≤ n3 ∧ i = .int .i64 k ∧ v = .int .i64 t ∧ 0 ≤ t ∧ t ≤ 1048576) (fun _ i => n3 - (intOf i).toNat)
          case atStart => exact ⟨0, _, Nat.zero_le _, rfl, rfl, by omega, by omega⟩
          case round =>
            obtain ⟨k, t, hk, rfl, rfl, ht0, ht1⟩ := hrel
            by_cases hlt : k < n3
            · obtain ⟨b, o, S, ha, hSm, hcx⟩ := H3.out k hlt
              clear H1 H2 H3
              subst ha
              go_wp2
              any_goals (go_ret; exact ⟨rfl, any_bool rfl⟩)
              go_round
              case rel => exact ⟨k + 1, t + S.size, by omega, by go_num, rfl, by omega, by omega⟩
              case measure => simp [intOf]; omega
            · go_wp2
              any_goals (go_ret; exact ⟨rfl, any_bool rfl⟩)

end Go.Proofs.Qxb6601113a
