import Derived.Test.Qxb6601113aStrK
import Derived.Test.Qxb6601113aPlain2
import Derived.WalkSmall
namespace Go.Proofs.Qxb6601113a
open Go.RowKit

/-- A slice of strings that can be read. -/
def RS (w : World) (a : Option Addr) (ss : List ByteArray) : Prop := (a = none → ss = []) ∧ ∀ x, a = some x → ∀ j, j < ss.length → w.cell? (x.add j) = some (.string (ss.getD j ByteArray.empty))

theorem RS.later {w w' : World} {a : Option Addr} {ss : List ByteArray} (h : RS w a ss) (hb : Below w.heap.size w w') : RS w' a ss :=
  ⟨h.1, fun x hx j hj => cell_later hb (h.2 x hx j hj)⟩

theorem RS.lit {w : World} {a : Option Addr} {ss : List ByteArray} (h : RS w a ss) (hl : 0 < ss.length) : ∃ b o, a = some ⟨b, o, none⟩ ∧ ∀ k, k < ss.length → w.cell? ⟨b, o + k, none⟩ = some (.string (ss.getD k ByteArray.empty)) := by
  cases a with
  | none => have := h.1 rfl; rw [this] at hl; simp at hl
  | some x =>
    have h0 := h.2 x rfl 0 hl
    obtain ⟨b, o, sp⟩ := x
    have hsp : sp = none := by simpa [Addr.add] using World.cell?_spot h0
    subst hsp
    exact ⟨b, o, rfl, fun k hk => by rw [← Addr.add_lit]; exact h.2 _ rfl k hk⟩

/-- What a round asks: the k-th string. -/
theorem RS.at {w : World} {a : Option Addr} {ss : List ByteArray} (h : RS w a ss) (k : Nat) (hk : k < ss.length) : ∃ b o S, a = some ⟨b, o, none⟩ ∧ S = ss.getD k ByteArray.empty ∧ w.cell? ⟨b, o + k, none⟩ = some (.string S) := by
  obtain ⟨b, o, ha, hc⟩ := h.lit (by omega)
  exact ⟨b, o, _, ha, rfl, hc k hk⟩

/-! zzAddLens -/
set_option maxHeartbeats 1000000 in
theorem addLens_any (t : Int) (a : Option Addr) (n cap : Nat) (ss : List ByteArray) (w : World) (hn : ss.length = n) (hnn : n ≤ 65536) (hs : RS w a ss) (ht0 : 0 ≤ t) (ht1 : t ≤ 8388608) (hsz : ∀ s ∈ ss, s.size ≤ maxLen) :
    Calls Try.prog 24 #[.int .i64 t, .slice a n cap] w fun e w' => ∃ r : Int, e = .returned (.int .i64 r) ∧ w = w' ∧ 0 ≤ r ∧ r ≤ 8388608 ∧ (r ≤ 1048576 → t ≤ 1048576 ∧ ∀ s ∈ ss, s.size ≤ 1048576) := by
  have HSZ : Hid (∀ s ∈ ss, s.size ≤ maxLen) := hsz
  have HN : Hid (ss.length = n) := hn
  have HS : Hid (RS w a ss) := hs
  clear hsz hn hs
  go_enter Try.func24, Try.ntmps24
  go_wp2
  go_loop [0, 5] (fun v i => ∃ (k : Nat) (r : Int), k ≤ n ∧ i = .int .i64 k ∧ v = .int .i64 r ∧ 0 ≤ r ∧ r ≤ 8388608 ∧ t ≤ r ∧ Hid (∀ s ∈ ss.take k, s.size ≤ 1048576)) (fun _ i => n - (intOf i).toNat)
  case atStart => exact ⟨0, t, Nat.zero_le _, rfl, rfl, ht0, ht1, Int.le_refl _, by simp [Hid]⟩
  case round =>
    obtain ⟨k, r, hk, rfl, rfl, hr0, hr1, htr, HK⟩ := hrel
    by_cases hlt : k < n
    · obtain ⟨b, o, S, ha, HSS, hcx⟩ := HS.out.at k (by rw [HN.out]; exact hlt)
      have hSm : S.size ≤ 9223372036854775807 := by
        have := HSZ.out S (by rw [HSS]; simp [List.getD, show k < ss.length by rw [HN.out]; exact hlt])
        unfold maxLen at this; omega
      have HSS' : Hid (S = ss.getD k ByteArray.empty) := HSS
      clear HSS
      subst ha
      by_cases h1 : 1048576 < r
      · go_wp2
        go_ret
        exact ⟨_, rfl, rfl, by omega, by omega, by omega⟩
      · by_cases h2 : 1048576 < S.size
        · go_wp2
          go_ret
          exact ⟨_, rfl, rfl, by omega, by omega, by omega⟩
        · have d1 : decide (1048576 < r) = false := by simp; omega
          go_wp2
          go_round
          case rel =>
            refine ⟨k + 1, r + S.size, by omega, by go_num, rfl, by omega, by omega, by omega, ?_⟩
            intro s hs
            rw [List.take_succ_eq_append_getElem (by rw [HN.out]; exact hlt)] at hs
            rcases List.mem_append.1 hs with h | h
            · exact HK.out s h
            · simp at h
              have e : S = ss[k]'(by rw [HN.out]; exact hlt) := by rw [HSS'.out]; simp [List.getD, show k < ss.length by rw [HN.out]; exact hlt]
              rw [h, ← e]; omega
          case measure => simp [intOf]; omega
    · go_wp2
      go_ret
      refine ⟨_, rfl, rfl, hr0, hr1, fun h => ⟨by omega, ?_⟩⟩
      have := HK.out
      rwa [List.take_of_length_le (by rw [HN.out]; omega)] at this

/-- A bool comes back; where it is false, F holds. -/
def BoolIf (e : Ending) (F : Prop) : Prop := ∃ b : Bool, e = .returned (.bool b) ∧ (b = false → F)

/-! zzDocTooBig -/
set_option maxHeartbeats 1000000 in
theorem tooBig_any (id res : ByteArray) (a1 a2 a3 : Option Addr) (n1 n2 n3 c1 c2 c3 : Nat) (s1 s2 s3 : List ByteArray) (w : World) (hid : id.size ≤ maxLen) (hres : res.size ≤ maxLen)
    (h1 : s1.length = n1) (h2 : s2.length = n2) (h3 : s3.length = n3) (m1 : n1 ≤ maxLen) (m2 : n2 ≤ maxLen) (m3 : n3 ≤ maxLen) (r1 : RS w a1 s1) (r2 : RS w a2 s2) (r3 : RS w a3 s3)
    (z1 : ∀ s ∈ s1, s.size ≤ maxLen) (z2 : ∀ s ∈ s2, s.size ≤ maxLen) (z3 : ∀ s ∈ s3, s.size ≤ maxLen) :
    Calls Try.prog 15 #[.string id, .string res, .slice a1 n1 c1, .slice a2 n2 c2, .slice a3 n3 c3] w fun e w' => w = w' ∧
      BoolIf e (n2 ≤ 65536 ∧ id.size ≤ 1048576 ∧ res.size ≤ 1048576 ∧ (∀ s ∈ s2, s.size ≤ 1048576) ∧ ∀ s ∈ s3, s.size ≤ 1048576) := by
  unfold maxLen at hid hres m1 m2 m3
  by_cases hall : n1 ≤ 65536 ∧ n2 ≤ 65536 ∧ n3 ≤ 65536 ∧ id.size ≤ 1048576 ∧ res.size ≤ 1048576
  · obtain ⟨b1, b2, b3, b4, b5⟩ := hall
    have H1 : Hid (∀ t : Int, 0 ≤ t → t ≤ 8388608 → Calls Try.prog 24 #[.int .i64 t, .slice a1 n1 c1] w fun e w' => ∃ r : Int, e = .returned (.int .i64 r) ∧ w = w' ∧ 0 ≤ r ∧ r ≤ 8388608 ∧ (r ≤ 1048576 → t ≤ 1048576 ∧ ∀ s ∈ s1, s.size ≤ 1048576)) := fun t u v => addLens_any t a1 n1 c1 s1 w h1 b1 r1 u v z1
    have H2 : Hid (∀ t : Int, 0 ≤ t → t ≤ 8388608 → Calls Try.prog 24 #[.int .i64 t, .slice a2 n2 c2] w fun e w' => ∃ r : Int, e = .returned (.int .i64 r) ∧ w = w' ∧ 0 ≤ r ∧ r ≤ 8388608 ∧ (r ≤ 1048576 → t ≤ 1048576 ∧ ∀ s ∈ s2, s.size ≤ 1048576)) := fun t u v => addLens_any t a2 n2 c2 s2 w h2 b2 r2 u v z2
    have H3 : Hid (∀ t : Int, 0 ≤ t → t ≤ 8388608 → Calls Try.prog 24 #[.int .i64 t, .slice a3 n3 c3] w fun e w' => ∃ r : Int, e = .returned (.int .i64 r) ∧ w = w' ∧ 0 ≤ r ∧ r ≤ 8388608 ∧ (r ≤ 1048576 → t ≤ 1048576 ∧ ∀ s ∈ s3, s.size ≤ 1048576)) := fun t u v => addLens_any t a3 n3 c3 s3 w h3 b3 r3 u v z3
    clear h1 h2 h3 r1 r2 r3 z1 z2 z3
    go_enter Try.func15, Try.ntmps15
    go_wp2_with fail
    refine (H1.out _ (by omega) (by omega)).mono ?_
    rintro e w' ⟨q1, rfl, rfl, p1, p2, P1⟩
    have HP1 : Hid _ := P1
    clear P1
    go_wp2_with fail
    refine (H2.out q1 p1 p2).mono ?_
    rintro e w' ⟨q2, rfl, rfl, p3, p4, P2⟩
    have HP2 : Hid _ := P2
    clear P2
    go_wp2_with fail
    refine (H3.out q2 p3 p4).mono ?_
    rintro e w' ⟨q3, rfl, rfl, p5, p6, P3⟩
    have HP3 : Hid _ := P3
    clear P3
    go_wp2
    go_ret
    refine ⟨rfl, _, rfl, fun h => ?_⟩
    have hq3 : q3 ≤ 1048576 := by simpa using h
    have t3 := HP3.out hq3
    have t2 := HP2.out t3.1
    exact ⟨b2, b4, b5, t2.2, t3.2⟩
  · clear h1 h2 h3 r1 r2 r3 z1 z2 z3
    go_enter Try.func15, Try.ntmps15
    go_wp2_with fail
    all_goals (go_ret; exact ⟨rfl, _, rfl, fun h => by simp at h⟩)

end Go.Proofs.Qxb6601113a
