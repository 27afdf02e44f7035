/-
  The plain functions of this seat: what appendString writes for a string's bytes, and its laws. Nothing of the program.
-/
namespace Go.Proofs.Qxb6601113a

/-- The bytes of a string as numbers. -/
def bts (s : ByteArray) : List Int := s.data.toList.map fun c => (c.toNat : Int)
def hexd (n : Int) : Int := if n < 10 then 48 + n else 87 + n
def must (c : Int) : Bool := c == 34 || c == 92 || decide (c < 32)
/-- The canonical escape of one byte. -/
def esc (c : Int) : List Int :=
  if c = 34 then [92, 34] else if c = 92 then [92, 92] else if c = 8 then [92, 98] else if c = 12 then [92, 102] else if c = 10 then [92, 110]
  else if c = 13 then [92, 114] else if c = 9 then [92, 116] else if c < 32 then [92, 117, 48, 48, hexd (c / 16), hexd (c % 16)] else [c]
def escs (l : List Int) : List Int := l.flatMap esc
def cleanB (l : List Int) : Bool := l.all fun c => !must c

theorem bts_length (s : ByteArray) : (bts s).length = s.size := by unfold bts; rw [List.length_map]; rfl
theorem bts_get (s : ByteArray) (k : Nat) (h : k < s.size) : (bts s)[k]'(by rw [bts_length]; exact h) = (s[k].toNat : Int) := by
  simp [bts]; rfl
theorem bts_getD (s : ByteArray) (k : Nat) (h : k < s.size) : (bts s).getD k 0 = (s[k].toNat : Int) := by
  rw [← bts_get s k h]; simp [List.getD, bts_length, h]
theorem bts_snoc (s : ByteArray) (k : Nat) (h : k < s.size) : (bts s).take (k + 1) = (bts s).take k ++ [(s[k].toNat : Int)] := by
  rw [List.take_succ_eq_append_getElem (by rw [bts_length]; exact h), bts_get s k h]
theorem bts_mem (s : ByteArray) : ∀ c ∈ bts s, 0 ≤ c ∧ c ≤ 255 := by
  intro c hc
  simp only [bts, List.mem_map] at hc
  obtain ⟨b, _, rfl⟩ := hc
  have := b.toNat_lt
  omega

theorem escs_snoc (l : List Int) (c : Int) : escs (l ++ [c]) = escs l ++ esc c := by simp [escs, List.flatMap_append]
theorem escs_cons (l : List Int) (c : Int) : escs (c :: l) = esc c ++ escs l := by simp [escs]

theorem esc_len (c : Int) : 1 ≤ (esc c).length ∧ (esc c).length ≤ 6 := by
  unfold esc
  repeat (split; · simp)
  simp
theorem esc_must (c : Int) (h : must c = true) : 2 ≤ (esc c).length := by
  simp [must] at h
  unfold esc
  repeat (split; · simp)
  omega
theorem esc_clean (c : Int) (h : must c = false) : esc c = [c] := by
  simp [must] at h
  unfold esc
  repeat rw [if_neg (by omega)]
theorem esc_low (c : Int) (h1 : c ≠ 34) (h2 : c ≠ 92) (h3 : c ≠ 8) (h4 : c ≠ 12) (h5 : c ≠ 10) (h6 : c ≠ 13) (h7 : c ≠ 9) (h : c < 32) : esc c = [92, 117, 48, 48, hexd (c / 16), hexd (c % 16)] := by
  unfold esc
  rw [if_neg h1, if_neg h2, if_neg h3, if_neg h4, if_neg h5, if_neg h6, if_neg h7, if_pos h]
theorem escs_len (l : List Int) : l.length ≤ (escs l).length ∧ (escs l).length ≤ 6 * l.length := by
  induction l with
  | nil => simp [escs]
  | cons c l ih => have := esc_len c; rw [escs_cons]; simp; omega
theorem escs_clean (l : List Int) (h : cleanB l = true) : escs l = l := by
  induction l with
  | nil => simp [escs]
  | cons c l ih =>
    simp [cleanB] at h
    rw [escs_cons, esc_clean c h.1, ih (by simp [cleanB]; exact h.2)]; rfl
theorem escs_foul (l : List Int) (h : cleanB l = false) : l.length < (escs l).length := by
  induction l with
  | nil => simp [cleanB] at h
  | cons c l ih =>
    rw [escs_cons]
    by_cases hc : must c = true
    · have := esc_must c hc; have := escs_len l; simp; omega
    · have hl : cleanB l = false := by
        simp only [cleanB, List.all_cons, Bool.and_eq_false_iff] at h ⊢
        rcases h with h | h
        · simp at h; exact absurd h hc
        · exact h
      have := ih hl; have := esc_len c; simp; omega
theorem cleanB_snoc (l : List Int) (c : Int) : cleanB (l ++ [c]) = (cleanB l && !must c) := by simp [cleanB]


end Go.Proofs.Qxb6601113a
