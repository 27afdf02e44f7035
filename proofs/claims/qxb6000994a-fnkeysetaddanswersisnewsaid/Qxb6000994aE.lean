/-
  The law on add: the walk.
-/
import Derived.Test.Qxb6000994aD
namespace Go.Proofs.Qxb6000994a
open Go.RowKit

theorem add_any (w : World) (base pb : Nat) (ks : List ByteArray) (s : ByteArray) (h : KSet w base pb ks) : Calls Try.prog 11 #[.pointer (some ⟨pb, 0, none⟩), .string s] w (AddPost w base pb ks s) := by
  obtain ⟨hp, hn, ⟨L, hL, hk, ht, hB⟩ | ⟨L, n, mb, hL, hB, hM, hne, hm⟩⟩ := h
  · by_cases hs : s ∈ ks
    · exact add_in w base pb ks L s hp hn hL hk ht hB hs
    · by_cases h8 : ks.length < 8
      · exact add_few w base pb ks L s hp hn hL h8 ht hB hs
      · exact add_turn w base pb ks L s hp hn hL (by omega) ht hB hs
  · exact add_big w base pb mb ks L n s hp hn hL hB hM hne hm

theorem zzadd_any (w : World) (base pb : Nat) (ks : List ByteArray) (s : ByteArray) (h : KSet w base pb ks) : Calls Try.prog 9 #[.pointer (some ⟨pb, 0, none⟩), .string s] w (AddPost w base pb ks s) := by
  have H := hid (add_any w base pb ks s h)
  clear h
  go_enter Try.func9, Try.ntmps9
  go_wp2_with fail
  refine Calls.mono H.out ?_
  rintro e w' ⟨rfl, hk, hb⟩
  go_wp2
  go_ret
  exact ⟨by simp, hk, hb⟩

set_option maxRecDepth 100000 in
set_option maxHeartbeats 4000000 in
open Classical in
theorem ks_walk (a : Option Addr) (n cap : Nat) (ss : List ByteArray) (w : World) (hl : ss.length = n) (hn : n ≤ maxLen) (hr : RS w a ss) (hk : ∀ s ∈ ss, s.size ≤ 9223372036854775807) :
    Calls Try.prog 3 #[.slice a n cap] w fun e w' => e = .returned (.bool true) ∧ Below w.heap.size w w' := by
  have HB := hid (bytes_any a n cap ss w hl hn hr hk)
  have L := hid hl
  have HR := hid hr
  have HN := hid hn
  clear hl hr hk hn
  go_enter Try.func3, Try.ntmps3
  go_wp2_with fail
  refine Calls.mono HB.out ?_
  rintro e w' ⟨rfl, b, rfl, hb⟩
  cases b with
  | false =>
    go_wp2_with fail
    go_ret
    exact ⟨rfl, Below.refl _ _⟩
  | true =>
    have HT := hid (tooBig_any a n cap ss w L.out HN.out HR.out (hb rfl))
    clear hb HB
    go_wp2_with fail
    refine Calls.mono HT.out ?_
    rintro e w' ⟨rfl, b, rfl, hb⟩
    cases b with
    | true =>
      clear hb
      go_wp2_with fail
      go_ret
      exact ⟨rfl, Below.refl _ _⟩
    | false =>
      have hn := hb rfl
      have HC := hid (clone_any a n cap ss w L.out hn HR.out)
      clear hb HT
      go_wp2_with fail
      refine Calls.mono HC.out ?_
      rintro e wK ⟨a', cap', rfl, hR, hbK⟩
      have HRK := hid hR
      have HBK := hid hbK
      clear hR hbK HC HR
      go_wp2_with fail
      refine Calls.mono (new_any wK) ?_
      rintro e wN ⟨pb, rfl, hKS, hbN⟩
      have HK0 := hid hKS
      have HBN := hid hbN
      clear hKS hbN
      go_wp2_with fail
      go_loopw [19] (fun iv wx => ∃ i : Nat, i ≤ n ∧ iv = .int .i64 i ∧ Hid (KSet wx wK.heap.size pb (firsts (ss.take i))) ∧ Below wK.heap.size wK wx) (fun iv _ => n - (intOf iv).toNat)
      case atStart => exact ⟨0, Nat.zero_le _, rfl, HK0.out, HBN.out⟩
      case round =>
        clear HK0
        obtain ⟨i, hi, rfl, HK, hbx⟩ := hrel
        by_cases hlt : i < n
        · have hil : i < ss.length := by rw [L.out]; exact hlt
          have ii : (i : Int) < (n : Int) := by omega
          obtain ⟨b, o, ha, hc⟩ := HRK.out i hil
          have ci := cell_later hbx hc
          obtain ⟨S, hS⟩ : ∃ S, S = ss[i] := ⟨_, rfl⟩
          rw [← hS] at ci
          have SE := hid hS
          have HA := hid (zzadd_any wr wK.heap.size pb (firsts (ss.take i)) S HK.out)
          have HAE := hid ha
          clear hc hS
          subst ha
          go_wp2_with fail
          refine Calls.mono HA.out ?_
          rintro e wA ⟨rfl, hKA, hbA⟩
          obtain ⟨got, hgot⟩ : ∃ got : Bool, got = decide (S ∉ firsts (ss.take i)) := ⟨_, rfl⟩
          rw [← hgot]
          have HG := hid hgot
          have HKA := hid hKA
          have bKA := hbx.trans hbA
          have HNX : Hid (KSet wA wK.heap.size pb (firsts (ss.take (i + 1)))) := by
            rw [List.take_succ_eq_append_getElem hil, firsts_snoc, ← SE.out]
            exact hKA
          clear hgot hKA HA HK hbA ci
          go_wp2
          go_loopw [7, 8] (fun wv jv wx => ∃ j : Nat, j ≤ i ∧ jv = .int .i64 j ∧ wv = .bool true ∧ wA = wx ∧ Hid (∀ t, t < j → ss[t]? ≠ some S)) (fun _ jv _ => i - (intOf jv).toNat)
          case atStart => exact ⟨0, Nat.zero_le _, rfl, rfl, rfl, fun t ht => by omega⟩
          case round =>
            obtain ⟨j, hj, rfl, rfl, rfl, HJ⟩ := hrel
            by_cases hjl : j < i
            · have hjs : j < ss.length := by omega
              have ij : (j : Int) < (i : Int) := by omega
              have inn : (j : Int) < (n : Int) := by omega
              obtain ⟨b', o', ha', hc'⟩ := HRK.out j hjs
              obtain ⟨rfl, rfl⟩ : b = b' ∧ o = o' := by simpa using ha'
              have cj := cell_later bKA hc'
              obtain ⟨T, hT⟩ : ∃ T, T = ss[j] := ⟨_, rfl⟩
              rw [← hT] at cj
              have TE := hid hT
              clear ha' hc' hT
              by_cases hTS : T = S
              · subst hTS
                have hg : got = false := by
                  rw [HG.out]
                  simp only [decide_eq_false_iff_not, not_not, firsts_mem]
                  rw [TE.out]
                  exact List.mem_iff_getElem?.2 ⟨j, by rw [List.getElem?_take, if_pos hjl]; exact List.getElem?_eq_getElem hjs⟩
                subst hg
                go_wp2
                go_roundw
                case rel => exact ⟨i + 1, hlt, by go_num, HNX.out, bKA⟩
                case measure => simp [intOf]; omega
              · have hTS' := beq_false hTS
                go_wp2
                go_roundw
                case rel => exact ⟨j + 1, hjl, by go_num, rfl, trivial, fun t ht => by
                  by_cases e : t = j
                  · rw [e, List.getElem?_eq_getElem hjs, ← TE.out]; intro e2; exact hTS (Option.some.inj e2)
                  · exact HJ.out t (by omega)⟩
                case measure => simp [intOf]; omega
            · have hg : got = true := by
                rw [HG.out]
                simp only [decide_eq_true_eq, firsts_mem]
                intro hm
                obtain ⟨t, ht⟩ := List.mem_iff_getElem?.1 hm
                rw [List.getElem?_take] at ht
                split at ht
                · exact HJ.out t (by omega) ht
                · cases ht
              subst hg
              have dj : decide ((j : Int) < (i : Int)) = false := by simp; omega
              go_wp2
              go_roundw
              case rel => exact ⟨i + 1, hlt, by go_num, HNX.out, bKA⟩
              case measure => simp [intOf]; omega
        · go_wp2
          go_ret
          exact ⟨rfl, HBK.out.trans (hbx.mono HBK.out.size)⟩

end Go.Proofs.Qxb6000994a
