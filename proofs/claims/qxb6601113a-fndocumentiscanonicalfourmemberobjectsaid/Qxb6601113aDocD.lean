import Derived.Test.Qxb6601113aDocC
namespace Go.Proofs.Qxb6601113a
open Go.RowKit

/-! what Document writes -/
def kInc : ByteArray := { data := #[105, 110, 99] }
def kRes : ByteArray := { data := #[114, 101, 115, 111, 108, 118, 101, 114] }
def kAut : ByteArray := { data := #[97, 117, 116, 104, 111, 114, 105, 116, 121] }
def kDes : ByteArray := { data := #[100, 101, 115, 99, 114, 105, 112, 116, 105, 111, 110] }
def quoted (s : ByteArray) : List Int := 34 :: escs (bts s) ++ [34]
def memb (k v : ByteArray) : List Int := quoted k ++ 58 :: quoted v

def docP (id res au de : ByteArray) : Nat → List Int
  | 0 => [123]
  | 1 => [123] ++ memb kInc id
  | 2 => [123] ++ memb kInc id ++ [44] ++ memb kRes res
  | 3 => [123] ++ memb kInc id ++ [44] ++ memb kRes res ++ [44] ++ memb kAut au
  | _ => [123] ++ memb kInc id ++ [44] ++ memb kRes res ++ [44] ++ memb kAut au ++ [44] ++ memb kDes de

theorem quoted_len (s : ByteArray) (h : s.size ≤ 1048576) : (quoted s).length ≤ 6291458 := by
  have := (escs_len (bts s)).2
  rw [bts_length] at this
  simp [quoted]; omega
theorem memb_len (k v : ByteArray) (h : k.size ≤ 1048576) (h' : v.size ≤ 1048576) : (memb k v).length ≤ 12582917 := by
  have := quoted_len k h
  have := quoted_len v h'
  simp [memb]; omega
theorem docP_len (id res au de : ByteArray) (s1 : id.size ≤ 1048576) (s2 : res.size ≤ 1048576) (s3 : au.size ≤ 1048576) (s4 : de.size ≤ 1048576) (j : Nat) : (docP id res au de j).length ≤ 67108864 := by
  have h1 := memb_len kInc id (by decide) s1
  have h2 := memb_len kRes res (by decide) s2
  have h3 := memb_len kAut au (by decide) s3
  have h4 := memb_len kDes de (by decide) s4
  unfold docP
  split <;> simp <;> omega

theorem bts_strOfNums (xs : List Int) (h : ∀ x ∈ xs, 0 ≤ x ∧ x ≤ 255) : bts (strOfNums xs) = xs := by
  unfold bts
  rw [strOfNums_data, List.map_map]
  conv => rhs; rw [← List.map_id xs]
  apply List.map_congr_left
  intro x hx
  have := h x hx
  simp only [Function.comp_apply, id_eq]
  rw [UInt8.toNat_ofNat']
  omega
theorem hexd_range (n : Int) (h0 : 0 ≤ n) (h1 : n < 16) : 0 ≤ hexd n ∧ hexd n ≤ 255 := by unfold hexd; split <;> omega
theorem esc_range (c : Int) (h : 0 ≤ c ∧ c ≤ 255) : ∀ x ∈ esc c, 0 ≤ x ∧ x ≤ 255 := by
  have hh := hexd_range (c / 16) (by omega) (by omega)
  have hl := hexd_range (c % 16) (by omega) (by omega)
  unfold esc
  repeat (split; · simp; try omega)
  simp; omega
theorem escs_range (l : List Int) (h : ∀ c ∈ l, 0 ≤ c ∧ c ≤ 255) : ∀ x ∈ escs l, 0 ≤ x ∧ x ≤ 255 := by
  intro x hx
  simp only [escs, List.mem_flatMap] at hx
  obtain ⟨c, hc, hx⟩ := hx
  exact esc_range c (h c hc) x hx
theorem quoted_range (s : ByteArray) : ∀ x ∈ quoted s, 0 ≤ x ∧ x ≤ 255 := by
  intro x hx
  simp only [quoted, List.cons_append, List.mem_cons, List.mem_append, List.not_mem_nil, or_false] at hx
  rcases hx with rfl | hx | rfl
  · omega
  · exact escs_range _ (bts_mem s) x hx
  · omega
theorem memb_range (k v : ByteArray) : ∀ x ∈ memb k v, 0 ≤ x ∧ x ≤ 255 := by
  intro x hx
  simp only [memb, List.mem_append, List.mem_cons] at hx
  rcases hx with hx | rfl | hx
  · exact quoted_range k x hx
  · omega
  · exact quoted_range v x hx
theorem docP_range (id res au de : ByteArray) : ∀ x ∈ docP id res au de 4 ++ [125], 0 ≤ x ∧ x ≤ 255 := by
  intro x hx
  simp only [docP, List.mem_append, List.mem_cons, List.not_mem_nil, or_false] at hx
  rcases hx with (((((((rfl | hx) | rfl) | hx) | rfl) | hx) | rfl) | hx) | rfl <;> first | omega | exact memb_range _ _ x hx

theorem idx0 (x0 x1 x2 x3 x4 x5 x6 x7 : ByteArray) (w : World) : (Instr.index 47 (.agg #[.string x0, .string x1, .string x2, .string x3, .string x4, .string x5, .string x6, .string x7]) (.int .i64 0)).run Try.prog w = .ok (.agg #[.string x0, .string x1]) w := by kernel_rfl
theorem idx1 (x0 x1 x2 x3 x4 x5 x6 x7 : ByteArray) (w : World) : (Instr.index 47 (.agg #[.string x0, .string x1, .string x2, .string x3, .string x4, .string x5, .string x6, .string x7]) (.int .i64 1)).run Try.prog w = .ok (.agg #[.string x2, .string x3]) w := by kernel_rfl
theorem idx2 (x0 x1 x2 x3 x4 x5 x6 x7 : ByteArray) (w : World) : (Instr.index 47 (.agg #[.string x0, .string x1, .string x2, .string x3, .string x4, .string x5, .string x6, .string x7]) (.int .i64 2)).run Try.prog w = .ok (.agg #[.string x4, .string x5]) w := by kernel_rfl
theorem idx3 (x0 x1 x2 x3 x4 x5 x6 x7 : ByteArray) (w : World) : (Instr.index 47 (.agg #[.string x0, .string x1, .string x2, .string x3, .string x4, .string x5, .string x6, .string x7]) (.int .i64 3)).run Try.prog w = .ok (.agg #[.string x6, .string x7]) w := by kernel_rfl
theorem bld47 (x0 x1 x2 x3 x4 x5 x6 x7 : ByteArray) (w : World) : (Instr.build 47 #[(0, .agg #[.string x0, .string x1]), (1, .agg #[.string x2, .string x3]), (2, .agg #[.string x4, .string x5]), (3, .agg #[.string x6, .string x7])]).run Try.prog w = .ok (.agg #[.string x0, .string x1, .string x2, .string x3, .string x4, .string x5, .string x6, .string x7]) w := by kernel_rfl

theorem Keeps.cells {w w' : World} {v v' : Value} (h : Keeps w w' v v') {M : Nat} (hM : v.ownBlock ≠ some M) (hl : M < w.heap.size) : (∀ o, w'.cell? ⟨M, o, none⟩ = w.cell? ⟨M, o, none⟩) ∧ v'.ownBlock ≠ some M :=
  ⟨fun _ => World.cell?_of_block (h.1 M hl hM), fun e => hM (h.2 M e hl)⟩

/-- The walk's append with the length kept under a name. -/
theorem wpList_appN {ops : Array Oper} {rest : List Oper} {o : Oper} {a : Act} {Q : Exit → Act → World → Prop} (w : World) (hgd : o.guard = none) (s x : Operand)
    (ho : o.op = .call { callee := .builtin .append, args := #[s, x], argTypes := #[22, 22] })
    (base : Nat) (v : Value) (ys : List Int) (hs : a.eval s = v) (hown : OB w base v ys) (m : Nat) (news : List Int) (hx : a.eval x = .slice (some ⟨w.heap.size, 0, none⟩) m m) (hl : news.length = m) (hm : 0 < m)
    (hlen : ys.length + m ≤ 2147483648) (hbase : base ≤ w.heap.size)
    (h : ∀ g N cap w', OB w' base (.slice (some ⟨g, 0, none⟩) N cap) (ys ++ news) → Below base w w' → Keeps w w' v (.slice (some ⟨g, 0, none⟩) N cap) → wpList Try.prog ops Q rest (a.put o.dst (.slice (some ⟨g, 0, none⟩) N cap)) w') :
    wpList Try.prog ops Q (o :: rest) a (w.alloc (.cells (news.map (Value.int .u8)).toArray 5)) :=
  wpList_appK w hgd s x ho base v ys hs hown.into m news hx hl hm hlen hbase fun g cap w' => h g _ cap w'

theorem app_n (v : Value) (xs : List Int) (s : ByteArray) (base : Nat) (w : World) (hs : s.size ≤ 1048576) (hx : xs.length ≤ 1073741824) (hin : OB w base v xs) (hb : base ≤ w.heap.size) :
    Calls Try.prog 22 #[v, .string s] w fun e w' => ∃ g N cap, e = .returned (.slice (some ⟨g, 0, none⟩) N cap) ∧ OB w' base (.slice (some ⟨g, 0, none⟩) N cap) (xs ++ quoted s) ∧ Below base w w' ∧ Keeps w w' v (.slice (some ⟨g, 0, none⟩) N cap) := by
  refine (app_keeps v xs s base w hs hx hin.into hb).mono ?_
  rintro e w' ⟨g, cap, rfl, ho, hbel, hk⟩
  exact ⟨g, _, cap, rfl, by simpa [quoted] using ho, hbel, hk⟩

set_option maxRecDepth 100000 in
set_option maxHeartbeats 2000000 in
theorem document_any (gi gt n i : Nat) (id res au de : ByteArray) (w : World) (hi : i < n) (_hn : n ≤ 65536) (s1 : id.size ≤ 1048576) (s2 : res.size ≤ 1048576) (s3 : au.size ≤ 1048576) (s4 : de.size ≤ 1048576)
    (c0 : w.cell? ⟨gi, 0, none⟩ = some (.string id)) (c1 : w.cell? ⟨gi, 1, none⟩ = some (.string res)) (c2 : w.cell? ⟨gi, 2, none⟩ = some (.slice (some ⟨gt, 0, none⟩) n n))
    (c3 : w.cell? ⟨gt, i * 3 + 1, none⟩ = some (.string au)) (c4 : w.cell? ⟨gt, i * 3 + 2, none⟩ = some (.string de)) :
    Calls Try.prog 17 #[.pointer (some ⟨gi, 0, none⟩), .int .i64 (i : Int)] w fun e w' => ∃ S, e = .returned (.string S) ∧ Below w.heap.size w w' ∧ 
      bts S = 123 :: memb kInc id ++ 44 :: memb kRes res ++ 44 :: memb kAut au ++ 44 :: memb kDes de ++ [125] := by
  have lg : gi < w.heap.size := World.block_lt_of_cell? _ _ c0
  have lt : gt < w.heap.size := World.block_lt_of_cell? _ _ c3
  have i0 := idx0
  have i1 := idx1
  have i2 := idx2
  have i3 := idx3
  have ib := bld47
  go_enter Try.func17, Try.ntmps17
  go_wp2
  go_quiet (fail)
  go_wp2
  have hb0 : Below w.heap.size w ((w.alloc (.cells #[.int .u8 123] 5)).drewN nq) := below_drewN ((Below.refl _ _).alloc (Nat.le_refl _) _) nq
  have ho0 : OB ((w.alloc (.cells #[.int .u8 123] 5)).drewN nq) w.heap.size (.slice (some ⟨w.heap.size, 0, none⟩) 1 1) [123] := World.ownsRow_lit w #[.int .u8 123] 1 (Nat.le_refl _) (by unfold maxLen; omega) rfl
  go_loopw [6, 37] (fun v i wr => ∃ j : Nat, j ≤ 4 ∧ i = .int .i64 j ∧ OB wr w.heap.size v (docP id res au de j) ∧ Below w.heap.size w wr) (fun _ i _ => 4 - (intOf i).toNat)
  case atStart => exact ⟨0, by omega, rfl, ho0, hb0⟩
  case round =>
    obtain ⟨j, hj, rfl, ho, hbr⟩ := hrel
    clear ho0 hb0 c0 c1 c2 c3 c4 lg lt
    have hbw : w.heap.size ≤ wr.heap.size := hbr.size
    have hl := docP_len id res au de s1 s2 s3 s4 j
    have hM : u6.ownBlock ≠ some wr.heap.size := fun e => by have := (World.ownsRow.lt ho _ e).2; omega
    obtain ⟨ys, hys⟩ : ∃ ys, ys = docP id res au de j := ⟨_, rfl⟩
    rw [← hys] at ho hl
    have HY : Hid (ys = docP id res au de j) := hys
    clear hys
    rcases (show j = 0 ∨ j = 1 ∨ j = 2 ∨ j = 3 ∨ j = 4 by omega) with rfl | rfl | rfl | rfl | rfl
    · have lM : wr.heap.size < (wr.alloc (.cells #[.string kInc, .string id] 46)).heap.size := by simp
      have m0 : (wr.alloc (.cells #[.string kInc, .string id] 46)).cell? ⟨wr.heap.size, 0, none⟩ = some (.string kInc) := by simp
      have m1 : (wr.alloc (.cells #[.string kInc, .string id] 46)).cell? ⟨wr.heap.size, 1, none⟩ = some (.string id) := by simp
      have hbA : Below w.heap.size w (wr.alloc (.cells #[.string kInc, .string id] 46)) := hbr.alloc hbw _
      have hoA : OB (wr.alloc (.cells #[.string kInc, .string id] 46)) w.heap.size u6 ys := World.ownsRow.alloc ho _
      have q1 := quoted_len kInc (by decide)
      have q2 := quoted_len id s1
      clear ho hbr
      go_wp2_with fail
      refine (app_n u6 ys kInc w.heap.size _ (by decide) (by omega) hoA (by simp; omega)).mono ?_
      rintro e w2 ⟨g2, N2, cap2, rfl, ho2, hb2, hk2⟩
      obtain ⟨e2, hM2⟩ := hk2.cells hM lM
      have lM2 : wr.heap.size < w2.heap.size := Nat.lt_of_lt_of_le lM hb2.size
      have E2 : Hid (∀ o, w2.cell? ⟨wr.heap.size, o, none⟩ = (wr.alloc (.cells #[.string kInc, .string id] 46)).cell? ⟨wr.heap.size, o, none⟩) := e2
      clear e2 hk2 hM
      go_wp2_with (at_builtin; refine wpList_appN w2 rfl _ _ rfl w.heap.size (.slice (some ⟨g2, 0, none⟩) N2 cap2) (ys ++ quoted kInc) rfl (by simpa using ho2) 1 [58] rfl rfl (by decide) (by simp; omega) (by omega) ?_)
      intro g3 N3 cap3 w3 ho3 hb3 hk3
      obtain ⟨e3, hM3⟩ := hk3.cells hM2 lM2
      have n1 : w3.cell? ⟨wr.heap.size, 1, none⟩ = some (.string id) := ((e3 1).trans (E2.out 1)).trans m1
      have lM3 : wr.heap.size < w3.heap.size := Nat.lt_of_lt_of_le lM2 hb3.size
      clear e3 hk3 E2 m0 m1 hoA
      go_wp2_with fail
      refine (app_n _ (ys ++ quoted kInc ++ [58]) id w.heap.size w3 s1 (by simp; omega) (by simpa using ho3) (by omega)).mono ?_
      rintro e w4 ⟨g4, N4, cap4, rfl, ho4, hb4, hk4⟩
      have R1 : OB w4 w.heap.size (.slice (some ⟨g4, 0, none⟩) N4 cap4) (docP id res au de 1) := by
        rw [HY.out] at ho4
        simpa [docP, memb] using ho4
      have R2 : Below w.heap.size w w4 := ((hbA.trans hb2).trans hb3).trans hb4
      clear ho2 ho3 ho4 hb2 hb3 hb4 hk4 hbA n1 i0 i1 i2 i3 ib hM2 hM3
      go_wp2
      go_roundw
      case rel => exact ⟨1, by omega, by go_num, R1, R2⟩
      case measure => simp [intOf]
    · have lM : wr.heap.size < (wr.alloc (.cells #[.string kRes, .string res] 46)).heap.size := by simp
      have m0 : (wr.alloc (.cells #[.string kRes, .string res] 46)).cell? ⟨wr.heap.size, 0, none⟩ = some (.string kRes) := by simp
      have m1 : (wr.alloc (.cells #[.string kRes, .string res] 46)).cell? ⟨wr.heap.size, 1, none⟩ = some (.string res) := by simp
      have hbA : Below w.heap.size w (wr.alloc (.cells #[.string kRes, .string res] 46)) := hbr.alloc hbw _
      have hoA : OB (wr.alloc (.cells #[.string kRes, .string res] 46)) w.heap.size u6 ys := World.ownsRow.alloc ho _
      have q1 := quoted_len kRes (by decide)
      have q2 := quoted_len res s2
      clear ho hbr
      go_wp2_with (at_builtin; refine wpList_appN (wr.alloc (.cells #[.string kRes, .string res] 46)) rfl _ _ rfl w.heap.size u6 ys rfl hoA 1 [44] (by simp [Act.eval]) rfl (by decide) (by omega) (by simp; omega) ?_)
      intro g1 N1 cap1 w1 ho1 hb1 hk1
      obtain ⟨e1, hM1⟩ := hk1.cells hM lM
      have n0 : w1.cell? ⟨wr.heap.size, 0, none⟩ = some (.string kRes) := (e1 0).trans m0
      have lM1 : wr.heap.size < w1.heap.size := Nat.lt_of_lt_of_le lM hb1.size
      clear hk1
      have E1 : Hid (∀ o, w1.cell? ⟨wr.heap.size, o, none⟩ = (wr.alloc (.cells #[.string kRes, .string res] 46)).cell? ⟨wr.heap.size, o, none⟩) := e1
      clear e1
      go_wp2_with fail
      refine (app_n _ (ys ++ [44]) kRes w.heap.size w1 (by decide) (by simp; omega) (by simpa using ho1) (by omega)).mono ?_
      rintro e w2 ⟨g2, N2, cap2, rfl, ho2, hb2', hk2⟩
      have hb2 := hb1.trans hb2'
      obtain ⟨e2', hM2⟩ := hk2.cells hM1 lM1
      have e2 : ∀ o, w2.cell? ⟨wr.heap.size, o, none⟩ = (wr.alloc (.cells #[.string kRes, .string res] 46)).cell? ⟨wr.heap.size, o, none⟩ := fun o => (e2' o).trans (E1.out o)
      clear n0 e2' hb2' ho1
      have lM2 : wr.heap.size < w2.heap.size := Nat.lt_of_lt_of_le lM hb2.size
      have E2 : Hid (∀ o, w2.cell? ⟨wr.heap.size, o, none⟩ = (wr.alloc (.cells #[.string kRes, .string res] 46)).cell? ⟨wr.heap.size, o, none⟩) := e2
      clear e2 hk2 hM
      go_wp2_with (at_builtin; refine wpList_appN w2 rfl _ _ rfl w.heap.size (.slice (some ⟨g2, 0, none⟩) N2 cap2) (ys ++ [44] ++ quoted kRes) rfl (by simpa using ho2) 1 [58] rfl rfl (by decide) (by simp; omega) (by omega) ?_)
      intro g3 N3 cap3 w3 ho3 hb3 hk3
      obtain ⟨e3, hM3⟩ := hk3.cells hM2 lM2
      have n1 : w3.cell? ⟨wr.heap.size, 1, none⟩ = some (.string res) := ((e3 1).trans (E2.out 1)).trans m1
      have lM3 : wr.heap.size < w3.heap.size := Nat.lt_of_lt_of_le lM2 hb3.size
      clear e3 hk3 E2 m0 m1 hoA
      go_wp2_with fail
      refine (app_n _ (ys ++ [44] ++ quoted kRes ++ [58]) res w.heap.size w3 s2 (by simp; omega) (by simpa using ho3) (by omega)).mono ?_
      rintro e w4 ⟨g4, N4, cap4, rfl, ho4, hb4, hk4⟩
      have R1 : OB w4 w.heap.size (.slice (some ⟨g4, 0, none⟩) N4 cap4) (docP id res au de 2) := by
        rw [HY.out] at ho4
        simpa [docP, memb] using ho4
      have R2 : Below w.heap.size w w4 := ((hbA.trans hb2).trans hb3).trans hb4
      clear ho2 ho3 ho4 hb2 hb3 hb4 hk4 hbA n1 i0 i1 i2 i3 ib hM2 hM3
      go_wp2
      go_roundw
      case rel => exact ⟨2, by omega, by go_num, R1, R2⟩
      case measure => simp [intOf]
    · have lM : wr.heap.size < (wr.alloc (.cells #[.string kAut, .string au] 46)).heap.size := by simp
      have m0 : (wr.alloc (.cells #[.string kAut, .string au] 46)).cell? ⟨wr.heap.size, 0, none⟩ = some (.string kAut) := by simp
      have m1 : (wr.alloc (.cells #[.string kAut, .string au] 46)).cell? ⟨wr.heap.size, 1, none⟩ = some (.string au) := by simp
      have hbA : Below w.heap.size w (wr.alloc (.cells #[.string kAut, .string au] 46)) := hbr.alloc hbw _
      have hoA : OB (wr.alloc (.cells #[.string kAut, .string au] 46)) w.heap.size u6 ys := World.ownsRow.alloc ho _
      have q1 := quoted_len kAut (by decide)
      have q2 := quoted_len au s3
      clear ho hbr
      go_wp2_with (at_builtin; refine wpList_appN (wr.alloc (.cells #[.string kAut, .string au] 46)) rfl _ _ rfl w.heap.size u6 ys rfl hoA 1 [44] (by simp [Act.eval]) rfl (by decide) (by omega) (by simp; omega) ?_)
      intro g1 N1 cap1 w1 ho1 hb1 hk1
      obtain ⟨e1, hM1⟩ := hk1.cells hM lM
      have n0 : w1.cell? ⟨wr.heap.size, 0, none⟩ = some (.string kAut) := (e1 0).trans m0
      have lM1 : wr.heap.size < w1.heap.size := Nat.lt_of_lt_of_le lM hb1.size
      clear hk1
      have E1 : Hid (∀ o, w1.cell? ⟨wr.heap.size, o, none⟩ = (wr.alloc (.cells #[.string kAut, .string au] 46)).cell? ⟨wr.heap.size, o, none⟩) := e1
      clear e1
      go_wp2_with fail
      refine (app_n _ (ys ++ [44]) kAut w.heap.size w1 (by decide) (by simp; omega) (by simpa using ho1) (by omega)).mono ?_
      rintro e w2 ⟨g2, N2, cap2, rfl, ho2, hb2', hk2⟩
      have hb2 := hb1.trans hb2'
      obtain ⟨e2', hM2⟩ := hk2.cells hM1 lM1
      have e2 : ∀ o, w2.cell? ⟨wr.heap.size, o, none⟩ = (wr.alloc (.cells #[.string kAut, .string au] 46)).cell? ⟨wr.heap.size, o, none⟩ := fun o => (e2' o).trans (E1.out o)
      clear n0 e2' hb2' ho1
      have lM2 : wr.heap.size < w2.heap.size := Nat.lt_of_lt_of_le lM hb2.size
      have E2 : Hid (∀ o, w2.cell? ⟨wr.heap.size, o, none⟩ = (wr.alloc (.cells #[.string kAut, .string au] 46)).cell? ⟨wr.heap.size, o, none⟩) := e2
      clear e2 hk2 hM
      go_wp2_with (at_builtin; refine wpList_appN w2 rfl _ _ rfl w.heap.size (.slice (some ⟨g2, 0, none⟩) N2 cap2) (ys ++ [44] ++ quoted kAut) rfl (by simpa using ho2) 1 [58] rfl rfl (by decide) (by simp; omega) (by omega) ?_)
      intro g3 N3 cap3 w3 ho3 hb3 hk3
      obtain ⟨e3, hM3⟩ := hk3.cells hM2 lM2
      have n1 : w3.cell? ⟨wr.heap.size, 1, none⟩ = some (.string au) := ((e3 1).trans (E2.out 1)).trans m1
      have lM3 : wr.heap.size < w3.heap.size := Nat.lt_of_lt_of_le lM2 hb3.size
      clear e3 hk3 E2 m0 m1 hoA
      go_wp2_with fail
      refine (app_n _ (ys ++ [44] ++ quoted kAut ++ [58]) au w.heap.size w3 s3 (by simp; omega) (by simpa using ho3) (by omega)).mono ?_
      rintro e w4 ⟨g4, N4, cap4, rfl, ho4, hb4, hk4⟩
      have R1 : OB w4 w.heap.size (.slice (some ⟨g4, 0, none⟩) N4 cap4) (docP id res au de 3) := by
        rw [HY.out] at ho4
        simpa [docP, memb] using ho4
      have R2 : Below w.heap.size w w4 := ((hbA.trans hb2).trans hb3).trans hb4
      clear ho2 ho3 ho4 hb2 hb3 hb4 hk4 hbA n1 i0 i1 i2 i3 ib hM2 hM3
      go_wp2
      go_roundw
      case rel => exact ⟨3, by omega, by go_num, R1, R2⟩
      case measure => simp [intOf]
    · have lM : wr.heap.size < (wr.alloc (.cells #[.string kDes, .string de] 46)).heap.size := by simp
      have m0 : (wr.alloc (.cells #[.string kDes, .string de] 46)).cell? ⟨wr.heap.size, 0, none⟩ = some (.string kDes) := by simp
      have m1 : (wr.alloc (.cells #[.string kDes, .string de] 46)).cell? ⟨wr.heap.size, 1, none⟩ = some (.string de) := by simp
      have hbA : Below w.heap.size w (wr.alloc (.cells #[.string kDes, .string de] 46)) := hbr.alloc hbw _
      have hoA : OB (wr.alloc (.cells #[.string kDes, .string de] 46)) w.heap.size u6 ys := World.ownsRow.alloc ho _
      have q1 := quoted_len kDes (by decide)
      have q2 := quoted_len de s4
      clear ho hbr
      go_wp2_with (at_builtin; refine wpList_appN (wr.alloc (.cells #[.string kDes, .string de] 46)) rfl _ _ rfl w.heap.size u6 ys rfl hoA 1 [44] (by simp [Act.eval]) rfl (by decide) (by omega) (by simp; omega) ?_)
      intro g1 N1 cap1 w1 ho1 hb1 hk1
      obtain ⟨e1, hM1⟩ := hk1.cells hM lM
      have n0 : w1.cell? ⟨wr.heap.size, 0, none⟩ = some (.string kDes) := (e1 0).trans m0
      have lM1 : wr.heap.size < w1.heap.size := Nat.lt_of_lt_of_le lM hb1.size
      clear hk1
      have E1 : Hid (∀ o, w1.cell? ⟨wr.heap.size, o, none⟩ = (wr.alloc (.cells #[.string kDes, .string de] 46)).cell? ⟨wr.heap.size, o, none⟩) := e1
      clear e1
      go_wp2_with fail
      refine (app_n _ (ys ++ [44]) kDes w.heap.size w1 (by decide) (by simp; omega) (by simpa using ho1) (by omega)).mono ?_
      rintro e w2 ⟨g2, N2, cap2, rfl, ho2, hb2', hk2⟩
      have hb2 := hb1.trans hb2'
      obtain ⟨e2', hM2⟩ := hk2.cells hM1 lM1
      have e2 : ∀ o, w2.cell? ⟨wr.heap.size, o, none⟩ = (wr.alloc (.cells #[.string kDes, .string de] 46)).cell? ⟨wr.heap.size, o, none⟩ := fun o => (e2' o).trans (E1.out o)
      clear n0 e2' hb2' ho1
      have lM2 : wr.heap.size < w2.heap.size := Nat.lt_of_lt_of_le lM hb2.size
      have E2 : Hid (∀ o, w2.cell? ⟨wr.heap.size, o, none⟩ = (wr.alloc (.cells #[.string kDes, .string de] 46)).cell? ⟨wr.heap.size, o, none⟩) := e2
      clear e2 hk2 hM
      go_wp2_with (at_builtin; refine wpList_appN w2 rfl _ _ rfl w.heap.size (.slice (some ⟨g2, 0, none⟩) N2 cap2) (ys ++ [44] ++ quoted kDes) rfl (by simpa using ho2) 1 [58] rfl rfl (by decide) (by simp; omega) (by omega) ?_)
      intro g3 N3 cap3 w3 ho3 hb3 hk3
      obtain ⟨e3, hM3⟩ := hk3.cells hM2 lM2
      have n1 : w3.cell? ⟨wr.heap.size, 1, none⟩ = some (.string de) := ((e3 1).trans (E2.out 1)).trans m1
      have lM3 : wr.heap.size < w3.heap.size := Nat.lt_of_lt_of_le lM2 hb3.size
      clear e3 hk3 E2 m0 m1 hoA
      go_wp2_with fail
      refine (app_n _ (ys ++ [44] ++ quoted kDes ++ [58]) de w.heap.size w3 s4 (by simp; omega) (by simpa using ho3) (by omega)).mono ?_
      rintro e w4 ⟨g4, N4, cap4, rfl, ho4, hb4, hk4⟩
      have R1 : OB w4 w.heap.size (.slice (some ⟨g4, 0, none⟩) N4 cap4) (docP id res au de 4) := by
        rw [HY.out] at ho4
        simpa [docP, memb] using ho4
      have R2 : Below w.heap.size w w4 := ((hbA.trans hb2).trans hb3).trans hb4
      clear ho2 ho3 ho4 hb2 hb3 hb4 hk4 hbA n1 i0 i1 i2 i3 ib hM2 hM3
      go_wp2
      go_roundw
      case rel => exact ⟨4, by omega, by go_num, R1, R2⟩
      case measure => simp [intOf]
    · go_wp2_with (at_builtin; refine wpList_appN wr rfl _ _ rfl w.heap.size u6 ys rfl ho 1 [125] rfl rfl (by decide) (by omega) hbw ?_)
      intro g1 N1 cap1 w1 ho1 hb1 hk1
      have hN : N1 = ys.length + 1 := by
        rcases ho1.2 with ⟨h, _⟩ | ⟨g', cap', cur, h, _⟩
        · simp at h
        · simp at h; omega
      have hcv := run_convert_bytes_arg (P := Try.prog) w1 22 5 Try.underlying22 Try.underlying5 g1 0 N1 cap1 (ys ++ [125]) (by simp; omega) (fun i hi => by
        rw [Nat.zero_add]
        subst hN
        exact OB.cell (by simpa using ho1) i (by simpa using hi)) 9 Try.underlying9
      have HN : Hid (N1 = ys.length + 1) := hN
      clear hN hk1
      go_wp2
      go_ret
      refine ⟨_, rfl, hbr.trans hb1, ?_⟩
      rw [HY.out, bts_strOfNums _ (docP_range id res au de)]
      simp [docP]
end Go.Proofs.Qxb6601113a
