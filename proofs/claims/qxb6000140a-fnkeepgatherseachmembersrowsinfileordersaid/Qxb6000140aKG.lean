/-
  (*Work).keep.
-/
import Derived.Test.Qxb6000140aKF
import Derived.Deep.CutRange
namespace Go.Proofs.Qxb6000140a
open Go.RowKit
attribute [local go_sem] cell_grow frozen_grow pureIn pureUpon loud loudUpon

theorem firsts_len (l : List ByteArray) : (firsts l).length ≤ l.length := by
  have key : ∀ (l N : List ByteArray), (l.foldl addName N).length ≤ N.length + l.length := by
    intro l
    induction l with
    | nil => intro N; simp
    | cons s l ih =>
      intro N
      have := ih (addName N s)
      have := addName_len N s
      simp only [List.foldl_cons, List.length_cons]
      omega
  simpa [firsts] using key l []

theorem below_drew {B : Nat} {w w' : World} (h : Below B w w') : Below B w w'.drew := ⟨h.os, h.tape, h.output, h.size, h.block⟩

theorem zero3 (w : World) : (zeroValue 3).run Try.prog w = .ok (.int .i64 0) w := by kernel_rfl

/-- The part p lies at pp: its rows at rb, its rates, its runs; all of role 0. -/
structure PartIs (w : World) (role : Nat → Nat) (pp rb : Nat) (tv : Value) (ua : Option Addr) (uc : Nat) (p : KP) : Prop where
  box : Box w pp #[.pointer none, .slice (some ⟨rb, 0, none⟩) p.rows.length p.rows.length, tv, .slice ua p.runs.length uc] 95
  rp : role pp = 0
  rows : R3s w (some ⟨rb, 0, none⟩) p.rows
  rr : role rb = 0
  lr : rb < w.heap.size
  rates : (p.ta = none ∧ tv = .slice none 0 0) ∨ (p.ta ≠ none ∧ p.rates.length = p.rows.length ∧ ∃ tb, tv = .slice (some ⟨tb, 0, none⟩) p.rows.length p.rows.length ∧ role tb = 0 ∧ tb < w.heap.size ∧ RIs w (some ⟨tb, 0, none⟩) p.rates)
  runs : K4s w ua p.runs
  ru : ∀ b o, ua = some ⟨b, o, none⟩ → role b = 0 ∧ b < w.heap.size

theorem PartIs.frame {w w' : World} {role role' : Nat → Nat} {pp rb : Nat} {tv : Value} {ua : Option Addr} {uc : Nat} {p : KP} (h : PartIs w role pp rb tv ua uc p) (hs : Still0 w w' role role') : PartIs w' role' pp rb tv ua uc p where
  box := h.box.of_heap (hs.heap pp h.box.lt h.rp)
  rp := (hs.role pp h.box.lt).trans h.rp
  rows := h.rows.of_heap (hs.heap rb h.lr h.rr)
  rr := (hs.role rb h.lr).trans h.rr
  lr := Nat.lt_of_lt_of_le h.lr hs.size
  rates := by
    rcases h.rates with h | ⟨h1, h2, tb, h3, h4, h5, h6⟩
    · exact .inl h
    · exact .inr ⟨h1, h2, tb, h3, (hs.role tb h5).trans h4, Nat.lt_of_lt_of_le h5 hs.size, h6.of_heap (hs.heap tb h5 h4)⟩
  runs := h.runs.of_heap fun b o e => hs.heap b (h.ru b o e).2 (h.ru b o e).1
  ru b o e := ⟨(hs.role b (h.ru b o e).2).trans (h.ru b o e).1, Nat.lt_of_lt_of_le (h.ru b o e).2 hs.size⟩

theorem WorkIs.cast {w : World} {base : Nat} {role : Nat → Nat} {pb mb : Nat} {ov : Value} {vs : List Value} {N N' : List ByteArray} {F : List Sp} {ps : List KP} (h : WorkIs w base role pb mb ov vs N F ps) (e : N = N') : WorkIs w base role pb mb ov vs N' F ps := e ▸ h
theorem Still0.norm (w : World) (role : Nat → Nat) : Still0 w w role (roleUp role w.heap.size 0) := ⟨fun _ _ _ => rfl, fun _ hk => roleUp_old hk, Nat.le_refl _⟩
theorem WorkIs.norm {w : World} {base : Nat} {role : Nat → Nat} {pb mb : Nat} {ov : Value} {vs : List Value} {N : List ByteArray} {F : List Sp} {ps : List KP} (h : WorkIs w base role pb mb ov vs N F ps) :
    WorkIs w base (roleUp role w.heap.size 0) pb mb ov vs N F ps :=
  ⟨h.box, h.map, h.grid.frame (fun _ _ _ => rfl) (fun _ hk => roleUp_old hk), (roleUp_old h.box.lt).trans h.rp, (roleUp_old h.map.lt).trans h.rm, h.bp, h.bm, h.nod, h.nms, fun f hf => (h.sp f hf).frame (.norm _ _)⟩

/-- What the last statement of the round reads. -/
def Seen (pb g0 m lb : Nat) (ov vm s0 s1 : Value) (w' : World) : Prop :=
  w'.cell? ⟨pb, 3, none⟩ = some ov ∧ w'.cell? ⟨g0, m, none⟩ = some vm ∧ w'.cell? ⟨lb, 0, none⟩ = some s0 ∧ w'.cell? ⟨lb, 1, none⟩ = some s1

structure SeenW (pb g0 m lb : Nat) (ov vm s0 s1 : Value) where
  w : World
  ok : Seen pb g0 m lb ov vm s0 s1 w

theorem loud_append {P : Program} (w : World) {ops : Array Oper} {o : Oper} {a : Act} {K : Act → World → Prop} {E : Prop} (hgd : o.guard = none) (s x : Operand) (t : TypeId)
    (ho : o.op = .call { callee := .builtin .append, args := #[s, x], argTypes := #[t, t] })
    (base : Nat) (e : TypeId) (i : TypeInfo) (z : Value) (size bytes : Nat) (ht : P.underlying t = some (.slice e)) (hi : P.info? e = some i) (hz : i.zero = some z)
    (hsize : i.size = size) (hby : i.bytes = bytes) (hzs : z.cells.size = size) (hsz : 0 < size)
    (v : Value) (n : Nat) (xs : List Value) (hs : a.eval s = v) (hown : Into w base e size v n xs)
    (m c : Nat) (news : List Value) (hx : a.eval x = .slice (some ⟨w.heap.size, 0, none⟩) m c) (hl : news.length = m * size) (hm : 0 < m) (h1 : ∀ u ∈ news, u.oneCell' = true)
    (h63 : n + m ≤ maxLen) (hbytes : (n + m) * bytes ≤ 140737488355328) (hbase : base ≤ w.heap.size)
    (h : ∀ g cap w', w'.ownsRow base e size (.slice (some ⟨g, 0, none⟩) (n + m) cap) (n + m) (xs ++ news) → Below base w w' → Keeps w w' v (.slice (some ⟨g, 0, none⟩) (n + m) cap) → K (a.put o.dst (.slice (some ⟨g, 0, none⟩) (n + m) cap)) w') :
    if Region.wanted o (yielded ops a.tmps) = true then loud P o a (w.alloc (.cells news.toArray e)) K else E := by
  have hw : Region.wanted o (yielded ops a.tmps) = true := by simp [Region.wanted, hgd]
  rw [if_pos hw]
  obtain ⟨g, cap, w', hr, h2, h3, h4⟩ := run_append_into (P := P) w base t o.type e i z size bytes ht hi hz hsize hby hzs hsz v n xs hown m c news hl hm h1 h63 hbytes hbase
  unfold loud execOp
  simp only [ho, resolve, invoke, builtin, Sem.run_bind, Sem.run_pure, Result.andThen_ok, List.map_toArray, List.map_cons, List.map_nil, hs, hx, hr]
  exact h g cap w' h2 h3 h4

/-- What keep leaves. -/
def KeepPost (w : World) (base : Nat) (role : Nat → Nat) (pb mb : Nat) (F : List Sp) (ps : List KP) (p : KP) (pt k : Nat) (w' : World) : Prop :=
  ∃ role' ov' vs' F', WorkIs w' base role' pb mb ov' vs' (firsts (F'.map fun f => f.nm)) F' ps ∧ F'.map Sp.toKey = F.map Sp.toKey ++ keysTo p pt k ∧ Still0 w w' role role' ∧ Below base w w'

set_option maxRecDepth 100000 in
set_option maxHeartbeats 4000000 in
theorem keep_any (w : World) (base : Nat) (role : Nat → Nat) (pb mb : Nat) (ov : Value) (vs : List Value) (F : List Sp) (ps : List KP) (p : KP) (pt pp rb : Nat) (tv : Value) (ua : Option Addr) (uc : Nat)
    (hw : WorkIs w base role pb mb ov vs (firsts (F.map fun f => f.nm)) F ps) (hp : PartIs w role pp rb tv ua uc p) (hpt : ∃ h : pt < ps.length, ps[pt] = p) (hd : DomP p) (hlen : F.length + p.runs.length ≤ 1048576) (hrl : p.rows.length ≤ 65536) :
    Calls Try.prog 41 #[.pointer (some ⟨pb, 0, none⟩), .pointer (some ⟨pp, 0, none⟩)] w fun e w' => e = .returned (.tuple #[]) ∧ KeepPost w base role pb mb F ps p pt p.runs.length w' := by
  have HW := hid hw
  have HP := hid hp
  have HPT := hid hpt
  have HD := hid hd
  have c3 : w.cell? ⟨pp, 3, none⟩ = some (.slice ua p.runs.length uc) := by rw [hp.box.cell]; rfl
  obtain ⟨un, hun⟩ : ∃ un, p.runs.length = un := ⟨_, rfl⟩
  have UN := hid hun
  rw [hun] at c3
  have hu : un ≤ 1048576 := by omega
  have HL := hid hlen
  have HRL := hid hrl
  clear hw hp hpt hd hlen hrl hun
  go_enter Try.func41, Try.ntmps41
  go_wp2
  go_loopw [4, 15] (fun fv iv wx => ∃ (i : Nat), i ≤ un ∧ iv = .int .i64 i ∧ fv = .int .i64 (fN p i : Int) ∧ Hid (KeepPost w base role pb mb F ps p pt i wx)) (fun _ iv _ => un - (intOf iv).toNat)
  case atStart => exact ⟨0, Nat.zero_le _, rfl, rfl, role, ov, vs, F, HW.out, by simp [keysTo], Still0.refl _ _, Below.refl _ _⟩
  case round =>
    obtain ⟨i, hi, rfl, rfl, HK⟩ := hrel
    by_cases hlt : i < un
    · have hil : i < p.runs.length := by rw [UN.out]; exact hlt
      obtain ⟨role1, ov1, vs1, F1, W1, hF1, st1, bl1, hr1⟩ : ∃ role1 ov1 vs1 F1, WorkIs wr base role1 pb mb ov1 vs1 (firsts (F1.map fun f => f.nm)) F1 ps ∧ F1.map Sp.toKey = F.map Sp.toKey ++ keysTo p pt i ∧ Still0 w wr role role1 ∧ Below base w wr ∧ role1 wr.heap.size = 0 := by
        obtain ⟨role1, ov1, vs1, F1, W1, hF1, st1, bl1⟩ := HK.out
        exact ⟨_, _, _, _, W1.norm, hF1, st1.trans (.norm _ _), bl1, by simp [roleUp]⟩
      have P1 := HP.out.frame st1
      obtain ⟨N, hN⟩ : ∃ N, N = firsts (F1.map fun f => f.nm) := ⟨_, rfl⟩
      rw [← hN] at W1
      have NE := hid hN
      have FK := hid hF1
      have hFl : F1.length = F.length + i := by have := congrArg List.length hF1; simpa [keysTo] using this
      have hNl : N.length ≤ 1048576 := by have := HL.out; have := UN.out; have h2 := firsts_len (F1.map fun f => f.nm); rw [← hN] at h2; simp at h2; omega
      obtain ⟨ub, uo, hua, r0, r1, r2, r3⟩ := P1.runs i hil
      have hen := en_cast HD.out.2 hil
      have hmo := fN_mono HD.out.2 hil
      have hle := fN_le HD.out.2 (i := i + 1) (by omega)
      rw [hen] at r3
      obtain ⟨S, hS⟩ : ∃ S, S = p.runs[i].mem := ⟨_, rfl⟩
      obtain ⟨bo, hbo⟩ : ∃ S, S = p.runs[i].born := ⟨_, rfl⟩
      obtain ⟨ls, hls⟩ : ∃ S, S = p.runs[i].lst := ⟨_, rfl⟩
      obtain ⟨E, hE⟩ : ∃ E, E = fN p (i + 1) := ⟨_, rfl⟩
      obtain ⟨f0, hf0⟩ : ∃ E, E = fN p i := ⟨_, rfl⟩
      obtain ⟨rn, hrn⟩ : ∃ E, E = p.rows.length := ⟨_, rfl⟩
      rw [← hS] at r0
      rw [← hbo] at r1
      rw [← hls] at r2
      rw [← hE] at r3 hmo hle
      rw [← hf0] at hmo
      rw [← hrn] at hle
      have SE := hid hS
      have EE := hid hE
      have FE := hid hf0
      have RN := hid hrn
      have hrl : rn ≤ 65536 := by rw [hrn]; exact HRL.out
      rw [← hf0]
      obtain ⟨wA, hwA⟩ : ∃ wA, wA = wr.alloc (.cells #[.string S, .int .i64 bo, .bool ls, .int .i64 (E : Int)] 97) := ⟨_, rfl⟩
      have bA : Below wr.heap.size wr wA := by rw [hwA]; exact (Below.refl _ _).alloc (Nat.le_refl _) _
      have WA := W1.later bA
      have PA := P1.frame (Still0.of_below bA)
      have BA : Box wA wr.heap.size #[.string S, .int .i64 bo, .bool ls, .int .i64 (E : Int)] 97 := by rw [hwA]; exact box_new _ _ _
      have hrb : ub < wr.heap.size := World.block_lt_of_cell? _ _ r0
      have HWA := hid hwA
      have HUA := hid hua
      clear hwA hua hN hF1 hS hbo hls hE hf0 hrn HK hen
      have HW1 := hid W1
      have HP1 := hid P1
      have HST := hid st1
      have HBL := hid bl1
      clear W1 P1 st1 bl1
      have q2 : wA.cell? ⟨pb, 2, none⟩ = some (.map (some mb)) := WA.box.cell 2
      have a0 : wA.cell? ⟨wr.heap.size, 0, none⟩ = some (.string S) := BA.cell 0
      have lA := BA.lt
      have lpb := WA.box.lt
      obtain ⟨oa, oc, hov, hog⟩ := WA.shape
      subst hov
      have q3 : wA.cell? ⟨pb, 3, none⟩ = some (.slice oa N.length oc) := WA.box.cell 3
      have HWW := hid WA
      have HPA := hid PA
      have HBA := hid BA
      clear WA PA BA
      obtain ⟨mi, ok, hlk, HC⟩ : ∃ (mi : Int) (ok : Bool), (∀ n, (Instr.lookup 40 (.map (some mb)) (.string S) true).run Try.prog (wA.drewN n) = .ok (.tuple #[.int .i64 mi, .bool ok]) (wA.drewN n)) ∧ Hid ((ok = false ∧ S ∉ N) ∨ (ok = true ∧ ∃ m, ∃ h : m < N.length, N[m] = S ∧ mi = (m : Int))) := by
        have hl : ∀ n, (Instr.lookup 40 (.map (some mb)) (.string S) true).run Try.prog (wA.drewN n) = .ok (.tuple #[(lk (idxL N) S).getD (.int .i64 0), .bool (lk (idxL N) S).isSome]) (wA.drewN n) := fun n => by
          have := (HWW.out.map.of_heap (w' := wA.drewN n) rfl).lookup (P := Try.prog) (t := 40) Try.underlying40 Try.underlying9 (zero3 _) S true
          simpa using this
        rcases lk_idx N S with ⟨h1, h2⟩ | ⟨m, hm, h1, h2⟩
        · exact ⟨0, false, fun n => by rw [hl n, h2]; rfl, .inl ⟨rfl, h1⟩⟩
        · exact ⟨m, true, fun n => by rw [hl n, h2]; rfl, .inr ⟨rfl, m, hm, h1, rfl⟩⟩
      have HUAs := HUA.out
      subst HUAs
      have iu : (i : Int) < (un : Int) := by omega
      go_wp2
      rw [← HWA.out]
      go_quiet (fail)
      go_upto_if 30 with fail
      go_cut [7, 8, 15] from 15 to 97 (fun mv okv iv wx => iv = .int .i64 i ∧ ∃ m : Nat, mv = .int .i64 m ∧ Hid (∃ role2 ov2 vs2, ∃ h : m < (addName N S).length, (addName N S)[m] = S ∧ WorkIs wx base role2 pb mb ov2 vs2 (addName N S) F1 ps ∧ Still0 wA wx role1 role2 ∧ Below base wA wx))
      case first =>
        rcases HC.out with ⟨rfl, hSN⟩ | ⟨rfl, m, hm, hmS, rfl⟩
        · have hnone : lk (idxL N) S = none := by
            rcases lk_idx N S with ⟨_, h2⟩ | ⟨m, hm, h1, _⟩
            · exact h2
            · exact absurd (h1 ▸ List.getElem_mem hm) hSN
          have HSN := hid hSN
          have HNO := hid hnone
          have HOG := hid hog
          obtain ⟨i0, hi0, hz0, hz1, hz2⟩ := info_parts Try.info85
          clear hSN hnone hog HC hlk
          have hpm : pb ≠ mb := cells_ne HWW.out.rp HWW.out.rm (by decide)
          have OO : Hid (wA.ownsRow base 85 1 (.slice oa N.length oc) N.length vs1) := by have := HWW.out.grid.outer; rwa [gridOf_len] at this
          have hob : ∀ k, (Value.slice oa N.length oc).ownBlock = some k → k < wA.heap.size ∧ k ≠ mb ∧ k ≠ pb := fun k e => ⟨(OO.out.lt k e).2, cells_ne (HWW.out.grid.ro k e) HWW.out.rm (by decide), cells_ne (HWW.out.grid.ro k e) HWW.out.rp (by decide)⟩
          have HOB := hid hob
          have hba : base ≤ wA.heap.size := by have := HWW.out.bp; omega
          clear hob
          go_wp2
          refine wp_region_quiet_tail (fun w' => ∃ n, w' = wA.drewN n) 7 (by kernel_rfl) (by kernel_rfl) ⟨nq + 1, by simp [World.drewN, Nat.add_assoc]⟩ ?_
          simp only [List.take_succ_cons, List.take_zero, List.drop_succ_cons, List.drop_zero]
          repeat (quiet_step (fail))
          refine wpQuiet_nil ?_
          rintro _ ⟨n2, rfl⟩
          go_wp2_with (first
            | (at_mapUpdate; refine wpList_mapUpdate_new _ rfl _ _ _ 40 rfl 9 3 Try.underlying40 Try.underlying9 mb (idxL N) rfl (HWW.out.map.of_heap rfl) S (.int .i64 (N.length : Int)) rfl rfl HNO.out ?_; intro w1 hm1 hg1 hs1; have k1 : w1.heap[pb]? = wA.heap[pb]? := hg1.block pb lpb (by simp; exact hpm); have e3 : w1.cell? ⟨pb, 3, none⟩ = some (.slice oa N.length oc) := (World.cell?_of_block (w := wA) (a := ⟨pb, 3, none⟩) k1).trans q3; have hs1' : w1.heap.size = wA.heap.size := hs1; clear hs1; have HS1 := hid hs1'; have HG1 := hid hg1; have HM1 := hid hm1; clear hs1' hm1 hg1)
            | (at_builtin; refine wpList_append_keeps w1 rfl _ _ 82 rfl base 85 i0 _ 1 24 Try.underlying82 hi0 hz0 hz1 hz2 rfl (by decide) (.slice oa N.length oc) N.length vs1 rfl (.inl (own_of_heap (w := wA) OO.out (fun k e => HG1.out.block k (HOB.out k e).1 (by have := (HOB.out k e).2.1; simpa using this)))) 1 1 [.slice none 0 0] (by simp [Act.eval]) rfl (by decide) (by simp [Value.oneCell']) (by unfold maxLen; omega) (by omega) (by rw [HS1.out]; exact hba) ?_; intro g cap w2 hown hbel hkeep; have k2 : w2.heap[pb]? = wA.heap[pb]? := (hkeep.1 pb (by rw [HS1.out]; exact lpb) (fun e => (HOB.out pb e).2.2 rfl)).trans k1; have e4 : w2.cell? ⟨pb, 3, none⟩ = some (.slice oa N.length oc) := (World.cell?_of_block (w := wA) (a := ⟨pb, 3, none⟩) k2).trans q3; have fz : w2.frozen? ⟨pb, 3, none⟩ = false := (HWW.out.box.of_heap k2).frozen 3)
            | fail)
          go_meet
          case rel =>
            have bd : Below wA.heap.size wA (wA.drewN n2) := ⟨rfl, rfl, rfl, Nat.le_refl _, fun _ _ => rfl⟩
            obtain ⟨Wn, Sn⟩ := (HWW.out.later bd).pushed (w3 := w2.setCell ⟨pb, 3, none⟩ (.slice (some ⟨g, 0, none⟩) (N.length + 1) cap)) HSN.out HM1.out HG1.out HS1.out hown hkeep hbel.size rfl
            refine ⟨rfl, N.length, rfl, ?_⟩
            rw [addName_out HSN.out]
            refine ⟨_, _, _, by simp, by simp, Wn, (Still0.of_below bd).trans Sn, ?_⟩
            refine Below.setCell ?_ HWW.out.bp _
            exact (bd.mono hba).trans (((Below.refl _ _).grown HG1.out hba (fun k hk => by cases hk; exact HWW.out.bm)).trans hbel)
        · clear hog hlk
          go_wp2
          go_meet
          case rel =>
            have bd : Below wA.heap.size wA (wA.drewN nq) := ⟨rfl, rfl, rfl, Nat.le_refl _, fun _ _ => rfl⟩
            refine ⟨rfl, m, rfl, ?_⟩
            rw [addName_in (hmS ▸ List.getElem_mem hm)]
            exact ⟨_, _, _, hm, hmS, HWW.out.later bd, Still0.of_below bd, bd.mono (by have := HWW.out.bp; omega)⟩
      case rest =>
        obtain ⟨rfl, m, rfl, HX⟩ := hcut
        obtain ⟨wB, hwB⟩ : ∃ wB, wB = wc := ⟨_, rfl⟩
        subst hwB
        obtain ⟨role2, ov2, vs2, N2, hN2, hm, hmS, W2, st2, bl2, hr2⟩ : ∃ role2 ov2 vs2 N2, N2 = addName N S ∧ ∃ h : m < N2.length, N2[m] = S ∧ WorkIs wB base role2 pb mb ov2 vs2 N2 F1 ps ∧ Still0 wA wB role1 role2 ∧ Below base wA wB ∧ role2 wB.heap.size = 0 := by
          obtain ⟨role2, ov2, vs2, hm, hmS, W2, st2, bl2⟩ := HX.out
          exact ⟨_, _, _, _, rfl, hm, hmS, W2.norm, st2.trans (.norm _ _), bl2, by simp [roleUp]⟩
        have P2 := HPA.out.frame st2
        have BR := HBA.out.of_heap (st2.heap wr.heap.size lA hr1)
        have N2E := hid hN2
        have hmN : N2.length ≤ 1048577 := by have := addName_len N S; rw [hN2]; omega
        obtain ⟨oa2, oc2, hov2, hog2⟩ := W2.shape
        obtain ⟨g0, hg0⟩ := hog2 (by omega)
        subst hg0
        subst hov2
        have hmv : m < vs2.length := by rw [W2.grid.len, gridOf_len]; exact hm
        obtain ⟨vm, hvm⟩ : ∃ v, v = vs2[m] := ⟨_, rfl⟩
        obtain ⟨ta1, tn1, htv, HT⟩ : ∃ ta1 tn1, tv = .slice ta1 tn1 tn1 ∧ Hid ((ta1 = none ∧ p.ta = none) ∨ (∃ tb, ta1 = some ⟨tb, 0, none⟩ ∧ tn1 = rn ∧ p.ta ≠ none ∧ p.rates.length = p.rows.length ∧ role2 tb = 0 ∧ tb < wB.heap.size ∧ RIs wB (some ⟨tb, 0, none⟩) p.rates)) := by
          rcases P2.rates with ⟨h1, h2⟩ | ⟨h1, h2, tb, h3, h4, h5, h6⟩
          · exact ⟨_, _, h2, .inl ⟨rfl, h1⟩⟩
          · exact ⟨_, _, h3, .inr ⟨tb, rfl, RN.out.symm, h1, h2, h4, h5, h6⟩⟩
        subst htv
        have b3 : wB.cell? ⟨wr.heap.size, 3, none⟩ = some (.int .i64 (E : Int)) := BR.cell 3
        have p1 : wB.cell? ⟨pp, 1, none⟩ = some (.slice (some ⟨rb, 0, none⟩) rn rn) := by rw [P2.box.cell 1, RN.out]; rfl
        have p2 : wB.cell? ⟨pp, 2, none⟩ = some (.slice ta1 tn1 tn1) := P2.box.cell 2
        have q3' : wB.cell? ⟨pb, 3, none⟩ = some (.slice (some ⟨g0, 0, none⟩) N2.length oc2) := W2.box.cell 3
        have o1 : wB.ownsRow base 85 1 (.slice (some ⟨g0, 0, none⟩) N2.length oc2) N2.length vs2 := by have := W2.grid.outer; rwa [gridOf_len] at this
        have v1 : wB.cell? ⟨g0, m, none⟩ = some vm := by rw [o1.cellAt m (by omega), hvm]; simp
        have l1 := BR.lt
        have l2 := P2.box.lt
        have l3 := W2.box.lt
        have l4 := World.block_lt_of_cell? _ _ v1
        have HW2 := hid W2
        have HP2 := hid P2
        have HS2 := hid st2
        have HB2 := hid bl2
        have HVM := hid hvm
        have HMS := hid hmS
        have HO1 := hid o1
        clear W2 P2 st2 bl2 hvm hmS hN2 HX HC hlk hog hog2 BR HWW HW1 HP1 q2 q3 a0 r0 r1 r2 r3 o1 c3
        have ine := gp_ne
        have e1 : (f0 : Int) ≤ (E : Int) := by omega
        have e2 : (E : Int) ≤ (rn : Int) := by omega
        go_wp2
        refine wp_region_float (fun w' => ∃ p, w' = grow wB p) 11 12 (by kernel_rfl) (by kernel_rfl) ?_
        simp only [List.take_succ_cons, List.take_zero, List.drop_succ_cons, List.drop_zero]
        repeat (refine wpPure_step (fun K hK => ?_); go_simp; refine hK _ ?_; clear hK K)
        refine wpPure_nil ?_
        refine wpMid_step ⟨⟨1, []⟩, rfl⟩ (fun K hK => ?_)
        go_simp
        refine hK _ _ ?_
        clear hK K
        refine wpMid_nil (grow_alloc wB ⟨1, []⟩ _) ?_
        obtain ⟨xa, hxa⟩ : ∃ xa : Option Addr, xa = (if E = f0 then some ⟨rb, 0, none⟩ else some ⟨rb, f0 * 3, none⟩) := ⟨_, rfl⟩
        rw [← hxa]
        have HXA : Hid (∃ x, xa = some x ∧ (0 < E - f0 → x = ⟨rb, f0 * 3, none⟩)) := by
          by_cases h : E = f0
          · rw [if_pos h] at hxa; exact ⟨_, hxa, fun h0 => by omega⟩
          · rw [if_neg h] at hxa; exact ⟨_, hxa, fun _ => rfl⟩
        clear hxa
        go_upto_if 67 with fail
        go_cut [15] from 15 to 97 (fun iv wx => iv = .int .i64 i ∧ Hid (∃ tv2, Box wx wB.heap.size #[.slice xa (E - f0) (E - f0), tv2] 89 ∧ Below wB.heap.size wB wx ∧
          ((p.ta = none ∧ tv2 = .slice none 0 0) ∨ (p.ta ≠ none ∧ p.rates.length = p.rows.length ∧ ∃ y, tv2 = .slice (some y) (E - f0) (E - f0) ∧ (0 < E - f0 → ∃ tb, y = ⟨tb, f0, none⟩ ∧ role2 tb = 0 ∧ tb < wB.heap.size ∧ RIs wB (some ⟨tb, 0, none⟩) p.rates)))))
        case first =>
          rcases HT.out with ⟨rfl, h1⟩ | ⟨tb, rfl, rfl, h1, h2, h3, h4, h5⟩
          · go_wp2
            go_meet
            case rel => exact ⟨rfl, _, box_new _ _ _, below_drew ((Below.refl _ _).alloc (Nat.le_refl _) _), .inl ⟨h1, rfl⟩⟩
          · obtain ⟨wD, hwD⟩ : ∃ wD, wD = (wB.alloc (.cells #[.slice xa (E - f0) (E - f0), .slice none 0 0] 89)).drew := ⟨_, rfl⟩
            have bD : Below wB.heap.size wB wD := by rw [hwD]; exact below_drew ((Below.refl _ _).alloc (Nat.le_refl _) _)
            have BD : Box wD wB.heap.size #[.slice xa (E - f0) (E - f0), .slice none 0 0] 89 := by rw [hwD]; exact box_new _ _ _
            have d1 := cell_later bD p2
            have d2 := cell_later bD b3
            have d3 : wD.cell? ⟨wB.heap.size, 1, none⟩ = some (.slice none 0 0) := BD.cell 1
            have d4 := BD.frozen 1
            have HWD := hid hwD
            have HBD := hid BD
            clear hwD BD
            go_wp2
            rw [← HWD.out]
            refine wp_region_quiet_tail (fun w' => ∃ n, w' = wD.drewN n) 11 (by kernel_rfl) (by kernel_rfl) ⟨1, rfl⟩ ?_
            simp only [List.take_succ_cons, List.take_zero, List.drop_succ_cons, List.drop_zero]
            repeat (quiet_step (fail))
            refine wpQuiet_nil ?_
            rintro _ ⟨n3, rfl⟩
            obtain ⟨ya, hya⟩ : ∃ ya : Option Addr, ya = (if E = f0 then some ⟨tb, 0, none⟩ else some ⟨tb, f0, none⟩) := ⟨_, rfl⟩
            rw [← hya]
            have HYA := hid hya
            clear hya
            go_wp2
            go_meet
            case rel =>
              have BD2 : Box (wD.drewN n3) wB.heap.size #[.slice xa (E - f0) (E - f0), .slice none 0 0] 89 := HBD.out
              refine ⟨rfl, _, BD2.set 1 _, Below.setCell (w := wD.drewN n3) ⟨bD.os, bD.tape, bD.output, bD.size, bD.block⟩ (Nat.le_refl _) _, .inr ⟨h1, h2, ?_⟩⟩
              rw [HYA.out]
              by_cases hEf : E = f0
              · rw [if_pos hEf]; exact ⟨⟨tb, 0, none⟩, rfl, fun h0 => by omega⟩
              · rw [if_neg hEf]; exact ⟨⟨tb, f0, none⟩, rfl, fun _ => ⟨tb, rfl, h3, h4, h5⟩⟩
        case rest =>
          obtain ⟨rfl, HY⟩ := hcut
          obtain ⟨tv2, BS, bS, hT⟩ := HY.out
          have W3 := HW2.out.later bS
          obtain ⟨x, hxa, hx⟩ := HXA.out
          obtain ⟨ya, yn, htv2⟩ : ∃ ya yn, tv2 = .slice ya yn yn := by
            rcases hT with ⟨_, h⟩ | ⟨_, _, y, h, _⟩
            · exact ⟨_, _, h⟩
            · exact ⟨_, _, h⟩
          obtain ⟨hptl, hpte⟩ := HPT.out
          have SO : SpanOk wc role2 ps ⟨⟨S, pt, f0, E - f0⟩, .slice xa (E - f0) (E - f0), tv2⟩ := by
            refine ⟨hptl, ?_, ⟨x, by rw [hxa], fun h0 => ⟨rb, hx h0, HP2.out.rr, Nat.lt_of_lt_of_le HP2.out.lr bS.size, ?_⟩⟩, ?_⟩
            · show f0 + (E - f0) ≤ _
              rw [hpte, ← RN.out]; omega
            · rw [hpte]; exact HP2.out.rows.later bS
            · simp only [hpte]
              rcases hT with h | ⟨h1, h2, y, h3, h4⟩
              · exact .inl h
              · refine .inr ⟨h1, h2, y, h3, fun h0 => ?_⟩
                obtain ⟨tb, e1, e2, e3, e4⟩ := h4 h0
                exact ⟨tb, e1, e2, Nat.lt_of_lt_of_le e3 bS.size, e4.later bS⟩
          subst htv2
          have SE1 : Seen pb g0 m wB.heap.size (.slice (some ⟨g0, 0, none⟩) N2.length oc2) vm (.slice xa (E - f0) (E - f0)) (.slice ya yn yn) wc :=
            ⟨cell_later bS q3', cell_later bS v1, BS.cell 0, BS.cell 1⟩
          have SE2 : Seen pb g0 m wB.heap.size (.slice (some ⟨g0, 0, none⟩) N2.length oc2) vm (.slice xa (E - f0) (E - f0)) (.slice ya yn yn) (wc.alloc (.cells #[.slice xa (E - f0) (E - f0), .slice ya yn yn] 89)).drew := by
            have bb : Below wc.heap.size wc (wc.alloc (.cells #[.slice xa (E - f0) (E - f0), .slice ya yn yn] 89)).drew := below_drew ((Below.refl _ _).alloc (Nat.le_refl _) _)
            exact ⟨cell_later bb SE1.1, cell_later bb SE1.2.1, cell_later bb SE1.2.2.1, cell_later bb SE1.2.2.2⟩
          have hgl : m < (gridOf N2 (F1.map Sp.ent)).length := by rw [gridOf_len]; exact hm
          have OWN : Hid (wc.drew.ownsRow base 89 2 vm (selV (F1.map Sp.ent) N2[m]).length (cells2 (selV (F1.map Sp.ent) N2[m]))) := by
            have := W3.grid.inner m hgl hmv
            rw [gridOf_get N2 _ m hm, ← HVM.out] at this
            exact this
          have SL : Hid ((selV (F1.map Sp.ent) N2[m]).length ≤ 1048576) := by
            have h1 : (selV (F1.map Sp.ent) N2[m]).length ≤ F1.length := by
              unfold selV
              rw [List.length_map]
              exact Nat.le_trans (List.length_filter_le _ _) (by simp)
            have := HL.out
            have := UN.out
            show (selV (F1.map Sp.ent) N2[m]).length ≤ 1048576
            omega
          have OUT : Hid (wc.ownsRow base 85 1 (.slice (some ⟨g0, 0, none⟩) N2.length oc2) N2.length vs2) := own_later HO1.out bS
          have B3 : Hid (wc.cell? ⟨wr.heap.size, 3, none⟩ = some (.int .i64 (E : Int))) := cell_later bS b3
          have rvm : ∀ k, vm.ownBlock = some k → role2 k = 1 := fun k e => W3.grid.ri m k hmv (by rw [← HVM.out]; exact e)
          have hn1 : vm.ownBlock ≠ some pb := fun e => cells_ne (rvm _ e) W3.rp (by decide) rfl
          have hn2 : vm.ownBlock ≠ some g0 := fun e => W3.grid.dio m g0 hmv (by rw [← HVM.out]; exact e) rfl
          have hn3 : vm.ownBlock ≠ some wB.heap.size := fun e => cells_ne (rvm _ e) hr2 (by decide) rfl
          have rwr : role2 wr.heap.size = 0 := (HS2.out.role _ lA).trans hr1
          have hn4 : vm.ownBlock ≠ some wr.heap.size := fun e => cells_ne (rvm _ e) rwr (by decide) rfl
          have hn5 : wr.heap.size ≠ g0 := cells_ne rwr (W3.grid.ro g0 rfl) (by decide)
          have HSO := hid SO
          have HW3 := hid W3
          have HBS := hid bS
          clear W3 SO hT BS HY p1 p2 b3 q3' v1 hxa hx hpte hptl HT
          have s1 : ∀ q : SeenW pb g0 m wB.heap.size (.slice (some ⟨g0, 0, none⟩) N2.length oc2) vm (.slice xa (E - f0) (E - f0)) (.slice ya yn yn), q.w.cell? ⟨pb, 3, none⟩ = some (.slice (some ⟨g0, 0, none⟩) N2.length oc2) := fun q => q.ok.1
          have s2 : ∀ q : SeenW pb g0 m wB.heap.size (.slice (some ⟨g0, 0, none⟩) N2.length oc2) vm (.slice xa (E - f0) (E - f0)) (.slice ya yn yn), q.w.cell? ⟨g0, m, none⟩ = some vm := fun q => q.ok.2.1
          have s3 : ∀ q : SeenW pb g0 m wB.heap.size (.slice (some ⟨g0, 0, none⟩) N2.length oc2) vm (.slice xa (E - f0) (E - f0)) (.slice ya yn yn), q.w.cell? ⟨wB.heap.size, 0, none⟩ = some (.slice xa (E - f0) (E - f0)) := fun q => q.ok.2.2.1
          have s4 : ∀ q : SeenW pb g0 m wB.heap.size (.slice (some ⟨g0, 0, none⟩) N2.length oc2) vm (.slice xa (E - f0) (E - f0)) (.slice ya yn yn), q.w.cell? ⟨wB.heap.size, 1, none⟩ = some (.slice ya yn yn) := fun q => q.ok.2.2.2
          have jne : Nonempty (SeenW pb g0 m wB.heap.size (.slice (some ⟨g0, 0, none⟩) N2.length oc2) vm (.slice xa (E - f0) (E - f0)) (.slice ya yn yn)) := ⟨⟨wc, SE1⟩⟩
          have im : (m : Int) < (N2.length : Int) := by omega
          obtain ⟨i0, hi0, hz0, hz1, hz2⟩ := info_parts Try.info89
          go_wp2
          refine wp_region_float (fun w' => ∃ q : SeenW pb g0 m wB.heap.size (.slice (some ⟨g0, 0, none⟩) N2.length oc2) vm (.slice xa (E - f0) (E - f0)) (.slice ya yn yn), w' = q.w) 13 16 (by kernel_rfl) (by kernel_rfl) ?_
          simp only [List.take_succ_cons, List.take_zero, List.drop_succ_cons, List.drop_zero]
          repeat (refine wpPure_step (fun K hK => ?_); go_simp; refine hK _ ?_; clear hK K)
          refine wpPure_nil ?_
          refine wpMid_step ⟨⟨{ wc with drawn := wc.drawn + 1 }, SE1⟩, rfl⟩ (fun K hK => ?_)
          go_simp
          refine hK _ _ ?_
          clear hK K
          refine wpMid_step ⟨⟨_, SE2⟩, rfl⟩ (fun K hK => ?_)
          refine loud_append wc.drew rfl _ _ 85 rfl base 89 i0 _ 2 48 Try.underlying85 hi0 hz0 hz1 hz2 rfl (by decide) vm (selV (F1.map Sp.ent) N2[m]).length (cells2 (selV (F1.map Sp.ent) N2[m])) rfl (.inl OWN.out) 1 1 [.slice xa (E - f0) (E - f0), .slice ya yn yn] (by simp [Act.eval]) rfl (by decide) (by simp [Value.oneCell']) (by unfold maxLen; have := SL.out; omega) (by have := SL.out; omega) (by have := HW3.out.bp; have := HW3.out.box.lt; show base ≤ wc.heap.size; omega) ?_
          intro g cap w2 hown hbel hkeep
          refine hK _ _ ?_
          clear hK K
          have t1 : w2.heap[pb]? = wc.heap[pb]? := hkeep.1 pb HW3.out.box.lt hn1
          have t2 : w2.heap[g0]? = wc.heap[g0]? := hkeep.1 g0 (Nat.lt_of_lt_of_le l4 HBS.out.size) hn2
          have t3 : w2.heap[wB.heap.size]? = wc.heap[wB.heap.size]? := hkeep.1 _ (World.block_lt_of_cell? _ _ SE1.2.2.1) hn3
          have SE3 : Seen pb g0 m wB.heap.size (.slice (some ⟨g0, 0, none⟩) N2.length oc2) vm (.slice xa (E - f0) (E - f0)) (.slice ya yn yn) w2 :=
            ⟨(World.cell?_of_block (w := wc) (a := ⟨pb, 3, none⟩) t1).trans SE1.1, (World.cell?_of_block (w := wc) (a := ⟨g0, m, none⟩) t2).trans SE1.2.1, (World.cell?_of_block (w := wc) (a := ⟨wB.heap.size, 0, none⟩) t3).trans SE1.2.2.1, (World.cell?_of_block (w := wc) (a := ⟨wB.heap.size, 1, none⟩) t3).trans SE1.2.2.2⟩
          have fz : w2.frozen? ⟨g0, m, none⟩ = false := (World.frozen?_of_block (w := wc) (a := ⟨g0, m, none⟩) t2).trans (OUT.out.frozenAt m)
          have u1 := SE3.2.1
          refine wpMid_step ⟨⟨_, SE3⟩, rfl⟩ (fun K hK => ?_)
          go_simp
          refine hK _ _ ?_
          clear hK K
          refine wpMid_nil ⟨⟨_, SE3⟩, rfl⟩ ?_
          have t4 : w2.heap[wr.heap.size]? = wc.heap[wr.heap.size]? := hkeep.1 _ (Nat.lt_of_lt_of_le l1 HBS.out.size) hn4
          have b3' : w2.cell? ⟨wr.heap.size, 3, none⟩ = some (.int .i64 (E : Int)) := (World.cell?_of_block (w := wc) (a := ⟨wr.heap.size, 3, none⟩) t4).trans B3.out
          have hgr : wr.heap.size ≠ g0 := hn5
          go_wp2
          have bdr : Below wc.heap.size wc wc.drew := below_drew (Below.refl _ _)
          obtain ⟨W5, S5⟩ := (HW3.out.later bdr).added (f := ⟨⟨S, pt, f0, E - f0⟩, .slice xa (E - f0) (E - f0), .slice ya yn yn⟩) (w2 := w2.setCell ⟨g0, m, none⟩ (.slice (some ⟨g, 0, none⟩) ((selV (F1.map Sp.ent) N2[m]).length + 1) cap)) hm hmv hown (by rw [← HVM.out]; exact hkeep) hbel.size rfl (HSO.out.frame (Still0.of_below bdr)) HMS.out.symm
          have hbw : base ≤ wr.heap.size := by have h1 := HW2.out.bp; have h2 := HW.out.bp; have h3 := HW.out.box.lt; have h4 := HBL.out.size; omega
          have hbA : base ≤ wA.heap.size := Nat.le_trans hbw bA.size
          have hbB : base ≤ wB.heap.size := Nat.le_trans hbA HB2.out.size
          have hbC : base ≤ wc.heap.size := Nat.le_trans hbB HBS.out.size
          refine ⟨⟨i + 1, by omega, by go_num, by rw [EE.out], ?_⟩, by simp [intOf]; omega⟩
          have hnm : N2 = firsts ((F1 ++ [(⟨⟨S, pt, f0, E - f0⟩, .slice xa (E - f0) (E - f0), .slice ya yn yn⟩ : Sp)]).map fun f => f.nm) := by
            rw [List.map_append, List.map_singleton, firsts_snoc, ← NE.out]
            exact N2E.out
          have hks : (F1 ++ [(⟨⟨S, pt, f0, E - f0⟩, .slice xa (E - f0) (E - f0), .slice ya yn yn⟩ : Sp)]).map Sp.toKey = F.map Sp.toKey ++ keysTo p pt (i + 1) := by
            rw [List.map_append, List.map_singleton, FK.out, keysTo_succ, List.append_assoc]
            simp only [keyAt, EE.out, FE.out, SE.out]
            simp [hil]
          exact ⟨_, _, _, _, W5.cast hnm, hks, (((HST.out.trans (Still0.of_below bA)).trans HS2.out).trans ((Still0.of_below HBS.out).trans (Still0.of_below bdr))).trans S5,
            Below.setCell ((((HBL.out.trans (bA.mono hbw)).trans HB2.out).trans (HBS.out.mono hbB)).trans ((bdr.mono hbC).trans hbel)) (HW3.out.grid.outer.lt g0 rfl).1 _⟩
    · have hi' : i = un := by omega
      subst hi'
      go_wp2
      go_end0
      refine ⟨rfl, ?_⟩
      rw [UN.out]
      exact HK.out

end Go.Proofs.Qxb6000140a
