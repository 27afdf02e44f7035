/-
  The parts of a work file as they come in, and what can be read of them; zzBytes of the law on keep.
-/
import Derived.Test.Qxb6000140aBeA
namespace Go.Proofs.Qxb6000140a
open Go.RowKit

structure R3 where
  mo : Int
  li : Int
  ho : Int

structure K4 where
  mem : ByteArray
  born : Int
  lst : Bool
  en : Int

structure KP where
  ra : Option Addr
  rc : Nat
  rows : List R3
  ta : Option Addr
  tc : Nat
  rates : List Int
  ua : Option Addr
  uc : Nat
  runs : List K4

def R3s (w : World) (a : Option Addr) (l : List R3) : Prop := ∀ i (_ : i < l.length), ∃ b o, a = some ⟨b, o, none⟩ ∧ w.cell? ⟨b, o + i * 3, none⟩ = some (.int .i32 l[i].mo) ∧ w.cell? ⟨b, o + i * 3 + 1, none⟩ = some (.int .u32 l[i].li) ∧ w.cell? ⟨b, o + i * 3 + 2, none⟩ = some (.int .i64 l[i].ho)

def RIs (w : World) (a : Option Addr) (l : List Int) : Prop := ∀ i (_ : i < l.length), ∃ b o, a = some ⟨b, o, none⟩ ∧ w.cell? ⟨b, o + i, none⟩ = some (.int .i64 l[i])

def K4s (w : World) (a : Option Addr) (l : List K4) : Prop := ∀ i (_ : i < l.length), ∃ b o, a = some ⟨b, o, none⟩ ∧ w.cell? ⟨b, o + i * 4, none⟩ = some (.string l[i].mem) ∧ w.cell? ⟨b, o + i * 4 + 1, none⟩ = some (.int .i64 l[i].born) ∧ w.cell? ⟨b, o + i * 4 + 2, none⟩ = some (.bool l[i].lst) ∧ w.cell? ⟨b, o + i * 4 + 3, none⟩ = some (.int .i64 l[i].en)

def KP.reads (w : World) (p : KP) : Prop := R3s w p.ra p.rows ∧ RIs w p.ta p.rates ∧ K4s w p.ua p.runs

def KPs (w : World) (a : Option Addr) (l : List KP) : Prop := ∀ i (_ : i < l.length), (∃ b o, a = some ⟨b, o, none⟩ ∧ w.cell? ⟨b, o + i * 3, none⟩ = some (.slice l[i].ra l[i].rows.length l[i].rc) ∧ w.cell? ⟨b, o + i * 3 + 1, none⟩ = some (.slice l[i].ta l[i].rates.length l[i].tc) ∧ w.cell? ⟨b, o + i * 3 + 2, none⟩ = some (.slice l[i].ua l[i].runs.length l[i].uc)) ∧ l[i].reads w

def KP.ok (p : KP) : Prop := p.rows.length ≤ 9223372036854775807 ∧ p.rates.length ≤ 9223372036854775807 ∧ p.runs.length ≤ 9223372036854775807 ∧ (p.ta = none → p.rates = [] ∧ p.tc = 0) ∧ ∀ r ∈ p.runs, r.mem.size ≤ 9223372036854775807

theorem R3s.later {w w' : World} {a : Option Addr} {l : List R3} (h : R3s w a l) (hb : Below w.heap.size w w') : R3s w' a l := fun i hi => by
  obtain ⟨b, o, ha, h0, h1, h2⟩ := h i hi
  exact ⟨b, o, ha, cell_later hb h0, cell_later hb h1, cell_later hb h2⟩
theorem RIs.later {w w' : World} {a : Option Addr} {l : List Int} (h : RIs w a l) (hb : Below w.heap.size w w') : RIs w' a l := fun i hi => by
  obtain ⟨b, o, ha, h0⟩ := h i hi
  exact ⟨b, o, ha, cell_later hb h0⟩
theorem K4s.later {w w' : World} {a : Option Addr} {l : List K4} (h : K4s w a l) (hb : Below w.heap.size w w') : K4s w' a l := fun i hi => by
  obtain ⟨b, o, ha, h0, h1, h2, h3⟩ := h i hi
  exact ⟨b, o, ha, cell_later hb h0, cell_later hb h1, cell_later hb h2, cell_later hb h3⟩
theorem KP.reads.later {w w' : World} {p : KP} (h : p.reads w) (hb : Below w.heap.size w w') : p.reads w' := ⟨h.1.later hb, h.2.1.later hb, h.2.2.later hb⟩
theorem KPs.later {w w' : World} {a : Option Addr} {l : List KP} (h : KPs w a l) (hb : Below w.heap.size w w') : KPs w' a l := fun i hi => by
  obtain ⟨⟨b, o, ha, h0, h1, h2⟩, hr⟩ := h i hi
  exact ⟨⟨b, o, ha, cell_later hb h0, cell_later hb h1, cell_later hb h2⟩, hr.later hb⟩

/-- A bool comes back; where it is true, F holds. -/
def BoolThen (e : Ending) (F : Prop) : Prop := ∃ b : Bool, e = .returned (.bool b) ∧ (b = true → F)
theorem bool_false {e : Ending} {F : Prop} (h : e = .returned (.bool false)) : BoolThen e F := ⟨false, h, fun h => by cases h⟩
theorem bool_true {e : Ending} {F : Prop} (h : e = .returned (.bool true)) (hF : F) : BoolThen e F := ⟨true, h, fun _ => hF⟩
theorem any_b {b : Bool} {e : Ending} (h : e = .returned (.bool b)) : BoolThen e True := ⟨b, h, fun _ => trivial⟩

/-! zzBytes_FnKeepGathersEachMembersRowsInFileOrder: it comes back with a bool -/
set_option maxRecDepth 100000 in
set_option maxHeartbeats 2000000 in
theorem bytesK_any (a : Option Addr) (n cap : Nat) (ps : List KP) (w : World) (hl : ps.length = n) (hn : n ≤ maxLen) (hr : KPs w a ps) (hk : ∀ p ∈ ps, p.ok) :
    Calls Try.prog 15 #[.slice a n cap] w fun e w' => w = w' ∧ BoolThen e True := by
  unfold maxLen at hn
  have H : Hid (∀ k, k < n → ∃ b o ra rn rc ta tn tc ua un uc, a = some ⟨b, o, none⟩ ∧ w.cell? ⟨b, o + k * 3, none⟩ = some (.slice ra rn rc) ∧ w.cell? ⟨b, o + k * 3 + 1, none⟩ = some (.slice ta tn tc) ∧ w.cell? ⟨b, o + k * 3 + 2, none⟩ = some (.slice ua un uc) ∧
      rn ≤ 9223372036854775807 ∧ tn ≤ 9223372036854775807 ∧ un ≤ 9223372036854775807 ∧ Hid (∀ i, i < un → ∃ b o S, ua = some ⟨b, o, none⟩ ∧ S.size ≤ 9223372036854775807 ∧ w.cell? ⟨b, o + i * 4, none⟩ = some (.string S))) := fun k hk' => by
    have hkl : k < ps.length := by omega
    obtain ⟨⟨b, o, ha, h0, h1, h2⟩, hr3⟩ := hr k hkl
    obtain ⟨o1, o2, o3, _, o4⟩ := hk _ (List.getElem_mem hkl)
    refine ⟨b, o, _, _, _, _, _, _, _, _, _, ha, h0, h1, h2, o1, o2, o3, fun i hi => ?_⟩
    obtain ⟨b', o', ha', hc', _⟩ := hr3.2.2 i hi
    exact ⟨b', o', _, ha', o4 _ (List.getElem_mem hi), hc'⟩
  clear hl hr hk
  go_enter Try.func15, Try.ntmps15
  go_wp2
  any_goals (go_ret; exact ⟨rfl, any_b rfl⟩)
  go_loop [3, 4] (fun v i => ∃ (k : Nat) (t : Int), k ≤ n ∧ i = .int .i64 k ∧ v = .int .i64 t ∧ 0 ≤ t ∧ t ≤ 1048576) (fun _ i => n - (intOf i).toNat)
  case atStart => exact ⟨0, _, Nat.zero_le _, rfl, rfl, by omega, by omega⟩
  case round =>
    obtain ⟨k, t, hk, rfl, rfl, ht0, ht1⟩ := hrel
    by_cases hlt : k < n
    · obtain ⟨b, o, ra, rn, rc, ta, tn, tc, ua, un, uc, ha, c0, c1, c2, o1, o2, o3, HU⟩ := H.out k hlt
      clear H
      subst ha
      go_wp2
      any_goals (go_ret; exact ⟨rfl, any_b rfl⟩)
      go_loop [3, 5] (fun v i => ∃ (k : Nat) (t : Int), k ≤ un ∧ i = .int .i64 k ∧ v = .int .i64 t ∧ 0 ≤ t ∧ t ≤ 1048576) (fun _ i => un - (intOf i).toNat)
      case atStart => exact ⟨0, _, Nat.zero_le _, rfl, rfl, by omega, by omega⟩
      case round =>
        obtain ⟨k3, t3, hk3, rfl, rfl, hv0, hv1⟩ := hrel
        by_cases hlt3 : k3 < un
        · obtain ⟨b', o', S, ha', hSm, hcs⟩ := HU.out k3 hlt3
          subst ha'
          go_wp2
          any_goals (go_ret; exact ⟨rfl, any_b rfl⟩)
          go_round
          case rel => exact ⟨k3 + 1, t3 + S.size, by omega, by go_num, rfl, by omega, by omega⟩
          case measure => simp [intOf]; omega
        · go_wp2
          go_round
          case rel => exact ⟨k + 1, t3, by omega, by go_num, rfl, by omega, by omega⟩
          case measure => simp [intOf]; omega
    · go_wp2
      go_ret
      exact ⟨rfl, any_b rfl⟩

end Go.Proofs.Qxb6000140a
