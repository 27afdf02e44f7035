/-
  The law's looks into a Work: ZZSpanCount .. ZZSpanRate, over the cells that they read.
-/
import Derived.Test.Qxb6000140aKJ
namespace Go.Proofs.Qxb6000140a
open Go.RowKit

theorem spanCount_any (pb n c : Nat) (a : Option Addr) (w : World) (h : w.cell? ⟨pb, 3, none⟩ = some (.slice a n c)) : Calls Try.prog 19 #[.pointer (some ⟨pb, 0, none⟩)] w fun e w' => e = .returned (.int .i64 (n : Int)) ∧ w = w' := by
  go_enter Try.func19, Try.ntmps19
  go_wp2
  go_ret
  exact ⟨rfl, rfl⟩

theorem memberCount_any (pb mb : Nat) (l : List (ByteArray × Value)) (w : World) (h : w.cell? ⟨pb, 2, none⟩ = some (.map (some mb))) (hm : MapIs w mb l) : Calls Try.prog 20 #[.pointer (some ⟨pb, 0, none⟩)] w fun e w' => e = .returned (.int .i64 (l.length : Int)) ∧ w = w' := by
  have hl := fun ty => hm.len (P := Try.prog) (t := 40) Try.underlying40 ty
  clear hm
  go_enter Try.func20, Try.ntmps20
  go_wp2
  go_ret
  exact ⟨rfl, rfl⟩

theorem memberIndex_any (pb mb : Nat) (l : List (ByteArray × Value)) (s : ByteArray) (m : Int) (w : World) (h : w.cell? ⟨pb, 2, none⟩ = some (.map (some mb))) (hm : MapIs w mb l) (hs : lk l s = some (.int .i64 m)) :
    Calls Try.prog 21 #[.pointer (some ⟨pb, 0, none⟩), .string s] w fun e w' => e = .returned (.tuple #[.int .i64 m, .bool true]) ∧ w = w' := by
  have hl := hm.lookup (P := Try.prog) (t := 40) Try.underlying40 Try.underlying9 (zero3 _) s true
  rw [hs] at hl
  simp at hl
  clear hm hs
  go_enter Try.func21, Try.ntmps21
  go_wp2
  go_ret2
  exact ⟨rfl, rfl⟩

theorem spanRuns_any (pb g0 n c j nj cj : Nat) (aj : Option Addr) (w : World) (h : w.cell? ⟨pb, 3, none⟩ = some (.slice (some ⟨g0, 0, none⟩) n c)) (hj : w.cell? ⟨g0, j, none⟩ = some (.slice aj nj cj)) (hjn : j < n) :
    Calls Try.prog 22 #[.pointer (some ⟨pb, 0, none⟩), .int .i64 (j : Int)] w fun e w' => e = .returned (.int .i64 (nj : Int)) ∧ w = w' := by
  have i1 : (j : Int) < (n : Int) := by omega
  go_enter Try.func22, Try.ntmps22
  go_wp2
  go_ret
  exact ⟨rfl, rfl⟩

theorem spanLen_any (pb g0 n c j gj nj cj k m cm : Nat) (x : Option Addr) (w : World) (h : w.cell? ⟨pb, 3, none⟩ = some (.slice (some ⟨g0, 0, none⟩) n c)) (hj : w.cell? ⟨g0, j, none⟩ = some (.slice (some ⟨gj, 0, none⟩) nj cj)) (hjn : j < n)
    (hk : w.cell? ⟨gj, k * 2, none⟩ = some (.slice x m cm)) (hkn : k < nj) :
    Calls Try.prog 23 #[.pointer (some ⟨pb, 0, none⟩), .int .i64 (j : Int), .int .i64 (k : Int)] w fun e w' => e = .returned (.int .i64 (m : Int)) ∧ w = w' := by
  have i1 : (j : Int) < (n : Int) := by omega
  have i2 : (k : Int) < (nj : Int) := by omega
  go_enter Try.func23, Try.ntmps23
  go_wp2
  go_ret
  exact ⟨rfl, rfl⟩

theorem spanHasRates_any (pb g0 n c j gj nj cj k m cm : Nat) (x : Option Addr) (w : World) (h : w.cell? ⟨pb, 3, none⟩ = some (.slice (some ⟨g0, 0, none⟩) n c)) (hj : w.cell? ⟨g0, j, none⟩ = some (.slice (some ⟨gj, 0, none⟩) nj cj)) (hjn : j < n)
    (hk : w.cell? ⟨gj, k * 2 + 1, none⟩ = some (.slice x m cm)) (hkn : k < nj) :
    Calls Try.prog 24 #[.pointer (some ⟨pb, 0, none⟩), .int .i64 (j : Int), .int .i64 (k : Int)] w fun e w' => e = .returned (.bool x.isSome) ∧ w = w' := by
  have i1 : (j : Int) < (n : Int) := by omega
  have i2 : (k : Int) < (nj : Int) := by omega
  go_enter Try.func24, Try.ntmps24
  go_wp2
  go_ret
  exact ⟨rfl, rfl⟩

theorem spanRatesLen_any (pb g0 n c j gj nj cj k m cm : Nat) (x : Option Addr) (w : World) (h : w.cell? ⟨pb, 3, none⟩ = some (.slice (some ⟨g0, 0, none⟩) n c)) (hj : w.cell? ⟨g0, j, none⟩ = some (.slice (some ⟨gj, 0, none⟩) nj cj)) (hjn : j < n)
    (hk : w.cell? ⟨gj, k * 2 + 1, none⟩ = some (.slice x m cm)) (hkn : k < nj) :
    Calls Try.prog 25 #[.pointer (some ⟨pb, 0, none⟩), .int .i64 (j : Int), .int .i64 (k : Int)] w fun e w' => e = .returned (.int .i64 (m : Int)) ∧ w = w' := by
  have i1 : (j : Int) < (n : Int) := by omega
  have i2 : (k : Int) < (nj : Int) := by omega
  go_enter Try.func25, Try.ntmps25
  go_wp2
  go_ret
  exact ⟨rfl, rfl⟩

/-- What ZZSpanRow leaves. -/
def RowPost (w : World) (mo li ho : Int) (e : Ending) (w' : World) : Prop := e = .returned (.tuple #[.int .i32 mo, .int .u32 li, .int .i64 ho]) ∧ Below w.heap.size w w'

theorem spanRow_any (pb g0 n c j gj nj cj k m cm rb o i : Nat) (mo li ho : Int) (w : World) (h : w.cell? ⟨pb, 3, none⟩ = some (.slice (some ⟨g0, 0, none⟩) n c)) (hj : w.cell? ⟨g0, j, none⟩ = some (.slice (some ⟨gj, 0, none⟩) nj cj)) (hjn : j < n)
    (hk : w.cell? ⟨gj, k * 2, none⟩ = some (.slice (some ⟨rb, o, none⟩) m cm)) (hkn : k < nj) (r0 : w.cell? ⟨rb, o + i * 3, none⟩ = some (.int .i32 mo)) (r1 : w.cell? ⟨rb, o + i * 3 + 1, none⟩ = some (.int .u32 li)) (r2 : w.cell? ⟨rb, o + i * 3 + 2, none⟩ = some (.int .i64 ho)) (him : i < m) :
    Calls Try.prog 26 #[.pointer (some ⟨pb, 0, none⟩), .int .i64 (j : Int), .int .i64 (k : Int), .int .i64 (i : Int)] w (RowPost w mo li ho) := by
  have i1 : (j : Int) < (n : Int) := by omega
  have i2 : (k : Int) < (nj : Int) := by omega
  have i3 : (i : Int) < (m : Int) := by omega
  have lr := World.block_lt_of_cell? _ _ r0
  go_enter Try.func26, Try.ntmps26
  go_wp2
  go_quiet (fail)
  go_wp2
  go_ret3
  have bb : Below w.heap.size w (w.alloc (.cells #[.int .i32 mo, .int .u32 li, .int .i64 ho] 91)) := (Below.refl _ _).alloc (Nat.le_refl _) _
  exact ⟨rfl, bb.os, bb.tape, bb.output, bb.size, bb.block⟩

theorem spanRate_any (pb g0 n c j gj nj cj k m cm tb o i : Nat) (x : Int) (w : World) (h : w.cell? ⟨pb, 3, none⟩ = some (.slice (some ⟨g0, 0, none⟩) n c)) (hj : w.cell? ⟨g0, j, none⟩ = some (.slice (some ⟨gj, 0, none⟩) nj cj)) (hjn : j < n)
    (hk : w.cell? ⟨gj, k * 2 + 1, none⟩ = some (.slice (some ⟨tb, o, none⟩) m cm)) (hkn : k < nj) (r0 : w.cell? ⟨tb, o + i, none⟩ = some (.int .i64 x)) (him : i < m) :
    Calls Try.prog 27 #[.pointer (some ⟨pb, 0, none⟩), .int .i64 (j : Int), .int .i64 (k : Int), .int .i64 (i : Int)] w fun e w' => e = .returned (.int .i64 x) ∧ w = w' := by
  have i1 : (j : Int) < (n : Int) := by omega
  have i2 : (k : Int) < (nj : Int) := by omega
  have i3 : (i : Int) < (m : Int) := by omega
  go_enter Try.func27, Try.ntmps27
  go_wp2
  go_ret
  exact ⟨rfl, rfl⟩

end Go.Proofs.Qxb6000140a
