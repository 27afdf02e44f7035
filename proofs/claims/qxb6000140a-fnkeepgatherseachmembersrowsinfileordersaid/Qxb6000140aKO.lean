/-
  The law on keep: how many rows are wanted, and what the statement that books a run reads.
-/
import Derived.Test.Qxb6000140aKM
namespace Go.Proofs.Qxb6000140a
open Go.RowKit

/-- What the statement that books a run reads. -/
def Seen3 (g0 m qb b o : Nat) (v1 v2 v3 : Value) (w' : World) : Prop :=
  w'.cell? ⟨g0, m, none⟩ = some v1 ∧ w'.cell? ⟨qb, 2, none⟩ = some v2 ∧ w'.cell? ⟨b, o, none⟩ = some v3
structure SeenW3 (g0 m qb b o : Nat) (v1 v2 v3 : Value) where
  w : World
  ok : Seen3 g0 m qb b o v1 v2 v3 w

theorem selV_len (A : List (ByteArray × Pair)) (s : ByteArray) : (selV A s).length ≤ A.length := by
  unfold selV
  rw [List.length_map]
  exact List.length_filter_le _ _

theorem keys_rows_len {p : KP} (h : RunsOk p p.runs.length) (pt : Nat) : ∀ k, k ≤ p.runs.length → ((keysTo p pt k).flatMap Key.rows).length = fN p k
  | 0, _ => by simp [keysTo, fN_zero]
  | k + 1, hk => by
    have ih := keys_rows_len h pt k (by omega)
    have hm := fN_mono h (i := k) hk
    rw [keysTo_succ, List.flatMap_append, List.length_append, ih]
    simp [rows_len, keyAt]
    omega

theorem part_len {p : KP} (h : RunsOk p p.runs.length) (pt r row : Nat) (hr : r ≤ p.runs.length) (hf : fN p r ≤ row) : (part p pt r row).length ≤ row := by
  unfold part
  rw [List.length_append, keys_rows_len h pt r hr]
  split
  · simp; omega
  · simp; omega

theorem all_rows_len {ps : List KP} (hd : DomK ps) (hf : FitK ps) : ∀ k, k ≤ ps.length → ((allTo ps k).flatMap Key.rows).length ≤ 65536 * k
  | 0, _ => by simp [allTo]
  | k + 1, hk => by
    have ih := all_rows_len hd hf k (by omega)
    have h1 := (hd _ (List.getElem_mem hk)).2
    have h2 := fN_le h1 (Nat.le_refl _)
    have h3 := (hf.2.2 _ (List.getElem_mem hk)).1
    rw [allTo_succ ps k hk, List.flatMap_append, List.length_append, keys_rows_len h1 k _ (Nat.le_refl _)]
    omega

theorem part_nm {p : KP} {pt r row : Nat} {g : Rf} (hr : r ≤ p.runs.length) (h : g ∈ part p pt r row) : ∃ k ∈ keysTo p pt p.runs.length, g.nm = k.nm := by
  unfold part at h
  rcases List.mem_append.1 h with h | h
  · obtain ⟨k, hk, hg⟩ := List.mem_flatMap.1 h
    refine ⟨k, ?_, rows_nm hg⟩
    simp only [keysTo, List.mem_map, List.mem_range] at hk ⊢
    obtain ⟨j, hj, e⟩ := hk
    exact ⟨j, by omega, e⟩
  · split at h
    · rename_i hl
      obtain ⟨t, _, rfl⟩ := List.mem_map.1 h
      exact ⟨keyAt p pt r, by simp only [keysTo, List.mem_map, List.mem_range]; exact ⟨r, hl, rfl⟩, rfl⟩
    · cases h

end Go.Proofs.Qxb6000140a
