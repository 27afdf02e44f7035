/-
  What a keySet is; ZZNewKeySet; (*keySet).add.
-/
import Derived.Test.Qxb6000994aB
namespace Go.Proofs.Qxb6000994a
open Go.RowKit

/-! names in the order in which they first appear -/
open Classical in
noncomputable def addName (N : List ByteArray) (s : ByteArray) : List ByteArray := if s ∈ N then N else N ++ [s]
noncomputable def firsts (l : List ByteArray) : List ByteArray := l.foldl addName []
theorem firsts_snoc (l : List ByteArray) (s : ByteArray) : firsts (l ++ [s]) = addName (firsts l) s := by simp [firsts]
theorem addName_in {N : List ByteArray} {s : ByteArray} (h : s ∈ N) : addName N s = N := by simp [addName, h]
theorem addName_out {N : List ByteArray} {s : ByteArray} (h : s ∉ N) : addName N s = N ++ [s] := by simp [addName, h]
theorem addName_mem {N : List ByteArray} {s t : ByteArray} : t ∈ addName N s ↔ t ∈ N ∨ t = s := by
  unfold addName; split
  · rename_i h
    exact ⟨.inl, fun h' => h'.elim id (fun e => e ▸ h)⟩
  · simp
theorem firsts_mem (l : List ByteArray) (t : ByteArray) : t ∈ firsts l ↔ t ∈ l := by
  have key : ∀ (l N : List ByteArray), t ∈ l.foldl addName N ↔ t ∈ N ∨ t ∈ l := by
    intro l
    induction l with
    | nil => intro N; simp
    | cons s l ih => intro N; rw [List.foldl_cons, ih, addName_mem]; simp [or_assoc]
  simpa [firsts] using key l []

/-- The ten cells of a keySet. -/
def fewCs (L : List ByteArray) (n : Int) (m : Option Nat) : Array Value := (L.map Value.string ++ [Value.int .i64 n, Value.map m]).toArray

section
variable {L : List ByteArray} {n : Int} {m : Option Nat}
theorem fewCs_few (hl : L.length = 8) (i : Nat) (hi : i < 8) : (fewCs L n m)[i]? = some (.string (L[i]'(by omega))) := by
  simp [fewCs, List.getElem?_append, hl, hi]
theorem fewCs_n (hl : L.length = 8) : (fewCs L n m)[8]? = some (.int .i64 n) := by simp [fewCs, hl]
theorem fewCs_m (hl : L.length = 8) : (fewCs L n m)[9]? = some (.map m) := by simp [fewCs, hl]
theorem fewCs_set (hl : L.length = 8) (i : Nat) (hi : i < 8) (s : ByteArray) : (fewCs L n m).setIfInBounds i (.string s) = fewCs (L.set i s) n m := by
  simp [fewCs, hl, hi, List.map_set]
theorem fewCs_setn (hl : L.length = 8) (k : Int) : (fewCs L n m).setIfInBounds 8 (.int .i64 k) = fewCs L k m := by
  simp [fewCs, hl]
theorem fewCs_setm (hl : L.length = 8) (k : Option Nat) : (fewCs L n m).setIfInBounds 9 (.map k) = fewCs L n k := by
  simp [fewCs, hl]
end

def tru (ks : List ByteArray) : List (ByteArray × Value) := ks.map fun s => (s, .bool true)
theorem lk_tru_in {ks : List ByteArray} {s : ByteArray} (h : s ∈ ks) : lk (tru ks) s = some (.bool true) := by
  induction ks with
  | nil => simp at h
  | cons t ks ih =>
    by_cases e : t = s
    · simp [lk, tru, e]
    · have := ih (by simpa [Ne.symm (a := t) (b := s) e] using h)
      simpa [lk, tru, e] using this
theorem lk_tru_out {ks : List ByteArray} {s : ByteArray} (h : s ∉ ks) : lk (tru ks) s = none := by
  induction ks with
  | nil => rfl
  | cons t ks ih =>
    have e : ¬ t = s := fun e => h (by simp [e])
    have := ih (fun h' => h (by simp [h']))
    simpa [lk, tru, e] using this
theorem tru_snoc (ks : List ByteArray) (s : ByteArray) : tru (ks ++ [s]) = tru ks ++ [(s, .bool true)] := by simp [tru]

/-- A keySet that holds the keys ks. -/
def KSet (w : World) (base pb : Nat) (ks : List ByteArray) : Prop :=
  base ≤ pb ∧ ks.Nodup ∧ ((∃ L : List ByteArray, L.length = 8 ∧ ks.length ≤ 8 ∧ L.take ks.length = ks ∧ Box w pb (fewCs L (ks.length : Int) none) 32) ∨
    (∃ (L : List ByteArray) (n : Int) (mb : Nat), L.length = 8 ∧ Box w pb (fewCs L n (some mb)) 32 ∧ MapIs w mb (tru ks) ∧ mb ≠ pb ∧ base ≤ mb))

theorem idx29 (s0 s1 s2 s3 s4 s5 s6 s7 : ByteArray) (w : World) (i : Nat) (hi : i < 8) :
    (Instr.index 29 (.agg #[.string s0, .string s1, .string s2, .string s3, .string s4, .string s5, .string s6, .string s7]) (.int .i64 (i : Int))).run Try.prog w = .ok (.string ([s0, s1, s2, s3, s4, s5, s6, s7][i]'hi)) w := by
  have h : i = 0 ∨ i = 1 ∨ i = 2 ∨ i = 3 ∨ i = 4 ∨ i = 5 ∨ i = 6 ∨ i = 7 := by omega
  rcases h with rfl | rfl | rfl | rfl | rfl | rfl | rfl | rfl <;> (show Sem.run _ _ _ = _; kernel_rfl)

theorem zero4 (w : World) : (zeroValue 4).run Try.prog w = .ok (.bool false) w := by kernel_rfl

def NewPost (w : World) (e : Ending) (w' : World) : Prop := ∃ pb, e = .returned (.pointer (some ⟨pb, 0, none⟩)) ∧ KSet w' w.heap.size pb [] ∧ Below w.heap.size w w'

theorem new_any (w : World) : Calls Try.prog 8 #[] w (NewPost w) := by
  go_enter Try.func8, Try.ntmps8
  go_wp2
  go_ret
  refine ⟨_, rfl, ⟨Nat.le_refl _, List.nodup_nil, .inl ⟨List.replicate 8 ByteArray.empty, by simp, by simp, by simp, ?_⟩⟩, ?_⟩
  · simp [fewCs]
    exact box_new w _ 32
  · exact (Below.refl _ _).alloc (Nat.le_refl _) _

end Go.Proofs.Qxb6000994a
