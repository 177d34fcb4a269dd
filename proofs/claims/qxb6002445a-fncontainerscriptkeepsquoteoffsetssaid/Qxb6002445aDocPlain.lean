/-
  PLAIN LAWS for the document: a stack of containers, the offsets of its block quotes; and small laws on owned rows.
-/
import Derived.Test.Qxb6002445aClone
namespace Go.Proofs.Qxb6002445a
open Go.RowKit
set_option linter.unusedSimpArgs false
set_option linter.unusedVariables false

/-- The offsets of the block quotes on the stack, in increasing order. -/
def posOf (ks : List Bool) : List Nat := (List.range ks.length).filter fun i => ks.getD i false

theorem posOf_snoc (ks : List Bool) (b : Bool) : posOf (ks ++ [b]) = posOf ks ++ (if b = true then [ks.length] else []) := by
  unfold posOf
  rw [List.length_append, List.length_singleton, List.range_succ, List.filter_append]
  congr 1
  · apply List.filter_congr
    intro i hi
    have : i < ks.length := by simpa using hi
    simp [List.getD, List.getElem?_append_left this]
  · cases b <;> simp [List.getD]

/-- What is cut off the stack is a tail of the offsets, each at 'd' or beyond. -/
theorem posOf_take (ks : List Bool) (d : Nat) : ∃ R, posOf ks = posOf (ks.take d) ++ R ∧ (∀ q ∈ posOf (ks.take d), q < d) ∧ (∀ q ∈ R, d ≤ q) := by
  refine ⟨(List.range' (min d ks.length) (ks.length - min d ks.length)).filter (fun i => ks.getD i false), ?_, ?_, ?_⟩
  · unfold posOf
    have e : List.range ks.length = List.range (min d ks.length) ++ List.range' (min d ks.length) (ks.length - min d ks.length) := by
      have h := List.range'_append_1 (s := 0) (m := min d ks.length) (n := ks.length - min d ks.length)
      rw [Nat.zero_add] at h
      rw [List.range_eq_range', List.range_eq_range', h]
      congr 1
      omega
    rw [e, List.filter_append, List.length_take]
    congr 1
    apply List.filter_congr
    intro i hi
    have : i < min d ks.length := by simpa using hi
    simp [List.getD, List.getElem?_take, show i < d by omega]
  · intro q hq
    unfold posOf at hq
    rw [List.mem_filter, List.mem_range, List.length_take] at hq
    omega
  · intro q hq
    rw [List.mem_filter, List.mem_range'_1] at hq
    have := hq.2
    rcases Nat.lt_or_ge d ks.length with h | h
    · omega
    · exfalso; omega

theorem posOf_length (ks : List Bool) : (posOf ks).length ≤ ks.length := by
  unfold posOf
  exact Nat.le_trans (List.length_filter_le _ _) (by simp)

theorem posOf_lt (ks : List Bool) : ∀ q ∈ posOf ks, q < ks.length := by
  intro q hq
  unfold posOf at hq
  rw [List.mem_filter, List.mem_range] at hq
  exact hq.1

end Go.Proofs.Qxb6002445a
