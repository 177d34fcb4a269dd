/-
  PLAIN LAWS for the cursor: columns and blanks of a line of bytes. No Go in sight.
-/
import Derived.Test.Qxb6002445aLeaf
namespace Go.Proofs.Qxb6002445a
open Go.RowKit
set_option linter.unusedSimpArgs false
set_option linter.unusedVariables false

/-- One byte on: a tab runs to the next multiple of four, every other byte takes one column. -/
def stepC (c : Int) (col : Nat) : Nat := if c = 9 then (col / 4 + 1) * 4 else col + 1

theorem stepC_tab (col : Nat) : stepC 9 col = col + (4 - col % 4) := by unfold stepC; rw [if_pos rfl]; omega
theorem stepC_other (c : Int) (col : Nat) (h : ¬ c = 9) : stepC c col = col + 1 := by unfold stepC; rw [if_neg h]
theorem stepC_gt (c : Int) (col : Nat) : col + 1 ≤ stepC c col ∧ stepC c col ≤ col + 4 := by unfold stepC; split <;> omega

/-- The column of offset p. -/
def colN (ls : List Int) : Nat → Nat
  | 0 => 0
  | p + 1 => stepC (ls.getD p 0) (colN ls p)

theorem colN_succ (ls : List Int) (p : Nat) : colN ls (p + 1) = stepC (ls.getD p 0) (colN ls p) := rfl
theorem colN_le (ls : List Int) : ∀ p, colN ls p ≤ 4 * p
  | 0 => Nat.le_refl _
  | p + 1 => by
    have := colN_le ls p
    have := (stepC_gt (ls.getD p 0) (colN ls p)).2
    rw [colN_succ]; omega
theorem colN_mono (ls : List Int) (p : Nat) : ∀ q, p ≤ q → colN ls p ≤ colN ls q
  | 0, h => by have : p = 0 := by omega
               rw [this]; exact Nat.le_refl _
  | q + 1, h => by
    rcases Nat.lt_or_ge p (q + 1) with h' | h'
    · have := colN_mono ls p q (by omega)
      have := (stepC_gt (ls.getD q 0) (colN ls q)).1
      rw [colN_succ]; omega
    · have : p = q + 1 := by omega
      rw [this]; exact Nat.le_refl _

/-- The first offset from p on that is no space or tab. -/
def nextN (ls : List Int) (p : Nat) : Nat := p + ((ls.drop p).takeWhile stB).length

theorem nextN_ge (ls : List Int) (p : Nat) : p ≤ nextN ls p := Nat.le_add_right _ _
theorem nextN_le (ls : List Int) (p : Nat) (h : p ≤ ls.length) : nextN ls p ≤ ls.length := by
  unfold nextN
  have := (List.takeWhile_prefix (p := stB) (l := ls.drop p)).length_le
  simp at this
  omega

theorem tw_at : ∀ (l : List Int) (j : Nat), j < (l.takeWhile stB).length → stB (l.getD j 0) = true
  | [], j, h => by simp at h
  | b :: l, j, h => by
    by_cases h0 : stB b = true
    · simp [List.takeWhile_cons, h0] at h
      cases j with
      | zero => simpa using h0
      | succ j => simpa using tw_at l j (by omega)
    · simp [List.takeWhile_cons, h0] at h

theorem tw_stop : ∀ (l : List Int), (l.takeWhile stB).length < l.length → stB (l.getD (l.takeWhile stB).length 0) = false
  | [], h => by simp at h
  | b :: l, h => by
    by_cases h0 : stB b = true
    · simp [List.takeWhile_cons, h0] at h ⊢
      simpa using tw_stop l h
    · simp [List.takeWhile_cons, h0]

theorem getD_drop (ls : List Int) (p j : Nat) : (ls.drop p).getD j 0 = ls.getD (p + j) 0 := by simp [List.getD, List.getElem?_drop]

theorem nextN_at (ls : List Int) (p i : Nat) (h1 : p ≤ i) (h2 : i < nextN ls p) : stB (ls.getD i 0) = true := by
  unfold nextN at h2
  have := tw_at (ls.drop p) (i - p) (by omega)
  rw [getD_drop] at this
  have e : p + (i - p) = i := by omega
  rwa [e] at this

theorem nextN_stop (ls : List Int) (p : Nat) (hp : p ≤ ls.length) (h : nextN ls p < ls.length) : stB (ls.getD (nextN ls p) 0) = false := by
  unfold nextN at h ⊢
  have := tw_stop (ls.drop p) (by simp; omega)
  rwa [getD_drop] at this

/-- Whatever stands before the first non-blank has the same first non-blank. -/
theorem nextN_eq (ls : List Int) (p q : Nat) (h1 : p ≤ q) (hb : ∀ i, p ≤ i → i < q → stB (ls.getD i 0) = true) (hq : q ≤ ls.length) (hs : q < ls.length → stB (ls.getD q 0) = false) : nextN ls p = q := by
  have g1 := nextN_ge ls p
  have g2 := nextN_le ls p (by omega)
  rcases Nat.lt_trichotomy (nextN ls p) q with h | h | h
  · have e1 := nextN_stop ls p (by omega) (by omega)
    have e2 := hb _ g1 h
    rw [e1] at e2; cases e2
  · exact h
  · have e1 := nextN_at ls p q h1 h
    rw [hs (by omega)] at e1; cases e1

theorem nextN_from (ls : List Int) (p q : Nat) (h1 : p ≤ q) (h2 : q ≤ nextN ls p) (hp : p ≤ ls.length) : nextN ls q = nextN ls p := by
  have g2 := nextN_le ls p hp
  exact nextN_eq ls q (nextN ls p) h2 (fun i a b => nextN_at ls p i (by omega) b) g2 (fun h => nextN_stop ls p hp h)

end Go.Proofs.Qxb6002445a
