/-
  PLAIN LAWS for tagName: lists of bytes, no Go in sight.
-/
import Derived.Test.Qxb6002445aLeaf
namespace Go.Proofs.Qxb6002445a
open Go.RowKit
set_option linter.unusedSimpArgs false
set_option linter.unusedVariables false

/-- How long the leading run of letters and digits is. -/
def runN (bs : List Int) : Nat := (bs.takeWhile alB).length

/-- The array 'lower' with its first k bytes laid. -/
def lowRow (bs : List Int) (k : Nat) : List Value := ((bs.take k).map lowI ++ List.replicate (16 - k) 0).map (Value.int .u8)

theorem runN_all : ∀ (bs : List Int) (k : Nat), (∀ j, j < k → alB (bs.getD j 0) = true) → k ≤ bs.length → k ≤ runN bs
  | [], k, _, h => by simp at h; omega
  | b :: bs, 0, _, _ => Nat.zero_le _
  | b :: bs, k + 1, ha, h => by
    have h0 : alB b = true := by simpa using ha 0 (by omega)
    have ih := runN_all bs k (fun j hj => by simpa using ha (j + 1) (by omega)) (by simpa using h)
    unfold runN at ih ⊢
    simp [List.takeWhile_cons, h0]
    exact ih

theorem runN_le (bs : List Int) : runN bs ≤ bs.length := by
  unfold runN
  exact (List.takeWhile_prefix alB).length_le

theorem runN_at : ∀ (bs : List Int) (j : Nat), j < runN bs → alB (bs.getD j 0) = true
  | [], j, h => by simp [runN] at h
  | b :: bs, j, h => by
    unfold runN at h
    by_cases h0 : alB b = true
    · simp [List.takeWhile_cons, h0] at h
      cases j with
      | zero => simpa using h0
      | succ j => simpa using runN_at bs j (by unfold runN; omega)
    · simp [List.takeWhile_cons, h0] at h

theorem runN_stop (bs : List Int) (k : Nat) (ha : ∀ j, j < k → alB (bs.getD j 0) = true) (hk : k ≤ bs.length) (hs : k < bs.length → alB (bs.getD k 0) = false) : runN bs = k := by
  have h1 := runN_all bs k ha hk
  have h2 := runN_le bs
  rcases Nat.lt_or_ge k (runN bs) with h | h
  · have := runN_at bs k h
    rw [hs (by omega)] at this
    cases this
  · omega

theorem lowRow_length (bs : List Int) (k : Nat) (h : k ≤ 16) (hk : k ≤ bs.length) : (lowRow bs k).length = 16 := by
  simp [lowRow]; omega

theorem lowRow_at (bs : List Int) (k : Nat) (h : k < 16) (hk : k ≤ bs.length) : (lowRow bs k)[k]? = some (.int .u8 0) := by
  have hlen : (bs.take k).length = k := by simp; omega
  unfold lowRow
  rw [List.getElem?_map, List.getElem?_append_right (by simp; omega)]
  have e : k - ((bs.take k).map lowI).length = 0 := by simp; omega
  rw [e, List.getElem?_replicate, if_pos (by omega)]
  rfl

theorem lowRow_get (bs : List Int) (k j : Nat) (hj : j < k) (hk : k ≤ bs.length) : (lowRow bs k)[j]? = some (.int .u8 (((bs.take k).map lowI).getD j 0)) := by
  have hl : j < ((bs.take k).map lowI).length := by simp; omega
  unfold lowRow
  rw [List.getElem?_map, List.getElem?_append_left hl, List.getD, List.getElem?_eq_getElem hl]
  rfl

theorem lowRow_set (bs : List Int) (k : Nat) (h : k < 16) (hk : k < bs.length) : (lowRow bs k).set k (.int .u8 (lowI (bs.getD k 0))) = lowRow bs (k + 1) := by
  apply List.ext_getElem?
  intro i
  have hlen : (bs.take k).length = k := by simp; omega
  rw [List.getElem?_set]
  rw [lowRow_length bs k (by omega) (by omega)]
  by_cases hik : k = i
  · subst hik
    rw [if_pos rfl, if_pos h, lowRow_get bs (k + 1) k (by omega) (by omega)]
    simp [List.getD, List.getElem?_take, List.getElem?_eq_getElem hk]
  · rw [if_neg hik]
    rcases Nat.lt_or_ge i k with hi | hi
    · rw [lowRow_get bs k i hi (by omega), lowRow_get bs (k + 1) i (by omega) (by omega)]
      simp [List.getElem?_take, hi, Nat.lt_succ_of_lt hi]
    · unfold lowRow
      rw [List.getElem?_map, List.getElem?_map, List.getElem?_append_right (by simp; omega), List.getElem?_append_right (by simp; omega)]
      simp [Nat.min_eq_left (Nat.le_of_lt hk), Nat.min_eq_left (Nat.succ_le_of_lt hk), List.getElem?_replicate]
      by_cases h1 : i - k < 16 - k
      · rw [if_pos h1, if_pos (by omega)]
      · rw [if_neg h1, if_neg (by omega)]

end Go.Proofs.Qxb6002445a
