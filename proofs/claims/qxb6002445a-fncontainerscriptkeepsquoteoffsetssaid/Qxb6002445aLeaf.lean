/-
  THE LEAVES: contracts of the small functions on the roads of the five laws: byte tests, the bounds on lengths.
-/
import Derived.Test.Qxb6002445aRows
import Derived.WalkKit
import Derived.WalkSpells
import Derived.WalkLawsBesides
import Derived.Laws.CopyOwn
import Derived.Handy
namespace Go.Proofs.Qxb6002445a
open Go.RowKit

theorem ret_bool {a b : Bool} (h : a = b) : Ending.returned (.bool a) = .returned (.bool b) := by rw [h]
theorem ret_int {k : IntKind} {a b : Int} (h : a = b) : Ending.returned (.int k a) = .returned (.int k b) := by rw [h]

/-- A space or a tab. -/
def stB (c : Int) : Bool := c == 32 || c == 9

theorem spaceTab_any (c : Int) (w : World) :
    Calls Try.prog 26 #[.int .u8 c] w fun e w' => e = .returned (.bool (stB c)) ∧ w = w' := by
  unfold stB
  by_cases h : c = 32
  · subst h
    go_enter Try.func26, Try.ntmps26
    go_wp2
    go_ret
    exact ⟨rfl, rfl⟩
  · have h1 : (c == 32) = false := by simpa using h
    rw [h1]
    go_enter Try.func26, Try.ntmps26
    go_wp2
    go_ret
    exact ⟨rfl, rfl⟩

theorem isBlank_any (c : Int) (w : World) :
    Calls Try.prog 44 #[.int .i32 c] w fun e w' => e = .returned (.bool (stB c)) ∧ w = w' := by
  unfold stB
  by_cases h : c = 32
  · subst h
    go_enter Try.func44, Try.ntmps44
    go_wp2
    go_ret
    exact ⟨rfl, rfl⟩
  · have h1 : (c == 32) = false := by simpa using h
    rw [h1]
    go_enter Try.func44, Try.ntmps44
    go_wp2
    go_ret
    exact ⟨rfl, rfl⟩

def digB (c : Int) : Bool := decide (48 ≤ c ∧ c ≤ 57)
def uppB (c : Int) : Bool := decide (65 ≤ c ∧ c ≤ 90)
def letB (c : Int) : Bool := decide (65 ≤ c ∧ c ≤ 90 ∨ 97 ≤ c ∧ c ≤ 122)
/-- A letter or a digit. -/
def alB (c : Int) : Bool := decide (48 ≤ c ∧ c ≤ 57 ∨ 65 ≤ c ∧ c ≤ 90 ∨ 97 ≤ c ∧ c ≤ 122)
/-- A byte in lower case. -/
def lowI (c : Int) : Int := if 65 ≤ c ∧ c ≤ 90 then c + 32 else c

theorem digB_val (c : Int) : digB c = (decide (48 ≤ c) && decide (c ≤ 57)) := by unfold digB; rw [Bool.eq_iff_iff]; simp
theorem alB_eq (c : Int) : alB c = (letB c || digB c) := by unfold alB letB digB; rw [Bool.eq_iff_iff]; simp; omega

theorem isDigit_any (c : Int) (w : World) :
    Calls Try.prog 43 #[.int .u8 c] w fun e w' => e = .returned (.bool (digB c)) ∧ w = w' := by
  go_enter Try.func43, Try.ntmps43
  go_wp2
  all_goals (go_ret; exact ⟨ret_bool (by rw [Bool.eq_iff_iff]; simp [digB]; omega), rfl⟩)

theorem or32 : ∀ a : Fin 256, ((97 ≤ (a.val ||| 32) ∧ (a.val ||| 32) ≤ 122) ↔ (65 ≤ a.val ∧ a.val ≤ 90 ∨ 97 ≤ a.val ∧ a.val ≤ 122)) ∧ (65 ≤ a.val ∧ a.val ≤ 90 → (a.val ||| 32) = a.val + 32) ∧ (97 ≤ a.val ∧ a.val ≤ 122 → (a.val ||| 32) = a.val) := by
  decide +kernel

theorem bits_or32 (c : Int) (h0 : 0 ≤ c) (h1 : c < 256) : ((97 ≤ bits .or .u8 c 32 ∧ bits .or .u8 c 32 ≤ 122) ↔ (65 ≤ c ∧ c ≤ 90 ∨ 97 ≤ c ∧ c ≤ 122)) ∧ (letB c = true → bits .or .u8 c 32 = lowI c) := by
  obtain ⟨a, rfl⟩ := Int.eq_ofNat_of_zero_le h0
  have hb : bits .or .u8 (a : Int) 32 = ((a ||| 32 : Nat) : Int) := u8_or_nat a 32 (by omega) (by omega)
  have h := or32 ⟨a, by omega⟩
  simp only at h
  rw [hb]
  refine ⟨by omega, fun hl => ?_⟩
  unfold letB at hl; unfold lowI
  simp at hl
  split <;> omega

theorem isLetter_any (c : Int) (h0 : 0 ≤ c) (h1 : c < 256) (w : World) :
    Calls Try.prog 42 #[.int .u8 c] w fun e w' => e = .returned (.bool (letB c)) ∧ w = w' := by
  have hb := (bits_or32 c h0 h1).1
  have H : Hid ((97 ≤ bits .or .u8 c 32 ∧ bits .or .u8 c 32 ≤ 122) ↔ (65 ≤ c ∧ c ≤ 90 ∨ 97 ≤ c ∧ c ≤ 122)) := hb
  clear hb
  go_enter Try.func42, Try.ntmps42
  go_wp2
  all_goals (go_ret; exact ⟨ret_bool (by have := H.out; rw [Bool.eq_iff_iff]; simp [letB]; omega), rfl⟩)

theorem isAlnum_any (c : Int) (w : World) :
    Calls Try.prog 11 #[.int .u8 c] w fun e w' => e = .returned (.bool (alB c)) ∧ w = w' := by
  go_enter Try.func11, Try.ntmps11
  go_wp2
  all_goals (go_ret; exact ⟨ret_bool (by rw [Bool.eq_iff_iff]; simp [alB]; omega), rfl⟩)

theorem lowerByte_any (c : Int) (w : World) :
    Calls Try.prog 12 #[.int .u8 c] w fun e w' => e = .returned (.int .u8 (lowI c)) ∧ w = w' := by
  have e1 : 65 ≤ c → c ≤ 90 → lowI c = c + 32 := fun a b => by unfold lowI; rw [if_pos ⟨a, b⟩]
  have e2 : 90 < c → lowI c = c := fun a => by unfold lowI; rw [if_neg (by omega)]
  have e3 : c < 65 → lowI c = c := fun a => by unfold lowI; rw [if_neg (by omega)]
  have H : Hid ((65 ≤ c → c ≤ 90 → lowI c = c + 32) ∧ (90 < c → lowI c = c) ∧ (c < 65 → lowI c = c)) := ⟨e1, e2, e3⟩
  clear e1 e2 e3
  go_enter Try.func12, Try.ntmps12
  go_wp2
  all_goals (go_ret; obtain ⟨e1, e2, e3⟩ := H.out; first | exact ⟨ret_int (e1 ‹_› ‹_›).symm, rfl⟩ | exact ⟨ret_int (e2 ‹_›).symm, rfl⟩ | exact ⟨ret_int (e3 ‹_›).symm, rfl⟩)

/-! ### The bounds on lengths: 'do the lengths sum to at most 1<<20?' -/
def fitB (n : Nat) : Bool := decide (n ≤ 1048576)

theorem bytes8 (a : Option Addr) (n c : Nat) (w : World) (hn : n ≤ 9223372036854775807) :
    Calls Try.prog 8 #[.slice a n c] w fun e w' => e = .returned (.bool (fitB n)) ∧ w = w' := by
  by_cases h : n ≤ 1048576
  · have hf : fitB n = true := decide_eq_true h
    rw [hf]
    clear hf
    go_enter Try.func8, Try.ntmps8
    go_wp2
    go_ret
    exact ⟨rfl, rfl⟩
  · have hf : fitB n = false := decide_eq_false h
    rw [hf]
    clear hf
    go_enter Try.func8, Try.ntmps8
    go_wp2
    go_ret
    exact ⟨rfl, rfl⟩

theorem bytes13 (a : Option Addr) (n c : Nat) (w : World) (hn : n ≤ 9223372036854775807) :
    Calls Try.prog 13 #[.slice a n c] w fun e w' => e = .returned (.bool (fitB n)) ∧ w = w' := by
  by_cases h : n ≤ 1048576
  · have hf : fitB n = true := decide_eq_true h
    rw [hf]
    clear hf
    go_enter Try.func13, Try.ntmps13
    go_wp2
    go_ret
    exact ⟨rfl, rfl⟩
  · have hf : fitB n = false := decide_eq_false h
    rw [hf]
    clear hf
    go_enter Try.func13, Try.ntmps13
    go_wp2
    go_ret
    exact ⟨rfl, rfl⟩

theorem bytes23 (a : Option Addr) (n c : Nat) (x y : Int) (w : World) (hn : n ≤ 9223372036854775807) :
    Calls Try.prog 23 #[.slice a n c, .int .i64 x, .int .i64 y] w fun e w' => e = .returned (.bool (fitB n)) ∧ w = w' := by
  by_cases h : n ≤ 1048576
  · have hf : fitB n = true := decide_eq_true h
    rw [hf]
    clear hf
    go_enter Try.func23, Try.ntmps23
    go_wp2
    go_ret
    exact ⟨rfl, rfl⟩
  · have hf : fitB n = false := decide_eq_false h
    rw [hf]
    clear hf
    go_enter Try.func23, Try.ntmps23
    go_wp2
    go_ret
    exact ⟨rfl, rfl⟩

theorem bytes28 (a : Option Addr) (n c : Nat) (x y : Int) (w : World) (hn : n ≤ 9223372036854775807) :
    Calls Try.prog 28 #[.slice a n c, .int .i64 x, .int .i64 y] w fun e w' => e = .returned (.bool (fitB n)) ∧ w = w' := by
  by_cases h : n ≤ 1048576
  · have hf : fitB n = true := decide_eq_true h
    rw [hf]
    clear hf
    go_enter Try.func28, Try.ntmps28
    go_wp2
    go_ret
    exact ⟨rfl, rfl⟩
  · have hf : fitB n = false := decide_eq_false h
    rw [hf]
    clear hf
    go_enter Try.func28, Try.ntmps28
    go_wp2
    go_ret
    exact ⟨rfl, rfl⟩

theorem bytes30 (a : Option Addr) (n c : Nat) (x y : Int) (q : Bool) (w : World) (hn : n ≤ 9223372036854775807) :
    Calls Try.prog 30 #[.slice a n c, .int .i64 x, .int .i64 y, .bool q] w fun e w' => e = .returned (.bool (fitB n)) ∧ w = w' := by
  by_cases h : n ≤ 1048576
  · have hf : fitB n = true := decide_eq_true h
    rw [hf]
    clear hf
    go_enter Try.func30, Try.ntmps30
    go_wp2
    go_ret
    exact ⟨rfl, rfl⟩
  · have hf : fitB n = false := decide_eq_false h
    rw [hf]
    clear hf
    go_enter Try.func30, Try.ntmps30
    go_wp2
    go_ret
    exact ⟨rfl, rfl⟩

end Go.Proofs.Qxb6002445a
