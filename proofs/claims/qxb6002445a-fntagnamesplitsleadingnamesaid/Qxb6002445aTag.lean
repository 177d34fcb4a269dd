/-
  tagName, ZZTagName.
-/
import Derived.Test.Qxb6002445aClone
import Derived.Test.Qxb6002445aTagPlain
import Derived.Deep.LoopGhost
import Derived.Deep.QuietTactic
import Derived.BigQuiet
import Derived.Laws.BytesArg
import Derived.Laws.IdiomStrings
namespace Go.Proofs.Qxb6002445a
open Go.RowKit
set_option linter.unusedSimpArgs false
set_option linter.unusedVariables false

def Cells8 (w : World) (B off : Nat) (bs : List Int) : Prop := ∀ i, i < bs.length → w.cell? ⟨B, off + i, none⟩ = some (.int .u8 (bs.getD i 0))
def Bytes (bs : List Int) : Prop := ∀ i, 0 ≤ bs.getD i 0 ∧ bs.getD i 0 < 256

def TagPost (B off n : Nat) (bs : List Int) (w : World) (e : Ending) (w' : World) : Prop :=
  Below w.heap.size w w' ∧ ((16 < runN bs ∧ e = .returned (.tuple #[.string ⟨#[]⟩, .slice none 0 0])) ∨
    (runN bs ≤ 16 ∧ ∃ ad cp, e = .returned (.tuple #[.string (strOfNums ((bs.map lowI).take (runN bs))), .slice ad (n - runN bs) cp]) ∧ (runN bs < n → ad = some ⟨B, off + runN bs, none⟩)))

/-- What holds at the head of round k. -/
structure TagRel (w : World) (bs : List Int) (k : Nat) (wr : World) : Prop where
  al : ∀ j, j < k → alB (bs.getD j 0) = true
  bel : Below w.heap.size w wr
  sz : wr.heap.size = w.heap.size + 1
  blk : wr.heap[w.heap.size]? = some (.cells (lowRow bs k).toArray 80 (0, 0))

theorem TagRel.next {w wr w2 : World} {bs : List Int} {k : Nat} (h : TagRel w bs k wr) (hk : k < 16) (hl : k < bs.length) (ha : alB (bs.getD k 0) = true)
    (b2 : Below w.heap.size w w2) (s2 : w2.heap.size = wr.heap.size) (e2 : w2.heap[w.heap.size]? = some (.cells ((lowRow bs k).toArray.setIfInBounds k (.int .u8 (lowI (bs.getD k 0)))) 80 (0, 0))) : TagRel w bs (k + 1) w2 := by
  refine ⟨fun j hj => ?_, b2, by rw [s2, h.sz], ?_⟩
  · rcases Nat.lt_or_ge j k with h' | h'
    · exact h.al j h'
    · have : j = k := by omega
      rw [this]; exact ha
  · rw [e2, ← lowRow_set bs k hk hl]
    simp

theorem TagRel.two {w wr : World} {bs : List Int} {k : Nat} {ch x : Int} (h : TagRel w bs k wr) (hk : k < 16) (hl : k < bs.length) (hch : ch = bs.getD k 0) (ha : alB ch = true) (hx : x = lowI ch) :
    TagRel w bs (k + 1) ((wr.setCell ⟨w.heap.size, k, none⟩ (.int .u8 ch)).setCell ⟨w.heap.size, k, none⟩ (.int .u8 x)) := by
  subst hch; subst hx
  refine h.next hk hl ha ((h.bel.setCell (Nat.le_refl _) _).setCell (Nat.le_refl _) _) (by simp) ?_
  rw [heap_setCell_same _ _ _ _ 80 _ (heap_setCell_same _ _ _ _ 80 _ h.blk), Array.setIfInBounds_setIfInBounds]

theorem TagRel.one {w wr : World} {bs : List Int} {k : Nat} {ch : Int} (h : TagRel w bs k wr) (hk : k < 16) (hl : k < bs.length) (hch : ch = bs.getD k 0) (ha : alB ch = true) (hx : lowI ch = ch) :
    TagRel w bs (k + 1) (wr.setCell ⟨w.heap.size, k, none⟩ (.int .u8 ch)) := by
  subst hch
  refine h.next hk hl ha (h.bel.setCell (Nat.le_refl _) _) (by simp) ?_
  rw [heap_setCell_same _ _ _ _ 80 _ h.blk, hx]

theorem lowI_digit (c : Int) (h : digB c = true) : lowI c = c := by
  simp [digB] at h
  unfold lowI
  rw [if_neg (by omega)]

theorem Try.arr80 : Try.prog.arrayLen 80 = 16 := by kernel_rfl
theorem slice80 (L k : Nat) (hk : k ≤ 16) (W : World) : (Instr.sliceAt 80 (.pointer (some ⟨L, 0, none⟩)) none (some (.int .i64 k)) none).run Try.prog W = .ok (.slice (some ⟨L, 0, none⟩) k 16) W := by
  have h : Try.prog.underlying 80 = some (.array (Try.prog.arrayLen 80) (Try.prog.elem 80)) := by kernel_rfl
  have h2 : (sizeOf (Try.prog.elem 80)).run Try.prog W = .ok 1 W := by kernel_rfl
  have := run_sliceAt_array_h (P := Try.prog) W 80 ⟨L, 0, none⟩ h .i64 k (by omega) (by rw [Try.arr80]; omega)
  rw [Try.arr80, h2] at this
  simpa [Result.andThen, slicedAt, Addr.add] using this

theorem TagRel.conv {w wr : World} {bs : List Int} {k : Nat} (h : TagRel w bs k wr) (hl : k ≤ bs.length) :
    (convert 22 9 (.slice (some ⟨w.heap.size, 0, none⟩) k 16)).run Try.prog wr.drew = .ok (.string (strOfNums ((bs.map lowI).take k))) wr.drew := by
  refine run_convert_bytes_arg (P := Try.prog) wr.drew 22 5 Try.underlying22 Try.underlying5 w.heap.size 0 k 16 ((bs.map lowI).take k) (by simp; omega) ?_ 9 Try.underlying9
  intro i hi
  have hg : wr.drew.heap[w.heap.size]? = some (.cells (lowRow bs k).toArray 80 (0, 0)) := h.blk
  unfold World.cell?
  rw [hg]
  rw [← List.map_take]
  simpa using lowRow_get bs k i hi hl

theorem tag_done {B off n : Nat} {bs : List Int} {w w2 : World} {k cp : Nat} {ad : Option Addr} (hr : runN bs = k) (h16 : k ≤ 16) (hb : Below w.heap.size w w2) (ha : k < n → ad = some ⟨B, off + k, none⟩) :
    TagPost B off n bs w (.returned (.tuple #[.string (strOfNums ((bs.map lowI).take k)), .slice ad (n - k) cp])) w2 := by
  subst hr
  exact ⟨hb, .inr ⟨h16, ad, cp, rfl, ha⟩⟩

theorem tag_long {B off n : Nat} {bs : List Int} {w wr : World} {ch : Int} (R : TagRel w bs 16 wr) (hl : 16 < bs.length) (hch : ch = bs.getD 16 0) (ha : alB ch = true) :
    TagPost B off n bs w (.returned (.tuple #[.string ⟨#[]⟩, .slice none 0 0])) wr := by
  subst hch
  refine ⟨R.bel, .inl ⟨?_, rfl⟩⟩
  have := runN_all bs 17 (fun j hj => by
    rcases Nat.lt_or_ge j 16 with h' | h'
    · exact R.al j h'
    · have : j = 16 := by omega
      rw [this]; exact ha) hl
  omega

set_option maxHeartbeats 400000 in
theorem tagName_any (B off n c : Nat) (bs : List Int) (w : World) (hn : n ≤ 65536) (hnc : n ≤ c) (hl : bs.length = n) (hb : Bytes bs) (hc : Cells8 w B off bs) (hB : B < w.heap.size) :
    Calls Try.prog 32 #[.slice (some ⟨B, off, none⟩) n c] w fun e w' => TagPost B off n bs w e w' := by
  have HB : Hid (Bytes bs ∧ Cells8 w B off bs ∧ bs.length = n) := ⟨hb, hc, hl⟩
  clear hb hc hl
  go_enter Try.func32, Try.ntmps32
  go_wp2
  go_loopg [5] (n + 1) (fun g i wr => ∃ k : Nat, g = n + 1 - k ∧ k ≤ n ∧ k ≤ 16 ∧ i = .int .i64 k ∧ TagRel w bs k wr)
  case atStart =>
    exact ⟨0, rfl, Nat.zero_le _, Nat.zero_le _, rfl, fun j h => absurd h (by omega), (Below.refl _ _).alloc (Nat.le_refl _) _, by simp, heap_alloc_new _ _⟩
  case round =>
    obtain ⟨k, rfl, hk, hk16, rfl, R⟩ := hrel
    obtain ⟨hb, hc, hl⟩ := HB.out
    have hbB := hb k
    have hcB : k < n → wr.cell? ⟨B, off + k, none⟩ = some (.int .u8 (bs.getD k 0)) := fun h => (R.bel.cell (p := ⟨B, off + k, none⟩) hB).trans (hc k (by omega))
    have hcL : k < 16 → wr.cell? ⟨w.heap.size, k, none⟩ = some (.int .u8 0) := by
      intro h
      have := lowRow_at bs k h (by omega)
      simpa [World.cell?, R.blk] using this
    have hfL : ∀ i, wr.frozen? ⟨w.heap.size, i, none⟩ = false := fun i => by simp [World.frozen?, R.blk]
    obtain ⟨ch, hch⟩ : ∃ ch, ch = bs.getD k 0 := ⟨_, rfl⟩
    rw [← hch] at hbB hcB
    have HS : Hid (ch = bs.getD k 0 ∧ bs.length = n) := ⟨hch, hl⟩
    clear hch hb hc hl
    obtain ⟨h0, h1⟩ := hbB
    by_cases hlt : k < n
    · have hcB := hcB hlt
      by_cases hal : alB ch = true
      · by_cases h16 : k = 16
        · subst h16
          clear hcL
          by_cases hd : letB ch = true
          · go_wp2_with (first | (go_at_call 42; refine (isLetter_any _ h0 h1 _).mono ?_; rintro e w' ⟨rfl, rfl⟩) | (go_at_call 43; refine (isDigit_any _ _).mono ?_; rintro e w' ⟨rfl, rfl⟩))
            go_ret2
            obtain ⟨hch, hl⟩ := HS.out
            exact tag_long R (by omega) hch hal
          · have hd : letB ch = false := by simpa using hd
            have hd2 : digB ch = true := by rw [alB_eq, hd] at hal; simpa using hal
            go_wp2_with (first | (go_at_call 42; refine (isLetter_any _ h0 h1 _).mono ?_; rintro e w' ⟨rfl, rfl⟩) | (go_at_call 43; refine (isDigit_any _ _).mono ?_; rintro e w' ⟨rfl, rfl⟩))
            go_ret2
            obtain ⟨hch, hl⟩ := HS.out
            exact tag_long R (by omega) hch hal
        · have hcL := hcL (by omega)
          by_cases hd : letB ch = true
          · go_wp2_with (first | (go_at_call 42; refine (isLetter_any _ h0 h1 _).mono ?_; rintro e w' ⟨rfl, rfl⟩) | (go_at_call 43; refine (isDigit_any _ _).mono ?_; rintro e w' ⟨rfl, rfl⟩))
            go_roundg (n + 1 - (k + 1))
            case measure => omega
            case rel =>
              obtain ⟨hch, hl⟩ := HS.out
              exact ⟨k + 1, rfl, by omega, by omega, by go_num, R.two (by omega) (by omega) hch hal ((bits_or32 ch h0 h1).2 hd)⟩
          · have hd : letB ch = false := by simpa using hd
            have hd2 : digB ch = true := by rw [alB_eq, hd] at hal; simpa using hal
            go_wp2_with (first | (go_at_call 42; refine (isLetter_any _ h0 h1 _).mono ?_; rintro e w' ⟨rfl, rfl⟩) | (go_at_call 43; refine (isDigit_any _ _).mono ?_; rintro e w' ⟨rfl, rfl⟩))
            go_roundg (n + 1 - (k + 1))
            case measure => omega
            case rel =>
              obtain ⟨hch, hl⟩ := HS.out
              exact ⟨k + 1, rfl, by omega, by omega, by go_num, R.one (by omega) (by omega) hch hal (lowI_digit ch hd2)⟩
      · have hal : alB ch = false := by simpa using hal
        have hd : letB ch = false := by rw [alB_eq] at hal; simp at hal; exact hal.1
        have hd2 : digB ch = false := by rw [alB_eq] at hal; simp at hal; exact hal.2
        have hcv := R.conv (by have := HS.out.2; omega)
        have hsl := slice80 w.heap.size k hk16
        clear hcL hfL
        go_wp2_with (first | (go_at_call 42; refine (isLetter_any _ h0 h1 _).mono ?_; rintro e w' ⟨rfl, rfl⟩) | (go_at_call 43; refine (isDigit_any _ _).mono ?_; rintro e w' ⟨rfl, rfl⟩))
        go_region
        all_goals (try go_wp2)
        all_goals go_ret2
        all_goals
          obtain ⟨hch, hl⟩ := HS.out
          refine tag_done (runN_stop bs k R.al (by omega) (fun _ => by rw [← hch]; exact hal)) hk16 R.bel.drew ?_
          intro _; rfl
    · have hcv := R.conv (by have := HS.out.2; omega)
      have hsl := slice80 w.heap.size k hk16
      clear hcL hfL hcB
      go_wp2
      go_region
      all_goals (try go_wp2)
      all_goals go_ret2
      all_goals
        obtain ⟨hch, hl⟩ := HS.out
        refine tag_done (runN_stop bs k R.al (by omega) (fun h => absurd h (by omega))) hk16 R.bel.drew ?_
        intro h; omega

theorem zzTagName_any (B off n c : Nat) (bs : List Int) (w : World) (hn : n ≤ 65536) (hnc : n ≤ c) (hl : bs.length = n) (hb : Bytes bs) (hc : Cells8 w B off bs) (hB : B < w.heap.size) :
    Calls Try.prog 10 #[.slice (some ⟨B, off, none⟩) n c] w fun e w' => TagPost B off n bs w e w' := by
  have H : Hid (Calls Try.prog 32 #[.slice (some ⟨B, off, none⟩) n c] w fun e w' => TagPost B off n bs w e w') := tagName_any B off n c bs w hn hnc hl hb hc hB
  clear hb hc hl
  go_enter Try.func10, Try.ntmps10
  go_wp2_with fail
  refine H.out.mono ?_
  rintro e w' ⟨hb, h | h⟩
  · obtain ⟨h1, rfl⟩ := h
    go_wp2
    go_ret2
    exact ⟨hb, .inl ⟨h1, rfl⟩⟩
  · obtain ⟨h1, ad, cp, rfl, h2⟩ := h
    have H2 : Hid (runN bs < n → ad = some ⟨B, off + runN bs, none⟩) := h2
    clear h2
    go_wp2
    go_ret2
    exact ⟨hb, .inr ⟨h1, ad, cp, rfl, H2.out⟩⟩

theorem tagName_nil (w : World) : Calls Try.prog 32 #[.slice none 0 0] w fun e w' => e = .returned (.tuple #[.string ⟨#[]⟩, .slice none 0 0]) ∧ Below w.heap.size w w' := by
  have hsl := slice80 w.heap.size 0 (by omega)
  have hcv : ∀ W, (convert 22 9 (.slice (some ⟨w.heap.size, 0, none⟩) 0 16)).run Try.prog W = .ok (.string ⟨#[]⟩) W := fun W =>
    run_convert_bytes_arg (P := Try.prog) W 22 5 Try.underlying22 Try.underlying5 w.heap.size 0 0 16 [] rfl (fun i h => absurd h (by omega)) 9 Try.underlying9
  go_enter Try.func32, Try.ntmps32
  go_wp2
  refine wp_loop_rounds 1 ?_
  rw [rounds_succ]
  go_wp2
  go_region
  all_goals (try go_wp2)
  all_goals go_ret2
  all_goals exact ⟨rfl, ((Below.refl _ _).alloc (Nat.le_refl _) _).drew⟩

theorem zzTagName_nil (w : World) : Calls Try.prog 10 #[.slice none 0 0] w fun e w' => e = .returned (.tuple #[.string ⟨#[]⟩, .slice none 0 0]) ∧ Below w.heap.size w w' := by
  go_enter Try.func10, Try.ntmps10
  go_wp2_with fail
  refine (tagName_nil w).mono ?_
  rintro e w' ⟨rfl, hb⟩
  go_wp2
  go_ret2
  exact ⟨rfl, hb⟩

end Go.Proofs.Qxb6002445a
