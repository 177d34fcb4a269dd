/-
  THE CURSOR: passQuoteMarker, continues.
-/
import Derived.Test.Qxb6002445aPad
namespace Go.Proofs.Qxb6002445a
open Go.RowKit
set_option linter.unusedSimpArgs false
set_option linter.unusedVariables false

/-- Where passQuoteMarker leaves the cursor, x the offset of the mark. -/
def QuoteIs (ls : List Int) (x p C : Nat) : Prop :=
  (¬ (x + 1 < ls.length ∧ stB (ls.getD (x + 1) 0) = true) ∧ p = x + 1 ∧ C = colN ls (x + 1)) ∨ (x + 1 < ls.length ∧ stB (ls.getD (x + 1) 0) = true ∧ C = colN ls (x + 1) + 1 ∧ Fits ls p C)

set_option maxRecDepth 8000 in
set_option maxHeartbeats 800000 in
theorem passQuote_any (lo b : Nat) (k : Cur) (ls : List Int) (w : World) (hk : Lies w b k) (hL : Line w lo k.a ls) (hlo : lo ≤ b) (hn : k.n = ls.length) (h16 : ls.length ≤ 65536) (hby : ByteL ls) (hc : k.col = colN ls k.pos)
    (hp : k.pos ≤ k.next) (hx : k.next < ls.length) :
    Calls Try.prog 46 #[.pointer (some ⟨b, 0, none⟩)] w fun e w' => ∃ p C, e = .returned (.tuple #[]) ∧ Only b w w' ∧ Lies w' b { k with pos := p, col := C } ∧ QuoteIs ls k.next p C := by
  obtain ⟨a, n, c, pos, col, next, ncol, ind, bl, nb⟩ := k
  simp only at hL hn hc hp hx ⊢
  subst hn; subst hc
  obtain ⟨c0, c1, c2, c3, c4, c5, c6, c7, hf⟩ := hk.cell
  simp only at c0 c1 c2 c3 c4 c5 c6 c7
  obtain ⟨M, hM⟩ : ∃ M, M = next + 1 := ⟨_, rfl⟩
  have hMI : (next : Int) + 1 = (M : Int) := by omega
  have hpM : pos ≤ M := by omega
  have hML : M ≤ ls.length := by omega
  have H : Hid (Lies w b ⟨a, ls.length, c, pos, colN ls pos, next, ncol, ind, bl, nb⟩ ∧ Line w lo a ls ∧ M = next + 1 ∧ ByteL ls) := ⟨hk, hL, hM, hby⟩
  clear hk hL hM hby
  go_enter Try.func46, Try.ntmps46
  go_wp2_with fail
  refine (skipTo_any lo b M ⟨a, ls.length, c, pos, colN ls pos, next, ncol, ind, bl, nb⟩ ls w H.out.1 H.out.2.1 hlo rfl h16 hpM hML rfl).mono ?_
  rintro e w1 ⟨rfl, hO, hK⟩
  clear c0 c1 c2 c3 c4 c5 c6 c7 hf hMI
  obtain ⟨c0, c1, c2, c3, c4, c5, c6, c7, hf⟩ := hK.cell
  simp only at c0 c1 c2 c3 c4 c5 c6 c7
  have HO : Hid (Only b w w1 ∧ Lies w1 b ⟨a, ls.length, c, M, colN ls M, next, ncol, ind, bl, nb⟩) := ⟨hO, hK⟩
  clear hO hK
  by_cases hlt : M < ls.length
  · obtain ⟨B, hB, rfl, hcq⟩ := (H.out.2.1.below (HO.out.1.below hlo)) M hlt
    obtain ⟨hy0, hy1⟩ := H.out.2.2.2 M
    by_cases hst : stB (ls.getD M 0) = true
    · have HS : Hid (stB (ls.getD M 0) = true) := hst
      generalize ls.getD M 0 = ch at hcq hst hy0 hy1
      go_wp2
      go_quiet ((go_at_call 44; exact quietS (isBlank_any _ _)))
      go_wp2_with fail
      refine (advance_1 lo b ⟨some ⟨B, 0, none⟩, ls.length, c, M, colN ls M, next, ncol, ind, bl, nb⟩ ls _ (HO.out.2.drewN _) (H.out.2.1.below (below_drewN (HO.out.1.below hlo) _)) hlo rfl h16 (Fits.at ls M hML) ?_).mono ?_
      · have h1 := (Fits.at ls M hML).2
        have h2 := colN_mono ls (M + 1) ls.length (by omega)
        show colN ls M + 1 ≤ _
        omega
      rintro e w2 ⟨p, rfl, hO2, hK2, hF2, hp2⟩
      go_wp2
      go_end0
      refine ⟨p, colN ls M + 1, rfl, ((HO.out.1.drewN _).trans hO2), hK2, .inr ?_⟩
      rw [← H.out.2.2.1]
      exact ⟨hlt, HS.out, rfl, hF2⟩
    · have hst : stB (ls.getD M 0) = false := by simpa using hst
      have HS : Hid (stB (ls.getD M 0) = false) := hst
      generalize ls.getD M 0 = ch at hcq hst hy0 hy1
      go_wp2
      go_quiet ((go_at_call 44; exact quietS (isBlank_any _ _)))
      go_wp2
      go_end0
      refine ⟨M, colN ls M, rfl, HO.out.1.drewN _, HO.out.2.drewN _, .inl ?_⟩
      rw [← H.out.2.2.1]
      exact ⟨fun h => by rw [HS.out] at h; exact absurd h.2 (by simp), rfl, rfl⟩
  · have hql : decide (M < ls.length) = false := decide_eq_false hlt
    go_wp2
    go_quiet (fail)
    go_wp2
    go_end0
    refine ⟨M, colN ls M, rfl, HO.out.1.drewN _, HO.out.2.drewN _, .inl ?_⟩
    rw [← H.out.2.2.1]
    exact ⟨fun h => hlt h.1, rfl, rfl⟩

/-! ### continues. The two kinds, as the Go text lays them. -/
def quoteS : ByteArray := ⟨#[98, 108, 111, 99, 107, 32, 113, 117, 111, 116, 101]⟩
def listS : ByteArray := ⟨#[108, 105, 115, 116, 32, 105, 116, 101, 109]⟩

/-- A block quote is gone on with. -/
def QuoteYes (ls : List Int) (x : Nat) (ind : Int) : Prop := ind ≤ 3 ∧ ls.getD x 0 = 62

set_option maxRecDepth 8000 in
set_option maxHeartbeats 800000 in
theorem contQuote_any (lo b N : Nat) (k : Cur) (ls : List Int) (w : World) (hk : Lies w b k) (hL : Line w lo k.a ls) (hlo : lo ≤ b) (hn : k.n = ls.length) (h16 : ls.length ≤ 65536) (hby : ByteL ls) (hc : k.col = colN ls k.pos)
    (hp : k.pos ≤ k.next) (hx : k.next < ls.length) :
    Calls Try.prog 41 #[.pointer (some ⟨b, 0, none⟩), .agg #[.int .i64 N], .string ⟨#[98, 108, 111, 99, 107, 32, 113, 117, 111, 116, 101]⟩] w
      fun e w' => ∃ p C ok, e = .returned (.bool ok) ∧ Below b w w' ∧ Lies w' b { k with pos := p, col := C } ∧ ((QuoteYes ls k.next k.ind ∧ ok = true ∧ QuoteIs ls k.next p C) ∨ (¬ QuoteYes ls k.next k.ind ∧ ok = false ∧ p = k.pos ∧ C = k.col)) := by
  obtain ⟨a, n, c, pos, col, next, ncol, ind, bl, nb⟩ := k
  simp only at hL hn hc hp hx ⊢
  subst hn; subst hc
  have hbs := lt_of_block hk
  have hb0 : ∀ o, Below b w (w.alloc o) := fun o => (Below.refl _ _).alloc (Nat.le_of_lt hbs) o
  have hk0 : ∀ o, Lies (w.alloc o) b ⟨a, ls.length, c, pos, colN ls pos, next, ncol, ind, bl, nb⟩ := fun o => (Below.heap_alloc _ _ _ hbs).trans hk
  obtain ⟨c0, c1, c2, c3, c4, c5, c6, c7, hf⟩ := hk.cell
  simp only at c0 c1 c2 c3 c4 c5 c6 c7
  have H : Hid ((∀ o, Below b w (w.alloc o)) ∧ (∀ o, Lies (w.alloc o) b ⟨a, ls.length, c, pos, colN ls pos, next, ncol, ind, bl, nb⟩) ∧ Line w lo a ls ∧ ByteL ls) := ⟨hb0, hk0, hL, hby⟩
  clear hk hb0 hk0
  obtain ⟨B, hB, rfl, hcq⟩ := hL next hx
  have hBw : B < w.heap.size := by omega
  clear hL hby
  by_cases h3 : ind ≤ 3
  · have h3' : decide ((3 : Int) < ind) = false := decide_eq_false (by omega)
    by_cases h62 : ls.getD next 0 = 62
    · have HQ : Hid (QuoteYes ls next ind) := ⟨h3, h62⟩
      rw [h62] at hcq
      clear h62
      go_enter Try.func41, Try.ntmps41
      go_wp2
      go_quiet (fail)
      go_wp2_with fail
      refine (passQuote_any lo b ⟨some ⟨B, 0, none⟩, ls.length, c, pos, colN ls pos, next, ncol, ind, bl, nb⟩ ls _ ((H.out.2.1 _).drewN _) (H.out.2.2.1.below (below_drewN ((H.out.1 _).mono hlo) _)) hlo rfl h16 H.out.2.2.2 rfl hp hx).mono ?_
      rintro e w2 ⟨p, C, rfl, hO2, hK2, hQ2⟩
      have HP : Hid (Only b _ w2 ∧ Lies w2 b ⟨some ⟨B, 0, none⟩, ls.length, c, p, C, next, ncol, ind, bl, nb⟩ ∧ QuoteIs ls next p C) := ⟨hO2, hK2, hQ2⟩
      clear hO2 hK2 hQ2
      go_wp2
      go_ret
      obtain ⟨hO2, hK2, hQ2⟩ := HP.out
      exact ⟨p, C, true, rfl, below_of_heap (below_drewN (H.out.1 _) _) hO2, hK2, .inl ⟨HQ.out, rfl, hQ2⟩⟩
    · have HQ : Hid (¬ QuoteYes ls next ind) := fun h => h62 h.2
      generalize ls.getD next 0 = ch at hcq h62
      have hb : (ch != 62) = true := by simpa using h62
      clear h62
      go_enter Try.func41, Try.ntmps41
      go_wp2
      go_quiet (fail)
      go_wp2
      go_ret
      exact ⟨pos, colN ls pos, false, rfl, below_drewN (H.out.1 _) _, (H.out.2.1 _).drewN _, .inr ⟨HQ.out, rfl, rfl, rfl⟩⟩
  · have HQ : Hid (¬ QuoteYes ls next ind) := fun h => h3 h.1
    have h3' : (3 : Int) < ind := by omega
    clear h3
    go_enter Try.func41, Try.ntmps41
    go_wp2
    go_quiet (fail)
    go_wp2
    go_ret
    exact ⟨pos, colN ls pos, false, rfl, below_drewN (H.out.1 _) _, (H.out.2.1 _).drewN _, .inr ⟨HQ.out, rfl, rfl, rfl⟩⟩

set_option maxRecDepth 8000 in
set_option maxHeartbeats 800000 in
theorem contList_any (lo b N : Nat) (k : Cur) (ls : List Int) (w : World) (hk : Lies w b k) (hL : Line w lo k.a ls) (hlo : lo ≤ b) (hn : k.n = ls.length) (h16 : ls.length ≤ 65536) (hc : k.col = colN ls k.pos) (hpl : k.pos ≤ ls.length)
    (hi : (k.ind : Int) + k.col ≤ colN ls ls.length) :
    Calls Try.prog 41 #[.pointer (some ⟨b, 0, none⟩), .agg #[.int .i64 N], .string ⟨#[108, 105, 115, 116, 32, 105, 116, 101, 109]⟩] w
      fun e w' => ∃ p C ok, e = .returned (.bool ok) ∧ Below b w w' ∧ Lies w' b { k with pos := p, col := C } ∧ (((N : Int) ≤ k.ind ∧ ok = true ∧ C = k.col + N ∧ Fits ls p C ∧ k.pos ≤ p) ∨ (k.ind < N ∧ ok = false ∧ p = k.pos ∧ C = k.col)) := by
  obtain ⟨a, n, c, pos, col, next, ncol, ind, bl, nb⟩ := k
  simp only at hL hn hc hpl hi ⊢
  subst hn; subst hc
  have hbs := lt_of_block hk
  have hb0 : ∀ o, Below b w (w.alloc o) := fun o => (Below.refl _ _).alloc (Nat.le_of_lt hbs) o
  have hk0 : ∀ o, Lies (w.alloc o) b ⟨a, ls.length, c, pos, colN ls pos, next, ncol, ind, bl, nb⟩ := fun o => (Below.heap_alloc _ _ _ hbs).trans hk
  obtain ⟨c0, c1, c2, c3, c4, c5, c6, c7, hf⟩ := hk.cell
  simp only at c0 c1 c2 c3 c4 c5 c6 c7
  have H : Hid ((∀ o, Below b w (w.alloc o)) ∧ (∀ o, Lies (w.alloc o) b ⟨a, ls.length, c, pos, colN ls pos, next, ncol, ind, bl, nb⟩) ∧ Line w lo a ls) := ⟨hb0, hk0, hL⟩
  clear hk hb0 hk0 hL
  by_cases hN : (N : Int) ≤ ind
  · go_enter Try.func41, Try.ntmps41
    go_wp2
    go_quiet (fail)
    go_wp2_with fail
    refine (advance_any lo b N ⟨a, ls.length, c, pos, colN ls pos, next, ncol, ind, bl, nb⟩ ls _ ((H.out.2.1 _).drewN _) (H.out.2.2.below (below_drewN ((H.out.1 _).mono hlo) _)) hlo rfl h16 (Fits.at ls pos hpl) (by show colN ls pos + N ≤ _; omega)).mono ?_
    rintro e w2 ⟨p, rfl, hO2, hK2, hF2, hp2⟩
    have HP : Hid (Only b _ w2 ∧ Lies w2 b ⟨a, ls.length, c, p, colN ls pos + N, next, ncol, ind, bl, nb⟩ ∧ Fits ls p (colN ls pos + N) ∧ pos ≤ p) := ⟨hO2, hK2, hF2, hp2⟩
    clear hO2 hK2 hF2 hp2
    go_wp2
    go_ret
    obtain ⟨hO2, hK2, hF2, hp2⟩ := HP.out
    exact ⟨p, _, true, rfl, below_of_heap (below_drewN (H.out.1 _) _) hO2, hK2, .inl ⟨hN, rfl, rfl, hF2, hp2⟩⟩
  · go_enter Try.func41, Try.ntmps41
    go_wp2
    go_quiet (fail)
    go_wp2
    go_ret
    exact ⟨pos, colN ls pos, false, rfl, below_drewN (H.out.1 _) _, (H.out.2.1 _).drewN _, .inr ⟨by omega, rfl, rfl, rfl⟩⟩

end Go.Proofs.Qxb6002445a
