/-
  THE CURSOR: advance.
-/
import Derived.Test.Qxb6002445aFindLaw
namespace Go.Proofs.Qxb6002445a
open Go.RowKit
set_option linter.unusedSimpArgs false
set_option linter.unusedVariables false

/-- Offset p and column col fit together: the column lies at p's or inside p's tab. -/
def Fits (ls : List Int) (p col : Nat) : Prop := colN ls p ≤ col ∧ (p < ls.length ∧ col < colN ls (p + 1) ∨ p = ls.length ∧ col = colN ls p)

theorem Fits.at (ls : List Int) (p : Nat) (h : p ≤ ls.length) : Fits ls p (colN ls p) := by
  refine ⟨Nat.le_refl _, ?_⟩
  rcases Nat.lt_or_ge p ls.length with h' | h'
  · refine .inl ⟨h', ?_⟩
    have := (stepC_gt (ls.getD p 0) (colN ls p)).1
    rw [colN_succ]; omega
  · exact .inr ⟨by omega, rfl⟩

theorem Fits.le {ls : List Int} {p col : Nat} (h : Fits ls p col) : p ≤ ls.length ∧ col ≤ colN ls ls.length ∧ col ≤ 4 * p + 4 := by
  obtain ⟨h1, h2⟩ := h
  have hc := colN_le ls p
  rcases h2 with ⟨h2, h3⟩ | ⟨h2, h3⟩
  · have := colN_mono ls (p + 1) ls.length (by omega)
    have := colN_le ls (p + 1)
    omega
  · subst h2; omega

/-- Where columns are left, bytes are left. -/
theorem Fits.left {ls : List Int} {p col m : Nat} (h : Fits ls p col) (hm : col + m ≤ colN ls ls.length) (h0 : 0 < m) : p < ls.length := by
  obtain ⟨h1, h2⟩ := h
  rcases h2 with ⟨h2, h3⟩ | ⟨h2, h3⟩
  · exact h2
  · subst h2; omega

theorem Fits.other {ls : List Int} {p col : Nat} (h : Fits ls p col) (hp : p < ls.length) (h9 : ¬ ls.getD p 0 = 9) : col = colN ls p ∧ Fits ls (p + 1) (col + 1) := by
  obtain ⟨h1, h2⟩ := h
  have e := colN_succ ls p
  rw [stepC_other _ _ h9] at e
  have hc : col = colN ls p := by omega
  refine ⟨hc, ?_⟩
  have := Fits.at ls (p + 1) (by omega)
  rw [e, ← hc] at this
  exact this

theorem Fits.tab {ls : List Int} {p col : Nat} (h : Fits ls p col) (hp : p < ls.length) (h9 : ls.getD p 0 = 9) : col + (4 - col % 4) = colN ls (p + 1) ∧ Fits ls (p + 1) (col + (4 - col % 4)) ∧ ∀ m, m < 4 - col % 4 → Fits ls p (col + m) := by
  obtain ⟨h1, h2⟩ := h
  have e := colN_succ ls p
  rw [h9] at e
  unfold stepC at e
  rw [if_pos rfl] at e
  have hc : col + (4 - col % 4) = colN ls (p + 1) := by omega
  refine ⟨hc, ?_, fun m hm => ⟨by omega, .inl ⟨hp, by omega⟩⟩⟩
  rw [hc]
  exact Fits.at ls (p + 1) (by omega)

/-- The offset is settled by the column. -/
theorem Fits.one {ls : List Int} {p q col : Nat} (h : Fits ls p col) (g : Fits ls q col) : p = q := by
  have aux : ∀ {p q : Nat}, Fits ls p col → Fits ls q col → p < q → False := by
    intro p q h g hlt
    obtain ⟨h1, h2⟩ := h
    have hq := g.le.1
    have := colN_mono ls (p + 1) q (by omega)
    have := g.1
    omega
  rcases Nat.lt_trichotomy p q with h' | h' | h'
  · exact (aux h g h').elim
  · exact h'
  · exact (aux g h h').elim

set_option maxRecDepth 8000 in
set_option maxHeartbeats 800000 in
theorem advance_any (lo b N : Nat) (k : Cur) (ls : List Int) (w : World) (hk : Lies w b k) (hL : Line w lo k.a ls) (hlo : lo ≤ b) (hn : k.n = ls.length) (h16 : ls.length ≤ 65536) (hF : Fits ls k.pos k.col) (hN : k.col + N ≤ colN ls ls.length) :
    Calls Try.prog 45 #[.pointer (some ⟨b, 0, none⟩), .int .i64 N] w fun e w' => ∃ p, e = .returned (.tuple #[]) ∧ Only b w w' ∧ Lies w' b { k with pos := p, col := k.col + N } ∧ Fits ls p (k.col + N) ∧ k.pos ≤ p := by
  obtain ⟨a, n, c, pos, col, next, ncol, ind, bl, nb⟩ := k
  simp only at hL hn hF hN ⊢
  subst hn
  have hcl := colN_le ls ls.length
  have H : Hid (Lies w b ⟨a, ls.length, c, pos, col, next, ncol, ind, bl, nb⟩ ∧ Line w lo a ls ∧ Fits ls pos col) := ⟨hk, hL, hF⟩
  clear hk hL hF
  go_enter Try.func45, Try.ntmps45
  go_wp2
  go_loopg [1] N (fun g s wr => ∃ q C m : Nat, m ≤ g ∧ s = .int .i64 m ∧ C + m = col + N ∧ pos ≤ q ∧ Fits ls q C ∧ Only b w wr ∧ Lies wr b ⟨a, ls.length, c, q, C, next, ncol, ind, bl, nb⟩)
  case atStart => exact ⟨pos, col, N, Nat.le_refl _, rfl, rfl, Nat.le_refl _, H.out.2.2, Only.refl _ _, H.out.1⟩
  case round =>
    obtain ⟨q, C, m, hmg, rfl, hCm, hpq, hF, hO, hK⟩ := hrel
    obtain ⟨c0, c1, c2, c3, c4, c5, c6, c7, hf⟩ := hK.cell
    simp only at c0 c1 c2 c3 c4 c5 c6 c7
    clear c3 c4 c5 c6 c7
    obtain ⟨hq, hC1, hC2⟩ := hF.le
    have hmb : m ≤ 262144 := by omega
    rcases Nat.eq_zero_or_pos m with hm | hm
    · subst hm
      have hd : decide ((0 : Int) < ((0 : Nat) : Int)) = false := rfl
      have HK : Hid (C + 0 = col + N ∧ Fits ls q C ∧ Only b w wr ∧ Lies wr b ⟨a, ls.length, c, q, C, next, ncol, ind, bl, nb⟩) := ⟨hCm, hF, hO, hK⟩
      clear hCm hF hO hK
      go_wp2
      go_quiet (fail)
      go_wp2
      go_end0
      obtain ⟨hCm, hF, hO, hK⟩ := HK.out
      have e : col + N = C := by omega
      rw [e]
      exact ⟨q, rfl, hO.drewN _, hK.drewN _, hF, hpq⟩
    · have hlt := hF.left (by omega) hm
      obtain ⟨B, hB, rfl, hcq⟩ := (H.out.2.1.below (hO.below hlo)) q hlt
      by_cases h9 : ls.getD q 0 = 9
      · obtain ⟨t1, t2, t3⟩ := hF.tab hlt h9
        rw [h9] at hcq
        have HK : Hid (C + m = col + N ∧ Fits ls (q + 1) (C + (4 - C % 4)) ∧ (∀ m, m < 4 - C % 4 → Fits ls q (C + m)) ∧ Only b w wr ∧ Lies wr b ⟨some ⟨B, 0, none⟩, ls.length, c, q, C, next, ncol, ind, bl, nb⟩) := ⟨hCm, t2, t3, hO, hK⟩
        clear hCm hF hO hK t1 t2 t3 h9
        by_cases hw : m < 4 - C % 4
        · have hw' : (m : Int) < 4 - (C : Int) % 4 := by omega
          go_wp2
          go_quiet (fail)
          go_wp2
          go_quiet (fail)
          go_wp2
          go_returns
          obtain ⟨hCm, t2, t3, hO, hK⟩ := HK.out
          have e : col + N = C + m := by omega
          have e1 : (C : Int) + (m : Int) = ((C + m : Nat) : Int) := by omega
          rw [e, e1]
          exact ⟨q, rfl, (hO.drewN _).setCell _ _, (hK.drewN _).setCol _, t3 m hw, hpq⟩
        · have hw' : 4 - (C : Int) % 4 ≤ (m : Int) := by omega
          go_wp2
          go_quiet (fail)
          go_wp2
          go_quiet (fail)
          go_wp2
          go_roundg (m - (4 - C % 4))
          case measure => omega
          case rel =>
            obtain ⟨hCm, t2, t3, hO, hK⟩ := HK.out
            refine ⟨q + 1, C + (4 - C % 4), m - (4 - C % 4), Nat.le_refl _, by go_num, by omega, by omega, t2, ((hO.drewN _).setCell _ _).setCell _ _, ?_⟩
            have e1 : (C : Int) + (4 - (C : Int) % 4) = ((C + (4 - C % 4) : Nat) : Int) := by omega
            have e2 : (q : Int) + 1 = ((q + 1 : Nat) : Int) := by omega
            rw [e1, e2]
            exact ((hK.drewN _).setPos _).setCol _
      · obtain ⟨t1, t2⟩ := hF.other hlt h9
        have HK : Hid (C + m = col + N ∧ Fits ls (q + 1) (C + 1) ∧ Only b w wr ∧ Lies wr b ⟨some ⟨B, 0, none⟩, ls.length, c, q, C, next, ncol, ind, bl, nb⟩) := ⟨hCm, t2, hO, hK⟩
        clear hCm hF hO hK t1 t2
        generalize ls.getD q 0 = ch at hcq h9
        have hb9 : (ch != 9) = true := by simpa using h9
        go_wp2
        go_quiet (fail)
        go_wp2
        go_quiet (fail)
        go_wp2
        go_roundg (m - 1)
        case measure => omega
        case rel =>
          obtain ⟨hCm, t2, hO, hK⟩ := HK.out
          refine ⟨q + 1, C + 1, m - 1, Nat.le_refl _, by go_num, by omega, by omega, t2, ((hO.drewN _).setCell _ _).setCell _ _, ?_⟩
          have e1 : (C : Int) + 1 = ((C + 1 : Nat) : Int) := by omega
          have e2 : (q : Int) + 1 = ((q + 1 : Nat) : Int) := by omega
          rw [e1, e2]
          exact ((hK.drewN _).setPos _).setCol _

end Go.Proofs.Qxb6002445a
