/-
  THE CURSOR: findNext.
-/
import Derived.Test.Qxb6002445aCur
namespace Go.Proofs.Qxb6002445a
open Go.RowKit
set_option linter.unusedSimpArgs false
set_option linter.unusedVariables false

/-- The cursor behind findNext. -/
def Cur.found (k : Cur) (ls : List Int) : Cur :=
  { k with next := nextN ls k.pos, ncol := colN ls (nextN ls k.pos), ind := (colN ls (nextN ls k.pos) : Int) - colN ls k.pos, bl := decide (nextN ls k.pos = ls.length) }

theorem stB_cases (c : Int) (h : stB c = true) : c = 32 ∨ c = 9 := by simpa [stB] using h

theorem beq_nat (q m : Nat) : ((q : Int) == (m : Int)) = decide (q = m) := by rw [Bool.eq_iff_iff]; simp; omega

set_option maxRecDepth 8000 in
set_option maxHeartbeats 1600000 in
theorem findNext_any (lo b : Nat) (k : Cur) (ls : List Int) (w : World) (hk : Lies w b k) (hL : Line w lo k.a ls) (hlo : lo ≤ b) (hn : k.n = ls.length) (h16 : ls.length ≤ 65536) (hp : k.pos ≤ ls.length) (hc : k.col = colN ls k.pos)
    (hx : k.next < k.pos ∨ (k.pos ≤ k.next ∧ k.next ≤ nextN ls k.pos ∧ k.ncol = colN ls k.next)) :
    Calls Try.prog 39 #[.pointer (some ⟨b, 0, none⟩)] w fun e w' => e = .returned (.tuple #[]) ∧ Only b w w' ∧ Lies w' b (k.found ls) := by
  obtain ⟨a, n, c, pos, col, next, ncol, ind, bl, nb⟩ := k
  simp only [Cur.found] at hL hn hp hc hx ⊢
  subst hn; subst hc
  obtain ⟨c0, c1, c2, c3, c4, c5, c6, c7, hf⟩ := hk.cell
  simp only at c0 c1 c2 c3 c4 c5 c6 c7
  have H : Hid (Lies w b ⟨a, ls.length, c, pos, colN ls pos, next, ncol, ind, bl, nb⟩ ∧ Line w lo a ls) := ⟨hk, hL⟩
  clear hk hL c7
  have hcb := colN_le ls pos
  have hnl := nextN_le ls pos hp
  have hng := nextN_ge ls pos
  have hst := nextN_stop ls pos hp
  have hat := nextN_at ls pos
  generalize nextN ls pos = nx at hnl hng hst hat hx ⊢
  have HN : Hid ((nx < ls.length → stB (ls.getD nx 0) = false) ∧ (∀ i, pos ≤ i → i < nx → stB (ls.getD i 0) = true)) := ⟨hst, hat⟩
  clear hst hat
  rcases hx with hx | ⟨hx1, hx2, hx3⟩
  all_goals (try subst hx3)
  all_goals have hcb2 := colN_le ls next
  all_goals
    go_enter Try.func39, Try.ntmps39
    go_wp2
    go_quiet (fail)
    go_wp2
  all_goals (try (go_region; try go_wp2))
  all_goals
    clear c0 c1 c2 c3 c4 c5 c6 hf
    go_loopg [] nx (fun g wr => ∃ q : Nat, nx - q ≤ g ∧ pos ≤ q ∧ q ≤ nx ∧ Only b w wr ∧ Lies wr b ⟨a, ls.length, c, pos, colN ls pos, q, colN ls q, ind, bl, nb⟩)
    case atStart =>
      first
        | exact ⟨pos, Nat.sub_le _ _, Nat.le_refl _, hng, (((Only.refl _ _).drewN _).setCell _ _).setCell _ _, ((H.out.1.drewN _).setNext _).setNcol _⟩
        | exact ⟨next, Nat.sub_le _ _, hx1, hx2, (Only.refl _ _).drewN _, H.out.1.drewN _⟩
    case round =>
      obtain ⟨q, hg, h1, h2, hO, hK⟩ := hrel
      obtain ⟨c0, c1, c2, c3, c4, c5, c6, c7, hf⟩ := hK.cell
      simp only at c0 c1 c2 c3 c4 c5 c6 c7
      clear c7
      have hcq := colN_le ls q
      have hcm := colN_mono ls pos q h1
      by_cases hlt : q < ls.length
      · obtain ⟨B, hB, rfl, hcl⟩ := (H.out.2.below (hO.below hlo)) q hlt
        have hst := colN_succ ls q
        by_cases hq : q < nx
        · have hbl := HN.out.2 q h1 hq
          have HK : Hid (Only b w wr ∧ Lies wr b ⟨some ⟨B, 0, none⟩, ls.length, c, pos, colN ls pos, q, colN ls q, ind, bl, nb⟩ ∧ colN ls (q + 1) = stepC (ls.getD q 0) (colN ls q)) := ⟨hO, hK, hst⟩
          clear hO hK hst
          generalize ls.getD q 0 = ch at hcl hbl HK
          generalize colN ls q = col at hcq hcm HK c4
          rcases stB_cases _ hbl with rfl | rfl
          · clear hbl
            go_wp2
            go_quiet (fail)
            go_wp2
            go_quiet (fail)
            go_wp2
            go_roundg (nx - (q + 1))
            case measure => omega
            case rel =>
              obtain ⟨hO, hK, hst⟩ := HK.out
              refine ⟨q + 1, by omega, by omega, by omega, ((hO.drewN _).setCell _ _).setCell _ _, ?_⟩
              rw [stepC_other _ _ (by decide)] at hst
              have e1 : (col : Int) + 1 = ((colN ls (q + 1) : Nat) : Int) := by rw [hst]; omega
              have e2 : (q : Int) + 1 = ((q + 1 : Nat) : Int) := by omega
              rw [e1, e2]
              exact ((hK.drewN _).setNcol _).setNext _
          · clear hbl
            go_wp2
            go_quiet (fail)
            go_wp2
            go_quiet (fail)
            go_wp2
            go_quiet (fail)
            go_wp2
            go_region
            all_goals (try go_wp2)
            go_roundg (nx - (q + 1))
            case measure => omega
            case rel =>
              obtain ⟨hO, hK, hst⟩ := HK.out
              refine ⟨q + 1, by omega, by omega, by omega, ((hO.drewN _).setCell _ _).setCell _ _, ?_⟩
              rw [stepC_tab] at hst
              have e1 : (col : Int) + (4 - (col : Int) % 4) = ((colN ls (q + 1) : Nat) : Int) := by rw [hst]; omega
              have e2 : (q : Int) + 1 = ((q + 1 : Nat) : Int) := by omega
              rw [e1, e2]
              exact ((hK.drewN _).setNcol _).setNext _
        · have hqx : q = nx := by omega
          subst hqx
          have hbl := HN.out.1 hlt
          have hdl : decide (q = ls.length) = false := decide_eq_false (by omega)
          have HK : Hid (Only b w wr ∧ Lies wr b ⟨some ⟨B, 0, none⟩, ls.length, c, pos, colN ls pos, q, colN ls q, ind, bl, nb⟩ ∧ decide (q = ls.length) = false) := ⟨hO, hK, hdl⟩
          clear hO hK hst hdl
          generalize ls.getD q 0 = ch at hcl hbl
          have hb1 : (ch == 32) = false := by unfold stB at hbl; simp at hbl; simpa using hbl.1
          have hb2 : (ch == 9) = false := by unfold stB at hbl; simp at hbl; simpa using hbl.2
          clear hbl
          go_wp2
          go_quiet (fail)
          go_wp2
          go_quiet (fail)
          go_wp2
          go_quiet (fail)
          go_wp2
          go_region
          all_goals (try go_wp2)
          go_region
          all_goals (try go_wp2)
          go_end0
          obtain ⟨hO, hK, hd⟩ := HK.out
          refine ⟨rfl, ?_, ?_⟩
          · repeat (first | exact hO | apply Only.setCell | apply Only.drewN | apply Only.drew)
          · rw [beq_nat]
            exact (((hK.drewN _).setInd _).setBl _).drew
      · have hqx : q = nx := by omega
        subst hqx
        have hql : q = ls.length := by omega
        have hdl : decide (q = ls.length) = true := decide_eq_true hql
        have HK : Hid (Only b w wr ∧ Lies wr b ⟨a, ls.length, c, pos, colN ls pos, q, colN ls q, ind, bl, nb⟩ ∧ decide (q = ls.length) = true) := ⟨hO, hK, hdl⟩
        clear hO hK hdl
        have hge : ls.length ≤ q := by omega
        clear hql
        go_wp2
        go_quiet (fail)
        go_wp2
        go_region
        all_goals (try go_wp2)
        go_region
        all_goals (try go_wp2)
        go_end0
        obtain ⟨hO, hK, hd⟩ := HK.out
        refine ⟨rfl, ?_, ?_⟩
        · repeat (first | exact hO | apply Only.setCell | apply Only.drewN | apply Only.drew)
        · rw [beq_nat]
          exact (((hK.drewN _).setInd _).setBl _).drew

end Go.Proofs.Qxb6002445a
