/-
  THE CURSOR: markerPadding.
-/
import Derived.Test.Qxb6002445aAdv
namespace Go.Proofs.Qxb6002445a
open Go.RowKit
set_option linter.unusedSimpArgs false
set_option linter.unusedVariables false

/-- Each number of the list is a byte. -/
def ByteL (ls : List Int) : Prop := ∀ i, 0 ≤ ls.getD i 0 ∧ ls.getD i 0 < 256

theorem quietS {P : Program} {f : FuncId} {args : Array Value} {w : World} {n : Nat} {v : Value}
    (h : Calls P f args (w.drewN n) fun e w' => e = .returned v ∧ w.drewN n = w') : Calls P f args (w.drewN n) fun e w'' => e = .returned v ∧ ∃ m, w'' = w.drewN m :=
  h.mono fun _ _ ⟨he, hm⟩ => ⟨he, n, hm.symm⟩

theorem Lies.only {w w' : World} {b m : Nat} {k : Cur} (h : Lies w m k) (hO : Only b w w') (hne : m ≠ b) : Lies w' m k := (hO.block m hne).trans h

/-- Short of the text's column, the cursor stands on a blank. -/
theorem Fits.before {ls : List Int} {p col M : Nat} (h : Fits ls p col) (hM : M ≤ ls.length) (hc : col < colN ls (nextN ls M)) : p < nextN ls M := by
  rcases Nat.lt_or_ge p (nextN ls M) with h' | h'
  · exact h'
  · have := colN_mono ls (nextN ls M) p h'
    have := h.1
    omega

/-- What holds at the head of each round of the loop over the blanks. -/
structure PadRel (ls : List Int) (w : World) (b m M : Nat) (k : Cur) (wr : World) (q C : Nat) : Prop where
  fits : Fits ls q C
  low : colN ls M ≤ C
  pos : M ≤ q
  high : C ≤ colN ls (nextN ls M)
  six : C ≤ colN ls M + 6
  bel : Below b w wr
  cur : Lies wr b { k with pos := q, col := C }
  mark : Lies wr m { k with pos := M, col := colN ls M }

theorem below_of_heap {B : Nat} {a u v : World} (h : Below B a u) (hO : Only B u v) : Below B a v := h.trans (hO.below (Nat.le_refl _))

theorem advance_1 (lo b : Nat) (k : Cur) (ls : List Int) (w : World) (hk : Lies w b k) (hL : Line w lo k.a ls) (hlo : lo ≤ b) (hn : k.n = ls.length) (h16 : ls.length ≤ 65536) (hF : Fits ls k.pos k.col) (hN : k.col + 1 ≤ colN ls ls.length) :
    Calls Try.prog 45 #[.pointer (some ⟨b, 0, none⟩), .int .i64 1] w fun e w' => ∃ p, e = .returned (.tuple #[]) ∧ Only b w w' ∧ Lies w' b { k with pos := p, col := k.col + 1 } ∧ Fits ls p (k.col + 1) ∧ k.pos ≤ p :=
  advance_any lo b 1 k ls w hk hL hlo hn h16 hF hN

/-- The cursor put back: its eight cells as the marker's. -/
theorem put_back {w wr : World} {b : Nat} {k : Cur} {a : Option Addr} {n c M C next ncol : Nat} {ind : Int} {bl : Bool} {nb : Nat} (hb : Below b w wr) (hk : Lies wr b k) (nq : Nat) :
    Below b w (((((((((wr.drewN nq).setCell ⟨b, 0, none⟩ (.slice a n c)).setCell ⟨b, 1, none⟩ (.int .i64 M)).setCell ⟨b, 2, none⟩ (.int .i64 C)).setCell ⟨b, 3, none⟩ (.int .i64 next)).setCell ⟨b, 4, none⟩ (.int .i64 ncol)).setCell ⟨b, 5, none⟩ (.int .i64 ind)).setCell ⟨b, 6, none⟩ (.bool bl)).setCell ⟨b, 7, none⟩ (.int .i64 nb)) ∧
    Lies (((((((((wr.drewN nq).setCell ⟨b, 0, none⟩ (.slice a n c)).setCell ⟨b, 1, none⟩ (.int .i64 M)).setCell ⟨b, 2, none⟩ (.int .i64 C)).setCell ⟨b, 3, none⟩ (.int .i64 next)).setCell ⟨b, 4, none⟩ (.int .i64 ncol)).setCell ⟨b, 5, none⟩ (.int .i64 ind)).setCell ⟨b, 6, none⟩ (.bool bl)).setCell ⟨b, 7, none⟩ (.int .i64 nb)) b ⟨a, n, c, M, C, next, ncol, ind, bl, nb⟩ := by
  have h : (wr.drewN nq).heap[b]? = some (.cells #[.slice k.a k.n k.c, .int .i64 k.pos, .int .i64 k.col, .int .i64 k.next, .int .i64 k.ncol, .int .i64 k.ind, .bool k.bl, .int .i64 k.nb] 75 (0, 0)) := hk
  obtain ⟨t1, t2⟩ := store8 (.slice a n c) (.int .i64 M) (.int .i64 C) (.int .i64 next) (.int .i64 ncol) (.int .i64 ind) (.bool bl) (.int .i64 nb) h
  exact ⟨below_of_heap (below_drewN hb _) t2, t1⟩

/-- Text follows, one to four columns behind the marker. -/
def PadYes (ls : List Int) (M : Nat) : Prop := nextN ls M < ls.length ∧ colN ls M + 1 ≤ colN ls (nextN ls M) ∧ colN ls (nextN ls M) ≤ colN ls M + 4

def PadPost (ls : List Int) (b M W : Nat) (k : Cur) (w : World) (e : Ending) (w' : World) : Prop :=
  Below b w w' ∧ ((PadYes ls M ∧ e = .returned (.int .i64 ((W : Int) + ((colN ls (nextN ls M) : Int) - colN ls M))) ∧ Lies w' b { k with pos := nextN ls M, col := colN ls (nextN ls M) }) ∨
    (¬ PadYes ls M ∧ e = .returned (.int .i64 ((W : Int) + 1)) ∧ Lies w' b { k with pos := M, col := colN ls M }))

set_option maxRecDepth 8000 in
set_option maxHeartbeats 1600000 in
theorem markerPadding_any (lo b W : Nat) (k : Cur) (ls : List Int) (w : World) (hk : Lies w b k) (hL : Line w lo k.a ls) (hlo : lo ≤ b) (hn : k.n = ls.length) (h16 : ls.length ≤ 65536) (hby : ByteL ls) (hc : k.col = colN ls k.pos)
    (hp : k.pos ≤ k.next) (hW : k.next + W ≤ ls.length) :
    Calls Try.prog 40 #[.pointer (some ⟨b, 0, none⟩), .int .i64 W] w fun e w' => PadPost ls b (k.next + W) W k w e w' := by
  obtain ⟨a, n, c, pos, col, next, ncol, ind, bl, nb⟩ := k
  simp only at hL hn hc hp hW ⊢
  subst hn; subst hc
  have hbs := lt_of_block hk
  obtain ⟨c0, c1, c2, c3, c4, c5, c6, c7, hf⟩ := hk.cell
  simp only at c0 c1 c2 c3 c4 c5 c6 c7
  obtain ⟨M, hM⟩ : ∃ M, M = next + W := ⟨_, rfl⟩
  rw [← hM] at hW ⊢
  have hMI : (next : Int) + (W : Int) = (M : Int) := by omega
  have H : Hid (Lies w b ⟨a, ls.length, c, pos, colN ls pos, next, ncol, ind, bl, nb⟩ ∧ Line w lo a ls ∧ M = next + W ∧ ByteL ls) := ⟨hk, hL, hM, hby⟩
  have hpM : pos ≤ M := by omega
  have hWb : W ≤ 65536 := by omega
  clear hk hL hM hby
  go_enter Try.func40, Try.ntmps40
  go_wp2_with fail
  refine (skipTo_any lo b M ⟨a, ls.length, c, pos, colN ls pos, next, ncol, ind, bl, nb⟩ ls w H.out.1 H.out.2.1 hlo rfl h16 hpM hW rfl).mono ?_
  rintro e w1 ⟨rfl, hO, hK⟩
  clear c0 c1 c2 c3 c4 c5 c6 c7 hf hMI
  obtain ⟨c0, c1, c2, c3, c4, c5, c6, c7, hf⟩ := hK.cell
  simp only at c0 c1 c2 c3 c4 c5 c6 c7
  have hbm : b < w1.heap.size := by have := hO.size; omega
  go_wp2
  clear c0 c1 c2 c3 c4 c5 c6 c7 hf
  have hcM := colN_le ls M
  have htl := nextN_le ls M hW
  have htg := nextN_ge ls M
  have hct := colN_le ls (nextN ls M)
  have hcm := colN_mono ls M (nextN ls M) htg
  have htm := colN_mono ls (nextN ls M) ls.length htl
  go_loopg [] (colN ls (nextN ls M)) (fun g wr => ∃ q C, colN ls (nextN ls M) - C ≤ g ∧ PadRel ls w b w1.heap.size M ⟨a, ls.length, c, pos, colN ls pos, next, ncol, ind, bl, nb⟩ wr q C)
  case atStart =>
    refine ⟨M, colN ls M, Nat.sub_le _ _, ⟨Fits.at ls M hW, Nat.le_refl _, Nat.le_refl _, hcm, Nat.le_add_right _ _, (hO.below (Nat.le_refl _)).alloc (Nat.le_of_lt hbm) _, ?_, heap_alloc_new _ _⟩⟩
    exact (Below.heap_alloc _ _ _ hbm).trans hK
  case round =>
    obtain ⟨q, C, hg, R⟩ := hrel
    obtain ⟨c0, c1, c2, c3, c4, c5, c6, c7, hf⟩ := R.cur.cell
    obtain ⟨m0, m1, m2, m3, m4, m5, m6, m7, hf2⟩ := R.mark.cell
    simp only at c0 c1 c2 c3 c4 c5 c6 c7 m0 m1 m2 m3 m4 m5 m6 m7
    have hlow := R.low
    have hhigh := R.high
    have hsix := R.six
    have hqle := R.fits.le.1
    have hwr : IntKind.i64.wrap ((C : Int) - (colN ls M : Int)) = (C : Int) - colN ls M := by rw [IntKind.wrap_i64]; omega
    by_cases h5 : C ≤ colN ls M + 5
    · by_cases hlt : C < colN ls (nextN ls M)
      · -- a blank: one column on
        have hqt := R.fits.before hW hlt
        obtain ⟨B, hB, rfl, hcq⟩ := (H.out.2.1.below (R.bel.mono hlo)) q (by omega)
        have hbl := nextN_at ls M q R.pos hqt
        obtain ⟨hy0, hy1⟩ := H.out.2.2.2 q
        generalize ls.getD q 0 = ch at hcq hbl hy0 hy1
        have hql : q < ls.length := by omega
        have h5' : (C : Int) - (colN ls M : Int) ≤ 5 := by omega
        have HR : Hid (PadRel ls w b w1.heap.size M ⟨some ⟨B, 0, none⟩, ls.length, c, pos, colN ls pos, next, ncol, ind, bl, nb⟩ wr q C) := R
        clear R hO hK
        go_wp2
        go_quiet ((go_at_call 44; exact quietS (isBlank_any _ _)))
        go_wp2_with fail
        refine (advance_1 lo b ⟨some ⟨B, 0, none⟩, ls.length, c, q, C, next, ncol, ind, bl, nb⟩ ls _ (HR.out.cur.drewN _) (H.out.2.1.below (below_drewN (HR.out.bel.mono hlo) _)) hlo rfl h16 HR.out.fits (by show C + 1 ≤ _; omega)).mono ?_
        rintro e w2 ⟨p, rfl, hO2, hK2, hF2, hp2⟩
        have HS : Hid (Only b (wr.drewN nq) w2 ∧ Lies w2 b ⟨some ⟨B, 0, none⟩, ls.length, c, p, C + 1, next, ncol, ind, bl, nb⟩ ∧ Fits ls p (C + 1) ∧ q ≤ p) := ⟨hO2, hK2, hF2, hp2⟩
        clear hO2 hK2 hF2 hp2 c0 c1 c2 c3 c4 c5 c6 c7 hf m0 m1 m2 m3 m4 m5 m6 m7 hf2 hwr
        go_wp2
        go_roundg (colN ls (nextN ls M) - (C + 1))
        case measure => omega
        case rel =>
          obtain ⟨hO2, hK2, hF2, hp2⟩ := HS.out
          have R := HR.out
          exact ⟨p, C + 1, Nat.le_refl _, hF2, by omega, Nat.le_trans R.pos hp2, by omega, by omega, below_of_heap (below_drewN R.bel _) hO2, hK2, (R.mark.drewN _).only hO2 (by omega)⟩
      · -- the text's column is reached
        have hCt : C = colN ls (nextN ls M) := by omega
        have hqt : q = nextN ls M := R.fits.one (hCt ▸ Fits.at ls _ htl)
        have h5' : (C : Int) - (colN ls M : Int) ≤ 5 := by omega
        have HR : Hid (PadRel ls w b w1.heap.size M ⟨a, ls.length, c, pos, colN ls pos, next, ncol, ind, bl, nb⟩ wr q C) := R
        have HC : Hid (C = colN ls (nextN ls M) ∧ q = nextN ls M) := ⟨hCt, hqt⟩
        clear R hO hK hCt
        by_cases htl2 : nextN ls M < ls.length
        · obtain ⟨B, hB, rfl, hcq⟩ := (H.out.2.1.below (HR.out.bel.mono hlo)) q (by omega)
          have hbl := nextN_stop ls M hW htl2
          rw [← hqt] at hbl
          obtain ⟨hy0, hy1⟩ := H.out.2.2.2 q
          generalize ls.getD q 0 = ch at hcq hbl hy0 hy1
          have hql : q < ls.length := by omega
          clear hqt
          by_cases s1 : C ≤ colN ls M
          · have r1 : decide ((1 : Int) ≤ (C : Int) - (colN ls M : Int)) = false := decide_eq_false (by omega)
            go_wp2
            go_quiet ((go_at_call 44; exact quietS (isBlank_any _ _)))
            go_wp2
            go_quiet (fail)
            go_wp2
            go_quiet (fail)
            go_wp2
            go_ret
            obtain ⟨hCt, hqt⟩ := HC.out
            obtain ⟨t1, t2⟩ := put_back HR.out.bel HR.out.cur _
            exact ⟨t1, .inr ⟨fun hy => (by obtain ⟨y1, y2, y3⟩ := hy; omega), rfl, t2⟩⟩
          · by_cases s5 : colN ls M + 5 ≤ C
            · have r1 : (1 : Int) ≤ (C : Int) - (colN ls M : Int) := by omega
              have r2 : decide ((C : Int) - (colN ls M : Int) < 5) = false := decide_eq_false (by omega)
              go_wp2
              go_quiet ((go_at_call 44; exact quietS (isBlank_any _ _)))
              go_wp2
              go_quiet (fail)
              go_wp2
              go_quiet (fail)
              go_wp2
              go_ret
              obtain ⟨hCt, hqt⟩ := HC.out
              obtain ⟨t1, t2⟩ := put_back HR.out.bel HR.out.cur _
              exact ⟨t1, .inr ⟨fun hy => (by obtain ⟨y1, y2, y3⟩ := hy; omega), rfl, t2⟩⟩
            · have r1 : (1 : Int) ≤ (C : Int) - (colN ls M : Int) := by omega
              have r2 : (C : Int) - (colN ls M : Int) < 5 := by omega
              go_wp2
              go_quiet ((go_at_call 44; exact quietS (isBlank_any _ _)))
              go_wp2
              go_quiet (fail)
              go_wp2
              go_quiet (fail)
              go_wp2
              go_ret
              obtain ⟨hCt, hqt⟩ := HC.out
              have R := HR.out
              subst hqt
              rw [hCt] at R ⊢
              exact ⟨below_drewN R.bel _, .inl ⟨⟨htl2, by omega, by omega⟩, rfl, R.cur.drewN _⟩⟩
        · have hql : decide (q < ls.length) = false := decide_eq_false (by omega)
          clear hqt
          by_cases s1 : C ≤ colN ls M
          · have r1 : decide ((1 : Int) ≤ (C : Int) - (colN ls M : Int)) = false := decide_eq_false (by omega)
            go_wp2
            go_quiet (fail)
            go_wp2
            go_quiet (fail)
            go_wp2
            go_quiet (fail)
            go_wp2
            go_ret
            obtain ⟨hCt, hqt⟩ := HC.out
            obtain ⟨t1, t2⟩ := put_back HR.out.bel HR.out.cur _
            exact ⟨t1, .inr ⟨fun hy => (by obtain ⟨y1, y2, y3⟩ := hy; omega), rfl, t2⟩⟩
          · by_cases s5 : colN ls M + 5 ≤ C
            · have r1 : (1 : Int) ≤ (C : Int) - (colN ls M : Int) := by omega
              have r2 : decide ((C : Int) - (colN ls M : Int) < 5) = false := decide_eq_false (by omega)
              go_wp2
              go_quiet (fail)
              go_wp2
              go_quiet (fail)
              go_wp2
              go_quiet (fail)
              go_wp2
              go_ret
              obtain ⟨hCt, hqt⟩ := HC.out
              obtain ⟨t1, t2⟩ := put_back HR.out.bel HR.out.cur _
              exact ⟨t1, .inr ⟨fun hy => (by obtain ⟨y1, y2, y3⟩ := hy; omega), rfl, t2⟩⟩
            · have r1 : (1 : Int) ≤ (C : Int) - (colN ls M : Int) := by omega
              have r2 : (C : Int) - (colN ls M : Int) < 5 := by omega
              go_wp2
              go_quiet (fail)
              go_wp2
              go_quiet (fail)
              go_wp2
              go_quiet (fail)
              go_wp2
              go_ret
              obtain ⟨hCt, hqt⟩ := HC.out
              obtain ⟨t1, t2⟩ := put_back HR.out.bel HR.out.cur _
              exact ⟨t1, .inr ⟨fun hy => (by obtain ⟨y1, y2, y3⟩ := hy; omega), rfl, t2⟩⟩
    · -- six columns: no text within reach
      have h6 : decide ((C : Int) - (colN ls M : Int) ≤ 5) = false := decide_eq_false (by omega)
      have HR : Hid (PadRel ls w b w1.heap.size M ⟨a, ls.length, c, pos, colN ls pos, next, ncol, ind, bl, nb⟩ wr q C) := R
      clear R hO hK
      have r1 : (1 : Int) ≤ (C : Int) - (colN ls M : Int) := by omega
      have r2 : decide ((C : Int) - (colN ls M : Int) < 5) = false := decide_eq_false (by omega)
      go_wp2
      go_quiet (fail)
      go_wp2
      go_quiet (fail)
      go_wp2
      go_quiet (fail)
      go_wp2
      go_ret
      obtain ⟨t1, t2⟩ := put_back HR.out.bel HR.out.cur _
      exact ⟨t1, .inr ⟨fun hy => (by obtain ⟨y1, y2, y3⟩ := hy; omega), rfl, t2⟩⟩

end Go.Proofs.Qxb6002445a
