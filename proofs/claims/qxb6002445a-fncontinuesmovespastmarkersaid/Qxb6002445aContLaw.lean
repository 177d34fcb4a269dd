/-
  ZZContinues, and the walk of FnContinuesMovesPastMarker.
-/
import Derived.Test.Qxb6002445aCont
namespace Go.Proofs.Qxb6002445a
open Go.RowKit
set_option linter.unusedSimpArgs false
set_option linter.unusedVariables false

set_option maxHeartbeats 400000 in
theorem zzContinues_gen (lo N : Nat) (S : ByteArray) (a : Option Addr) (n c pos next ncol : Nat) (ind : Int) (bl : Bool) (nb : Nat) (ls : List Int) (w : World) (Rel : Nat → Nat → Bool → Prop) (hL : Line w lo a ls) (hlo : lo ≤ w.heap.size)
    (h41 : ∀ (b : Nat) (W : World), Lies W b ⟨a, n, c, pos, colN ls pos, next, ncol, ind, bl, nb⟩ → Line W lo a ls → lo ≤ b →
      Calls Try.prog 41 #[.pointer (some ⟨b, 0, none⟩), .agg #[.int .i64 N], .string S] W fun e w' => ∃ p C ok, e = .returned (.bool ok) ∧ Below b W w' ∧ Lies w' b ⟨a, n, c, p, C, next, ncol, ind, bl, nb⟩ ∧ Rel p C ok) :
    Calls Try.prog 31 #[.agg #[.slice a n c, .int .i64 pos, .int .i64 (colN ls pos), .int .i64 next, .int .i64 ncol, .int .i64 ind, .bool bl, .int .i64 nb], .int .i64 N, .string S] w
      fun e w' => ∃ (p C : Nat) (ok : Bool), e = .returned (.tuple #[.agg #[.slice a n c, .int .i64 p, .int .i64 C, .int .i64 next, .int .i64 ncol, .int .i64 ind, .bool bl, .int .i64 nb], .bool ok]) ∧ Below w.heap.size w w' ∧ Rel p C ok := by
  have H : Hid (Line w lo a ls) := hL
  have H41 : Hid (_) := h41
  clear hL h41
  go_enter Try.func31, Try.ntmps31
  go_wp2_with fail
  refine (toCursor_any a n c pos (colN ls pos) next ncol ind bl nb _).mono ?_
  rintro e w1 ⟨rfl, hb1⟩
  go_wp2_with fail
  have hb1' : Below w.heap.size w w1 := (((Below.refl _ _).alloc (Nat.le_refl _) _).alloc (by simp) _).trans (hb1.mono (by simp; omega))
  have hz1 : w.heap.size + 2 ≤ w1.heap.size := by have := hb1.size; simp at this; omega
  have hlo1 := hb1'.size
  refine (H41.out w1.heap.size _ (heap_alloc_new _ _) (H.out.below ((hb1'.alloc hlo1 _).mono hlo)) (by omega)).mono ?_
  rintro e w2 ⟨p, C, ok, rfl, hO, hK, hR⟩
  have HP : Hid (Rel p C ok) := hR
  clear hR H41
  obtain ⟨c0, c1, c2, c3, c4, c5, c6, c7, hf⟩ := hK.cell
  simp only at c0 c1 c2 c3 c4 c5 c6 c7
  go_wp2_with fail
  refine (fromCursor_any a n c p C next ncol ind bl nb _).mono ?_
  rintro e w3 ⟨rfl, hb3⟩
  have hz2 : w1.heap.size + 1 ≤ w2.heap.size := by have := hO.size; simp at this; omega
  have hblk : w3.heap[w.heap.size + 1]? = some (.cells #[.slice none 0 0, .int .i64 0, .int .i64 0, .int .i64 0, .int .i64 0, .int .i64 0, .bool false, .int .i64 0] 59 (0, 0)) := by
    rw [hb3.block _ (by omega), hO.block _ (by omega), Below.heap_alloc _ _ _ (by omega), hb1.block _ (by simp)]
    have := heap_alloc_new (w.alloc (.cells #[Value.slice a n c, Value.int IntKind.i64 ↑pos, Value.int IntKind.i64 ↑(colN ls pos), Value.int IntKind.i64 ↑next, Value.int IntKind.i64 ↑ncol, Value.int IntKind.i64 ind, Value.bool bl, Value.int IntKind.i64 ↑nb] 59)) (.cells #[.slice none 0 0, .int .i64 0, .int .i64 0, .int .i64 0, .int .i64 0, .int .i64 0, .bool false, .int .i64 0] 59)
    simpa using this
  obtain ⟨d0, d1, d2, d3, d4, d5, d6, d7, hg⟩ := eight hblk
  have hbel : Below w.heap.size w w3 := (((hb1'.alloc hlo1 _).trans (hO.mono hlo1)).trans (hb3.mono (by omega)))
  have HB : Hid (Below w.heap.size w w3) := hbel
  clear hbel hblk hb3 hz2 c0 c1 c2 c3 c4 c5 c6 c7 hf hK hO hlo1 hz1 hb1' hb1 H
  go_wp2
  refine bodyPost_ret (v := .tuple #[.agg #[.slice a n c, .int .i64 p, .int .i64 C, .int .i64 next, .int .i64 ncol, .int .i64 ind, .bool bl, .int .i64 nb], .bool ok]) (by simp [results, Try.results31, go_sem, d0, d1, d2, d3, d4, d5, d6, d7]) rfl ⟨p, C, ok, rfl, ?_, HP.out⟩
  have hbel := HB.out
  go_grown

set_option maxRecDepth 8000 in
set_option maxHeartbeats 400000 in
theorem contLaw_far (a : Option Addr) (n c : Nat) (x y : Int) (q : Bool) (w : World) (hn : 65536 < n) (hm : n ≤ 9223372036854775807) :
    Calls Try.prog 7 #[.slice a n c, .int .i64 x, .int .i64 y, .bool q] w fun e w' => e = .returned (.bool true) ∧ Below w.heap.size w w' := by
  by_cases hf : fitB n = true
  · go_enter Try.func7, Try.ntmps7
    go_wp2_with (go_at_call 30; refine (bytes30 _ _ _ _ _ _ _ hm).mono ?_; rintro e w' ⟨rfl, rfl⟩)
    go_ret
    exact ⟨rfl, Below.refl _ _⟩
  · have hf : fitB n = false := by simpa using hf
    go_enter Try.func7, Try.ntmps7
    go_wp2_with (go_at_call 30; refine (bytes30 _ _ _ _ _ _ _ hm).mono ?_; rintro e w' ⟨rfl, rfl⟩)
    go_ret
    exact ⟨rfl, Below.refl _ _⟩

set_option maxRecDepth 8000 in
set_option maxHeartbeats 400000 in
theorem contLaw_out (a : Option Addr) (n c : Nat) (x y : Int) (q : Bool) (w : World) (hn : n ≤ 65536) (ho : x < 0 ∨ (n : Int) < x ∨ y < 0 ∨ 65536 < y) :
    Calls Try.prog 7 #[.slice a n c, .int .i64 x, .int .i64 y, .bool q] w fun e w' => e = .returned (.bool true) ∧ Below w.heap.size w w' := by
  have hf : fitB n = true := decide_eq_true (by omega)
  by_cases h1 : x < 0
  · clear ho
    go_enter Try.func7, Try.ntmps7
    go_wp2_with (go_at_call 30; refine (bytes30 _ _ _ _ _ _ _ (by omega)).mono ?_; rintro e w' ⟨rfl, rfl⟩)
    go_ret
    exact ⟨rfl, Below.refl _ _⟩
  · by_cases h2 : (n : Int) < x
    · clear ho
      go_enter Try.func7, Try.ntmps7
      go_wp2_with (go_at_call 30; refine (bytes30 _ _ _ _ _ _ _ (by omega)).mono ?_; rintro e w' ⟨rfl, rfl⟩)
      go_ret
      exact ⟨rfl, Below.refl _ _⟩
    · by_cases h3 : y < 0
      · clear ho
        go_enter Try.func7, Try.ntmps7
        go_wp2_with (go_at_call 30; refine (bytes30 _ _ _ _ _ _ _ (by omega)).mono ?_; rintro e w' ⟨rfl, rfl⟩)
        go_ret
        exact ⟨rfl, Below.refl _ _⟩
      · have h4 : (65536 : Int) < y := by omega
        clear ho
        go_enter Try.func7, Try.ntmps7
        go_wp2_with (go_at_call 30; refine (bytes30 _ _ _ _ _ _ _ (by omega)).mono ?_; rintro e w' ⟨rfl, rfl⟩)
        go_ret
        exact ⟨rfl, Below.refl _ _⟩

theorem Fits.upto {ls : List Int} {p C x : Nat} (h : Fits ls p C) (hC : C ≤ colN ls x) : p ≤ x := by
  rcases Nat.lt_or_ge x p with h' | h'
  · have h1 := colN_mono ls (x + 1) p (by omega)
    have h2 := (stepC_gt (ls.getD x 0) (colN ls x)).1
    have h3 := h.1
    rw [← colN_succ] at h2
    omega
  · exact h'

set_option maxRecDepth 8000 in
set_option maxHeartbeats 800000 in
theorem contLaw_list (a : Option Addr) (n c A N : Nat) (zs : List Int) (w : World) (hn : n ≤ 65536) (hA : A ≤ n) (hN : N ≤ 65536) (hR : RowIn w a n c zs) (hby : ByteL zs) :
    Calls Try.prog 7 #[.slice a n c, .int .i64 A, .int .i64 N, .bool false] w fun e w' => e = .returned (.bool true) ∧ Below w.heap.size w w' := by
  have hf : fitB n = true := decide_eq_true (by omega)
  have H : Hid (RowIn w a n c zs ∧ ByteL zs) := ⟨hR, hby⟩
  clear hR hby
  go_enter Try.func7, Try.ntmps7
  go_wp2_with (first | (go_at_call 30; refine (bytes30 _ _ _ _ _ _ _ (by omega)).mono ?_; rintro e w' ⟨rfl, rfl⟩) | fail)
  refine (clone_line a n c zs _ hn H.out.1).mono ?_
  rintro e w1 ⟨ad, rfl, hL1, hl, hb1⟩
  have hbl : ByteL (zs.take n) := by
    intro i
    have := H.out.2 i
    simp only [List.getD, List.getElem?_take] at this ⊢
    split
    · exact this
    · simp
  generalize zs.take n = ls at hL1 hl hbl
  have HL : Hid (Line w1 w1.heap.size ad ls ∧ n = ls.length ∧ Below w.heap.size w w1 ∧ ByteL ls) := ⟨hL1, hl.symm, hb1, hbl⟩
  clear hL1 hl H hb1 hbl
  have hl16 : ls.length ≤ 65536 := by have := HL.out.2.1; omega
  have hAl : A ≤ ls.length := by have := HL.out.2.1; omega
  go_wp2_with fail
  refine (skip_zero w1.heap.size A ad n n ls _ (HL.out.1.below ((Below.refl _ _).alloc (Nat.le_refl _) _)) (by simp) HL.out.2.1 hl16 hAl).mono ?_
  rintro e w2 ⟨rfl, hb2⟩
  have hk2 : w2.heap[w1.heap.size]? = some (.cells #[.slice ad n n, .int .i64 0, .int .i64 0, .int .i64 0, .int .i64 0, .int .i64 0, .bool false, .int .i64 0] 59 (0, 0)) := (hb2.block _ (by simp)).trans (heap_alloc_new _ _)
  have hB2 : Below w1.heap.size w1 w2 := ((Below.refl _ _).alloc (Nat.le_refl _) _).trans (hb2.mono (by simp))
  clear hb2
  obtain ⟨d0, d1, d2, d3, d4, d5, d6, d7, hg⟩ := eight hk2
  go_wp2_with fail
  refine (find_zero w1.heap.size ad n n A ls _ ?_ ?_ HL.out.2.1 hl16 hAl).mono ?_
  · exact (line8 HL.out.1 hB2 (Nat.le_refl _) hk2).1
  · exact (line8 HL.out.1 hB2 (Nat.le_refl _) hk2).2
  rintro e w3 ⟨rfl, hb3⟩
  obtain ⟨hk3, hB3, _, hz3⟩ := chain8 hk2 hb3
  have hB3 := hB2.trans (hB3 _ (Nat.le_refl _))
  clear hb3 d0 d1 d2 d3 d4 d5 d6 d7 hg hk2 hB2 hz3
  obtain ⟨d0, d1, d2, d3, d4, d5, d6, d7, hg⟩ := eight hk3
  have hlo : w.heap.size ≤ w1.heap.size := HL.out.2.2.1.size
  have HK : Hid (_) := hk3
  have HW : Hid (Below w.heap.size w w3 ∧ Line w3 w1.heap.size ad ls ∧ n = ls.length ∧ ByteL ls) := ⟨HL.out.2.2.1.trans (hB3.mono hlo), HL.out.1.below hB3, HL.out.2.1, HL.out.2.2.2⟩
  clear hk3 hB3 HL
  have hxl := nextN_le ls A hAl
  have hxg := nextN_ge ls A
  have hcA := colN_le ls A
  have hcx := colN_le ls (nextN ls A)
  have hcm := colN_mono ls A (nextN ls A) hxg
  have hcl := colN_mono ls (nextN ls A) ls.length hxl
  have HT : Hid ((nextN ls A < ls.length → stB (ls.getD (nextN ls A) 0) = false) ∧ (∀ i, A ≤ i → i < nextN ls A → stB (ls.getD i 0) = true)) := ⟨nextN_stop ls A hAl, nextN_at ls A⟩
  generalize nextN ls A = x at hxl hxg hcx hcm hcl HT HK ⊢
  by_cases hbk : x < ls.length
  · have hdl : decide (x = ls.length) = false := decide_eq_false (by omega)
    go_wp2
    clear d0 d1 d2 d3 d4 d5 d6 d7 hg
    go_loopg [10] x (fun g i wr => ∃ q : Nat, x - q ≤ g ∧ A ≤ q ∧ q ≤ x ∧ i = .int .i64 q ∧
      wr.heap[w1.heap.size]? = some (.cells #[.slice ad n n, .int .i64 A, .int .i64 (colN ls A), .int .i64 x, .int .i64 (colN ls x), .int .i64 ((colN ls x : Int) - colN ls A), .bool false, .int .i64 0] 59 (0, 0)) ∧ Below w.heap.size w wr ∧ Line wr w1.heap.size ad ls)
    case atStart =>
      obtain ⟨s1, s2⟩ := store8 (.slice ad n n) (.int .i64 A) (.int .i64 (colN ls A)) (.int .i64 x) (.int .i64 (colN ls x)) (.int .i64 ((colN ls x : Int) - colN ls A)) (.bool false) (.int .i64 0) HK.out
      exact ⟨A, Nat.sub_le _ _, Nat.le_refl _, hxg, rfl, s1, HW.out.1.trans (s2.below hlo), HW.out.2.1.below (s2.below (Nat.le_refl _))⟩
    case round =>
      obtain ⟨q, hg, h1, h2, rfl, hF, hB, hLr⟩ := hrel
      obtain ⟨d0, d1, d2, d3, d4, d5, d6, d7, _⟩ := eight hF
      have HR : Hid (Below w.heap.size w wr ∧ Line wr w1.heap.size ad ls ∧ w1.heap.size < wr.heap.size) := ⟨hB, hLr, lt_of_block hF⟩
      have HG : Hid (_) := hF
      clear hF hB hLr
      have hnl : n = ls.length := HW.out.2.2.1
      by_cases hq : q < x
      · obtain ⟨L, hL, rfl, hcl⟩ := HR.out.2.1 q (by omega)
        have hbl := HT.out.2 q h1 hq
        generalize ls.getD q 0 = ch at hcl hbl
        have hlt : q < n := by omega
        clear hnl
        clear d0 d1 d2 d3 d4 d5 d6 d7
        go_wp2_with (go_at_call 26; refine (spaceTab_any _ _).mono ?_; rintro e w' ⟨rfl, rfl⟩)
        go_roundg (x - (q + 1))
        case measure => omega
        case rel => exact ⟨q + 1, by omega, by omega, by omega, by go_num, HG.out, HR.out.1, HR.out.2.1⟩
      · have hqx : x = q := by omega
        subst hqx
        have hbl := HT.out.1 hbk
        obtain ⟨L, hL, rfl, hcl⟩ := HR.out.2.1 x hbk
        have hxn : x < n := by omega
        have HC : Hid (ls.getD x 0 = ls.getD x 0) := rfl
        generalize hch : ls.getD x 0 = ch at hcl hbl
        have HCH : Hid (ls.getD x 0 = ch) := hch
        clear hnl hch HC
        go_wp2_with (first | (go_at_call 26; refine (spaceTab_any _ _).mono ?_; rintro e w' ⟨rfl, rfl⟩) | fail)
        refine (colOf_any w1.heap.size _ n n A ls _ hn HW.out.2.2.1.symm hA HR.out.2.1).mono ?_
        rintro e w' ⟨rfl, rfl⟩
        go_wp2_with fail
        refine (colOf_any w1.heap.size _ n n x ls _ hn HW.out.2.2.1.symm (by omega) HR.out.2.1).mono ?_
        rintro e w' ⟨rfl, rfl⟩
        go_wp2_with fail
        refine (zzContinues_gen w1.heap.size N _ _ n n A x _ _ _ 0 ls _ (fun p C ok => ((N : Int) ≤ (colN ls x : Int) - colN ls A ∧ ok = true ∧ C = colN ls A + N ∧ Fits ls p C ∧ A ≤ p) ∨ ((colN ls x : Int) - colN ls A < N ∧ ok = false ∧ p = A ∧ C = colN ls A)) HR.out.2.1 (Nat.le_of_lt HR.out.2.2) ?_).mono ?_
        · intro b W h1 h2 h3
          exact contList_any w1.heap.size b N _ ls W h1 h2 h3 HW.out.2.2.1 hl16 rfl hAl (by show ((colN ls x : Int) - colN ls A) + (colN ls A : Int) ≤ _; omega)
        rintro e w5 ⟨p, C, ok, rfl, hb5, hP⟩
        have HB5 : Hid (Below w.heap.size w w5) := HR.out.1.trans (hb5.mono HR.out.1.size)
        clear hb5 d0 d1 d2 d3 d4 d5 d6 d7
        rcases hP with ⟨hy, rfl, rfl, hF, hp⟩ | ⟨hno, rfl, hp, rfl⟩
        · have hpx : p ≤ x := hF.upto (by omega)
          clear hF
          go_wp2
          go_ret
          have := HB5.out
          exact ⟨rfl, this.alloc this.size _⟩
        · have hp' := hp.symm
          subst hp'
          go_wp2
          go_ret
          have := HB5.out
          exact ⟨rfl, this.alloc this.size _⟩
  · have hdl : decide (x = ls.length) = true := decide_eq_true (by omega)
    go_wp2
    go_ret
    exact ⟨rfl, HW.out.1.trans ((store8 _ _ _ _ _ _ _ _ HK.out).2.below hlo)⟩

set_option maxRecDepth 8000 in
set_option maxHeartbeats 800000 in
theorem contLaw_quote (a : Option Addr) (n c A N : Nat) (zs : List Int) (w : World) (hn : n ≤ 65536) (hA : A ≤ n) (hN : N ≤ 65536) (hR : RowIn w a n c zs) (hby : ByteL zs) :
    Calls Try.prog 7 #[.slice a n c, .int .i64 A, .int .i64 N, .bool true] w fun e w' => e = .returned (.bool true) ∧ Below w.heap.size w w' := by
  have hf : fitB n = true := decide_eq_true (by omega)
  have H : Hid (RowIn w a n c zs ∧ ByteL zs) := ⟨hR, hby⟩
  clear hR hby
  go_enter Try.func7, Try.ntmps7
  go_wp2_with (first | (go_at_call 30; refine (bytes30 _ _ _ _ _ _ _ (by omega)).mono ?_; rintro e w' ⟨rfl, rfl⟩) | fail)
  refine (clone_line a n c zs _ hn H.out.1).mono ?_
  rintro e w1 ⟨ad, rfl, hL1, hl, hb1⟩
  have hbl : ByteL (zs.take n) := by
    intro i
    have := H.out.2 i
    simp only [List.getD, List.getElem?_take] at this ⊢
    split
    · exact this
    · simp
  generalize zs.take n = ls at hL1 hl hbl
  have HL : Hid (Line w1 w1.heap.size ad ls ∧ n = ls.length ∧ Below w.heap.size w w1 ∧ ByteL ls) := ⟨hL1, hl.symm, hb1, hbl⟩
  clear hL1 hl H hb1 hbl
  have hl16 : ls.length ≤ 65536 := by have := HL.out.2.1; omega
  have hAl : A ≤ ls.length := by have := HL.out.2.1; omega
  go_wp2_with fail
  refine (skip_zero w1.heap.size A ad n n ls _ (HL.out.1.below ((Below.refl _ _).alloc (Nat.le_refl _) _)) (by simp) HL.out.2.1 hl16 hAl).mono ?_
  rintro e w2 ⟨rfl, hb2⟩
  have hk2 : w2.heap[w1.heap.size]? = some (.cells #[.slice ad n n, .int .i64 0, .int .i64 0, .int .i64 0, .int .i64 0, .int .i64 0, .bool false, .int .i64 0] 59 (0, 0)) := (hb2.block _ (by simp)).trans (heap_alloc_new _ _)
  have hB2 : Below w1.heap.size w1 w2 := ((Below.refl _ _).alloc (Nat.le_refl _) _).trans (hb2.mono (by simp))
  clear hb2
  obtain ⟨d0, d1, d2, d3, d4, d5, d6, d7, hg⟩ := eight hk2
  go_wp2_with fail
  refine (find_zero w1.heap.size ad n n A ls _ ?_ ?_ HL.out.2.1 hl16 hAl).mono ?_
  · exact (line8 HL.out.1 hB2 (Nat.le_refl _) hk2).1
  · exact (line8 HL.out.1 hB2 (Nat.le_refl _) hk2).2
  rintro e w3 ⟨rfl, hb3⟩
  obtain ⟨hk3, hB3, _, hz3⟩ := chain8 hk2 hb3
  have hB3 := hB2.trans (hB3 _ (Nat.le_refl _))
  clear hb3 d0 d1 d2 d3 d4 d5 d6 d7 hg hk2 hB2 hz3
  obtain ⟨d0, d1, d2, d3, d4, d5, d6, d7, hg⟩ := eight hk3
  have hlo : w.heap.size ≤ w1.heap.size := HL.out.2.2.1.size
  have HK : Hid (_) := hk3
  have HW : Hid (Below w.heap.size w w3 ∧ Line w3 w1.heap.size ad ls ∧ n = ls.length ∧ ByteL ls) := ⟨HL.out.2.2.1.trans (hB3.mono hlo), HL.out.1.below hB3, HL.out.2.1, HL.out.2.2.2⟩
  clear hk3 hB3 HL
  have hxl := nextN_le ls A hAl
  have hxg := nextN_ge ls A
  have hcA := colN_le ls A
  have hcx := colN_le ls (nextN ls A)
  have hcm := colN_mono ls A (nextN ls A) hxg
  have hcl := colN_mono ls (nextN ls A) ls.length hxl
  have HT : Hid ((nextN ls A < ls.length → stB (ls.getD (nextN ls A) 0) = false) ∧ (∀ i, A ≤ i → i < nextN ls A → stB (ls.getD i 0) = true)) := ⟨nextN_stop ls A hAl, nextN_at ls A⟩
  generalize nextN ls A = x at hxl hxg hcx hcm hcl HT HK ⊢
  by_cases hbk : x < ls.length
  · have hdl : decide (x = ls.length) = false := decide_eq_false (by omega)
    go_wp2
    clear d0 d1 d2 d3 d4 d5 d6 d7 hg
    go_loopg [10] x (fun g i wr => ∃ q : Nat, x - q ≤ g ∧ A ≤ q ∧ q ≤ x ∧ i = .int .i64 q ∧
      wr.heap[w1.heap.size]? = some (.cells #[.slice ad n n, .int .i64 A, .int .i64 (colN ls A), .int .i64 x, .int .i64 (colN ls x), .int .i64 ((colN ls x : Int) - colN ls A), .bool false, .int .i64 0] 59 (0, 0)) ∧ Below w.heap.size w wr ∧ Line wr w1.heap.size ad ls)
    case atStart =>
      obtain ⟨s1, s2⟩ := store8 (.slice ad n n) (.int .i64 A) (.int .i64 (colN ls A)) (.int .i64 x) (.int .i64 (colN ls x)) (.int .i64 ((colN ls x : Int) - colN ls A)) (.bool false) (.int .i64 0) HK.out
      exact ⟨A, Nat.sub_le _ _, Nat.le_refl _, hxg, rfl, s1, HW.out.1.trans (s2.below hlo), HW.out.2.1.below (s2.below (Nat.le_refl _))⟩
    case round =>
      obtain ⟨q, hg, h1, h2, rfl, hF, hB, hLr⟩ := hrel
      obtain ⟨d0, d1, d2, d3, d4, d5, d6, d7, _⟩ := eight hF
      have HR : Hid (Below w.heap.size w wr ∧ Line wr w1.heap.size ad ls ∧ w1.heap.size < wr.heap.size) := ⟨hB, hLr, lt_of_block hF⟩
      have HG : Hid (_) := hF
      clear hF hB hLr
      have hnl : n = ls.length := HW.out.2.2.1
      by_cases hq : q < x
      · obtain ⟨L, hL, rfl, hcl⟩ := HR.out.2.1 q (by omega)
        have hbl := HT.out.2 q h1 hq
        generalize ls.getD q 0 = ch at hcl hbl
        have hlt : q < n := by omega
        clear hnl
        clear d0 d1 d2 d3 d4 d5 d6 d7
        go_wp2_with (go_at_call 26; refine (spaceTab_any _ _).mono ?_; rintro e w' ⟨rfl, rfl⟩)
        go_roundg (x - (q + 1))
        case measure => omega
        case rel => exact ⟨q + 1, by omega, by omega, by omega, by go_num, HG.out, HR.out.1, HR.out.2.1⟩
      · have hqx : x = q := by omega
        subst hqx
        have hbl := HT.out.1 hbk
        obtain ⟨L, hL, rfl, hcl⟩ := HR.out.2.1 x hbk
        have hxn : x < n := by omega
        have HC : Hid (ls.getD x 0 = ls.getD x 0) := rfl
        generalize hch : ls.getD x 0 = ch at hcl hbl
        have HCH : Hid (ls.getD x 0 = ch) := hch
        clear hnl hch HC
        go_wp2_with (first | (go_at_call 26; refine (spaceTab_any _ _).mono ?_; rintro e w' ⟨rfl, rfl⟩) | fail)
        refine (colOf_any w1.heap.size _ n n A ls _ hn HW.out.2.2.1.symm hA HR.out.2.1).mono ?_
        rintro e w' ⟨rfl, rfl⟩
        go_wp2_with fail
        refine (colOf_any w1.heap.size _ n n x ls _ hn HW.out.2.2.1.symm (by omega) HR.out.2.1).mono ?_
        rintro e w' ⟨rfl, rfl⟩
        go_wp2_with fail
        refine (zzContinues_gen w1.heap.size N _ _ n n A x _ _ _ 0 ls _ (fun p C ok => (QuoteYes ls x ((colN ls x : Int) - colN ls A) ∧ ok = true ∧ QuoteIs ls x p C) ∨ (¬ QuoteYes ls x ((colN ls x : Int) - colN ls A) ∧ ok = false ∧ p = A ∧ C = colN ls A)) HR.out.2.1 (Nat.le_of_lt HR.out.2.2) ?_).mono ?_
        · intro b W h1 h2 h3
          exact contQuote_any w1.heap.size b N _ ls W h1 h2 h3 HW.out.2.2.1 hl16 HW.out.2.2.2 rfl hxg hbk
        rintro e w5 ⟨p, C, ok, rfl, hb5, hP⟩
        have HB5 : Hid (Below w.heap.size w w5) := HR.out.1.trans (hb5.mono HR.out.1.size)
        have hL5 : Line w5 w1.heap.size (some ⟨L, 0, none⟩) ls := HR.out.2.1.below (hb5.mono (Nat.le_of_lt HR.out.2.2))
        have hLw : L < w5.heap.size := by have := hb5.size; have := HR.out.2.2; omega
        clear hb5 d0 d1 d2 d3 d4 d5 d6 d7 hcl
        obtain ⟨L', _, hLL, hcl⟩ := hL5 x hbk
        simp only [Option.some.injEq, Addr.mk.injEq, and_true] at hLL
        subst hLL
        rw [HCH.out] at hcl
        have HL5 : Hid (Line w5 w1.heap.size (some ⟨L, 0, none⟩) ls) := hL5
        clear hL5
        rcases hP with ⟨⟨hy1, hy2⟩, rfl, hQ⟩ | ⟨hno, rfl, hp, rfl⟩
        · have hch62 : ch = 62 := HCH.out.symm.trans hy2
          subst hch62
          have e1 : colN ls (x + 1) = colN ls x + 1 := by rw [colN_succ, hy2]; exact stepC_other _ _ (by decide)
          have HY : Hid (ls.getD x 0 = 62 ∧ colN ls (x + 1) = colN ls x + 1 ∧ QuoteIs ls x p C) := ⟨hy2, e1, hQ⟩
          clear hy2 e1 hQ HCH
          by_cases hx1 : x + 1 < n
          · have hx1l : x + 1 < ls.length := by have := HW.out.2.2.1; omega
            obtain ⟨L', _, hLL, hc1⟩ := HL5.out (x + 1) hx1l
            simp only [Option.some.injEq, Addr.mk.injEq, and_true] at hLL
            subst hLL
            by_cases hst : stB (ls.getD (x + 1) 0) = true
            · obtain ⟨hC, hF⟩ : C = colN ls x + 2 ∧ Fits ls p C := by
                rcases HY.out.2.2 with ⟨h, _, _⟩ | ⟨_, _, h, h'⟩
                · exact absurd ⟨hx1l, hst⟩ h
                · exact ⟨by rw [h, HY.out.2.1], h'⟩
              have hA1 := Fits.at ls (x + 1) (by omega)
              rw [HY.out.2.1] at hA1
              have HF : Hid (C = colN ls x + 2 ∧ Fits ls p C ∧ Fits ls (x + 1) (colN ls x + 1)) := ⟨hC, hF, hA1⟩
              clear hC hF hA1
              rcases stB_cases _ hst with h32 | h9
              · have hp2 : p = x + 2 := by
                  have h := (HF.out.2.2.other hx1l (by rw [h32]; decide)).2
                  have h' := HF.out.2.1
                  rw [HF.out.1] at h'
                  exact h'.one h
                have hC2 := HF.out.1
                rw [h32] at hc1 hst
                clear h32 HF HY HL5
                subst hp2; subst hC2
                go_wp2_with (go_at_call 26; refine (spaceTab_any _ _).mono ?_; rintro e w' ⟨rfl, rfl⟩)
                go_ret
                have := HB5.out
                exact ⟨ret_bool (by rw [beq_iff_eq]; omega), this.alloc this.size _⟩
              · obtain ⟨t1, t2, t3⟩ := HF.out.2.2.tab hx1l h9
                by_cases h3 : (colN ls x + 1) % 4 = 3
                · have hp2 : p = x + 2 := by
                    have h' := HF.out.2.1
                    rw [HF.out.1] at h'
                    have e : colN ls x + 1 + (4 - (colN ls x + 1) % 4) = colN ls x + 2 := by omega
                    rw [e] at t2
                    exact h'.one t2
                  have hC2 := HF.out.1
                  rw [h9] at hc1 hst
                  have h3' : (((colN ls x : Int) + 1) % 4 == 3) = true := by simp; omega
                  clear h9 HF HY HL5 t1 t2 t3 h3
                  subst hp2; subst hC2
                  go_wp2_with (go_at_call 26; refine (spaceTab_any _ _).mono ?_; rintro e w' ⟨rfl, rfl⟩)
                  go_ret
                  have := HB5.out
                  exact ⟨ret_bool (by rw [beq_iff_eq]; omega), this.alloc this.size _⟩
                · have hp2 : p = x + 1 := by
                    have h' := HF.out.2.1
                    rw [HF.out.1] at h'
                    exact h'.one (t3 1 (by omega))
                  have hC2 := HF.out.1
                  rw [h9] at hc1 hst
                  have h3' : (((colN ls x : Int) + 1) % 4 == 3) = false := by simp; omega
                  clear h9 HF HY HL5 t1 t2 t3 h3
                  subst hp2; subst hC2
                  go_wp2_with (go_at_call 26; refine (spaceTab_any _ _).mono ?_; rintro e w' ⟨rfl, rfl⟩)
                  go_ret
                  have := HB5.out
                  exact ⟨ret_bool (by rw [beq_iff_eq]; omega), this.alloc this.size _⟩
            · obtain ⟨hp2, hC2⟩ : p = x + 1 ∧ C = colN ls x + 1 := by
                rcases HY.out.2.2 with ⟨_, h, h'⟩ | ⟨_, h, _, _⟩
                · exact ⟨h, by rw [h', HY.out.2.1]⟩
                · exact absurd h hst
              have hst : stB (ls.getD (x + 1) 0) = false := by simpa using hst
              generalize ls.getD (x + 1) 0 = dh at hc1 hst
              clear HY HL5
              subst hp2; subst hC2
              go_wp2_with (go_at_call 26; refine (spaceTab_any _ _).mono ?_; rintro e w' ⟨rfl, rfl⟩)
              go_ret
              have := HB5.out
              exact ⟨rfl, this.alloc this.size _⟩
          · obtain ⟨hp2, hC2⟩ : p = x + 1 ∧ C = colN ls x + 1 := by
              rcases HY.out.2.2 with ⟨_, h, h'⟩ | ⟨h, _, _, _⟩
              · exact ⟨h, by rw [h', HY.out.2.1]⟩
              · exact absurd h (by have := HW.out.2.2.1; omega)
            clear HY HL5
            subst hp2; subst hC2
            go_wp2
            go_ret
            have := HB5.out
            exact ⟨rfl, this.alloc this.size _⟩
        · have hp' := hp.symm
          subst hp'
          by_cases h3 : (colN ls x : Int) - (colN ls A : Int) ≤ 3
          · have h62 : (ch == 62) = false := by
              have : ¬ ch = 62 := fun h => hno ⟨h3, HCH.out.trans h⟩
              simpa using this
            clear hno
            go_wp2
            go_ret
            have := HB5.out
            exact ⟨rfl, this.alloc this.size _⟩
          · clear hno
            go_wp2
            go_ret
            have := HB5.out
            exact ⟨rfl, this.alloc this.size _⟩
  · have hdl : decide (x = ls.length) = true := decide_eq_true (by omega)
    go_wp2
    go_ret
    exact ⟨rfl, HW.out.1.trans ((store8 _ _ _ _ _ _ _ _ HK.out).2.below hlo)⟩

end Go.Proofs.Qxb6002445a
