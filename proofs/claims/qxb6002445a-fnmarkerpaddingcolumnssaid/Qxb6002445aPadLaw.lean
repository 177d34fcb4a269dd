/-
  ZZMarkerPadding, and the walk of FnMarkerPaddingColumns.
-/
import Derived.Test.Qxb6002445aPad
namespace Go.Proofs.Qxb6002445a
open Go.RowKit
set_option linter.unusedSimpArgs false
set_option linter.unusedVariables false

/-- What markerPadding answers and where it leaves the cursor. -/
def PadIs (ls : List Int) (M W p : Nat) (R : Int) : Prop :=
  (PadYes ls M ∧ p = nextN ls M ∧ R = (W : Int) + ((colN ls (nextN ls M) : Int) - colN ls M)) ∨ (¬ PadYes ls M ∧ p = M ∧ R = (W : Int) + 1)

theorem pad_out {ls : List Int} {b M W : Nat} {k : Cur} {w w' : World} {e : Ending} (h : PadPost ls b M W k w e w') :
    ∃ p R, e = .returned (.int .i64 R) ∧ Below b w w' ∧ Lies w' b { k with pos := p, col := colN ls p } ∧ PadIs ls M W p R := by
  obtain ⟨hb, ⟨h1, h2, h3⟩ | ⟨h1, h2, h3⟩⟩ := h
  · exact ⟨_, _, h2, hb, h3, .inl ⟨h1, rfl, rfl⟩⟩
  · exact ⟨_, _, h2, hb, h3, .inr ⟨h1, rfl, rfl⟩⟩

set_option maxHeartbeats 400000 in
theorem zzMarkerPadding_any (lo W : Nat) (a : Option Addr) (n c pos next ncol : Nat) (ind : Int) (bl : Bool) (nb : Nat) (ls : List Int) (w : World) (hL : Line w lo a ls) (hlo : lo ≤ w.heap.size) (hn : n = ls.length) (h16 : ls.length ≤ 65536) (hby : ByteL ls)
    (hp : pos ≤ next) (hW : next + W ≤ ls.length) :
    Calls Try.prog 29 #[.agg #[.slice a n c, .int .i64 pos, .int .i64 (colN ls pos), .int .i64 next, .int .i64 ncol, .int .i64 ind, .bool bl, .int .i64 nb], .int .i64 W] w
      fun e w' => ∃ (p : Nat) (R : Int), e = .returned (.tuple #[.agg #[.slice a n c, .int .i64 p, .int .i64 (colN ls p), .int .i64 next, .int .i64 ncol, .int .i64 ind, .bool bl, .int .i64 nb], .int .i64 R]) ∧ Below w.heap.size w w' ∧ PadIs ls (next + W) W p R := by
  have H : Hid (Line w lo a ls ∧ n = ls.length ∧ ByteL ls) := ⟨hL, hn, hby⟩
  clear hL hn hby
  go_enter Try.func29, Try.ntmps29
  go_wp2_with fail
  refine (toCursor_any a n c pos (colN ls pos) next ncol ind bl nb _).mono ?_
  rintro e w1 ⟨rfl, hb1⟩
  go_wp2_with fail
  have hb1' : Below w.heap.size w w1 := (((Below.refl _ _).alloc (Nat.le_refl _) _).alloc (by simp) _).trans (hb1.mono (by simp; omega))
  have hz1 : w.heap.size + 2 ≤ w1.heap.size := by have := hb1.size; simp at this; omega
  have hlo1 := hb1'.size
  refine (markerPadding_any lo w1.heap.size W ⟨a, n, c, pos, colN ls pos, next, ncol, ind, bl, nb⟩ ls _ (heap_alloc_new _ _) (H.out.1.below ((hb1'.alloc hlo1 _).mono hlo)) (by omega) H.out.2.1 h16 H.out.2.2 rfl hp hW).mono ?_
  intro e w2 hpost
  obtain ⟨p, R, rfl, hO, hK, hR⟩ := pad_out hpost
  have HP : Hid (PadIs ls (next + W) W p R) := hR
  clear hpost hR
  obtain ⟨c0, c1, c2, c3, c4, c5, c6, c7, hf⟩ := hK.cell
  simp only at c0 c1 c2 c3 c4 c5 c6 c7
  go_wp2_with fail
  refine (fromCursor_any a n c p (colN ls p) next ncol ind bl nb _).mono ?_
  rintro e w3 ⟨rfl, hb3⟩
  have hz2 : w1.heap.size + 1 ≤ w2.heap.size := by have := hO.size; simp at this; omega
  have hblk : w3.heap[w.heap.size + 1]? = some (.cells #[.slice none 0 0, .int .i64 0, .int .i64 0, .int .i64 0, .int .i64 0, .int .i64 0, .bool false, .int .i64 0] 59 (0, 0)) := by
    rw [hb3.block _ (by omega), hO.block _ (by omega), Below.heap_alloc _ _ _ (by omega), hb1.block _ (by simp)]
    have := heap_alloc_new (w.alloc (.cells #[Value.slice a n c, Value.int IntKind.i64 ↑pos, Value.int IntKind.i64 ↑(colN ls pos), Value.int IntKind.i64 ↑next, Value.int IntKind.i64 ↑ncol, Value.int IntKind.i64 ind, Value.bool bl, Value.int IntKind.i64 ↑nb] 59)) (.cells #[.slice none 0 0, .int .i64 0, .int .i64 0, .int .i64 0, .int .i64 0, .int .i64 0, .bool false, .int .i64 0] 59)
    simpa using this
  obtain ⟨d0, d1, d2, d3, d4, d5, d6, d7, hg⟩ := eight hblk
  have hbel : Below w.heap.size w w3 := (((hb1'.alloc hlo1 _).trans (hO.mono hlo1)).trans (hb3.mono (by omega)))
  have HB : Hid (Below w.heap.size w w3) := hbel
  clear hbel hblk hb3 hz2 c0 c1 c2 c3 c4 c5 c6 c7 hf hK hO hlo1 hz1 hb1' hb1 H
  go_wp2
  refine bodyPost_ret (v := .tuple #[.agg #[.slice a n c, .int .i64 p, .int .i64 (colN ls p), .int .i64 next, .int .i64 ncol, .int .i64 ind, .bool bl, .int .i64 nb], .int .i64 R]) (by simp [results, Try.results29, go_sem, d0, d1, d2, d3, d4, d5, d6, d7]) rfl ⟨p, R, rfl, ?_, HP.out⟩
  have hbel := HB.out
  go_grown

set_option maxHeartbeats 400000 in
theorem padLaw_far (a : Option Addr) (n c : Nat) (x y : Int) (w : World) (hn : 65536 < n) (hm : n ≤ 9223372036854775807) :
    Calls Try.prog 6 #[.slice a n c, .int .i64 x, .int .i64 y] w fun e w' => e = .returned (.bool true) ∧ Below w.heap.size w w' := by
  by_cases hf : fitB n = true
  · go_enter Try.func6, Try.ntmps6
    go_wp2_with (go_at_call 28; refine (bytes28 _ _ _ _ _ _ hm).mono ?_; rintro e w' ⟨rfl, rfl⟩)
    go_ret
    exact ⟨rfl, Below.refl _ _⟩
  · have hf : fitB n = false := by simpa using hf
    go_enter Try.func6, Try.ntmps6
    go_wp2_with (go_at_call 28; refine (bytes28 _ _ _ _ _ _ hm).mono ?_; rintro e w' ⟨rfl, rfl⟩)
    go_ret
    exact ⟨rfl, Below.refl _ _⟩

set_option maxRecDepth 8000 in
set_option maxHeartbeats 400000 in
theorem padLaw_out (a : Option Addr) (n c : Nat) (x y : Int) (w : World) (hn : n ≤ 65536) (ho : x < 0 ∨ (n : Int) < x ∨ y < 0 ∨ (n : Int) < y) :
    Calls Try.prog 6 #[.slice a n c, .int .i64 x, .int .i64 y] w fun e w' => e = .returned (.bool true) ∧ Below w.heap.size w w' := by
  have hf : fitB n = true := decide_eq_true (by omega)
  by_cases h1 : x < 0
  · clear ho
    go_enter Try.func6, Try.ntmps6
    go_wp2_with (go_at_call 28; refine (bytes28 _ _ _ _ _ _ (by omega)).mono ?_; rintro e w' ⟨rfl, rfl⟩)
    go_ret
    exact ⟨rfl, Below.refl _ _⟩
  · by_cases h2 : (n : Int) < x
    · clear ho
      go_enter Try.func6, Try.ntmps6
      go_wp2_with (go_at_call 28; refine (bytes28 _ _ _ _ _ _ (by omega)).mono ?_; rintro e w' ⟨rfl, rfl⟩)
      go_ret
      exact ⟨rfl, Below.refl _ _⟩
    · by_cases h3 : y < 0
      · clear ho
        go_enter Try.func6, Try.ntmps6
        go_wp2_with (go_at_call 28; refine (bytes28 _ _ _ _ _ _ (by omega)).mono ?_; rintro e w' ⟨rfl, rfl⟩)
        go_ret
        exact ⟨rfl, Below.refl _ _⟩
      · have h4 : (n : Int) < y := by omega
        clear ho
        go_enter Try.func6, Try.ntmps6
        go_wp2_with (go_at_call 28; refine (bytes28 _ _ _ _ _ _ (by omega)).mono ?_; rintro e w' ⟨rfl, rfl⟩)
        go_ret
        exact ⟨rfl, Below.refl _ _⟩

set_option maxRecDepth 8000 in
set_option maxHeartbeats 800000 in
theorem padLaw_in (a : Option Addr) (n c A W : Nat) (zs : List Int) (w : World) (hn : n ≤ 65536) (hA : A ≤ n) (hWn : W ≤ n) (hR : RowIn w a n c zs) (hby : ByteL zs) :
    Calls Try.prog 6 #[.slice a n c, .int .i64 A, .int .i64 W] w fun e w' => e = .returned (.bool true) ∧ Below w.heap.size w w' := by
  have hf : fitB n = true := decide_eq_true (by omega)
  have H : Hid (RowIn w a n c zs ∧ ByteL zs) := ⟨hR, hby⟩
  clear hR hby
  go_enter Try.func6, Try.ntmps6
  go_wp2_with (first | (go_at_call 28; refine (bytes28 _ _ _ _ _ _ (by omega)).mono ?_; rintro e w' ⟨rfl, rfl⟩) | fail)
  refine (clone_line a n c zs _ hn H.out.1).mono ?_
  rintro e w1 ⟨ad, rfl, hL1, hl, hb1⟩
  have hbl : ByteL (zs.take n) := by
    intro i
    have := H.out.2 i
    simp only [List.getD, List.getElem?_take] at this ⊢
    split
    · exact this
    · simp
  generalize zs.take n = ls at hL1 hl hbl
  have HL : Hid (Line w1 w1.heap.size ad ls ∧ n = ls.length ∧ Below w.heap.size w w1 ∧ ByteL ls) := ⟨hL1, hl.symm, hb1, hbl⟩
  clear hL1 hl H hb1 hbl
  have hl16 : ls.length ≤ 65536 := by have := HL.out.2.1; omega
  have hAl : A ≤ ls.length := by have := HL.out.2.1; omega
  go_wp2_with fail
  refine (skip_zero w1.heap.size A ad n n ls _ (HL.out.1.below ((Below.refl _ _).alloc (Nat.le_refl _) _)) (by simp) HL.out.2.1 hl16 hAl).mono ?_
  rintro e w2 ⟨rfl, hb2⟩
  have hk2 : w2.heap[w1.heap.size]? = some (.cells #[.slice ad n n, .int .i64 0, .int .i64 0, .int .i64 0, .int .i64 0, .int .i64 0, .bool false, .int .i64 0] 59 (0, 0)) := (hb2.block _ (by simp)).trans (heap_alloc_new _ _)
  have hB2 : Below w1.heap.size w1 w2 := ((Below.refl _ _).alloc (Nat.le_refl _) _).trans (hb2.mono (by simp))
  clear hb2
  obtain ⟨d0, d1, d2, d3, d4, d5, d6, d7, hg⟩ := eight hk2
  go_wp2_with fail
  refine (find_zero w1.heap.size ad n n A ls _ ?_ ?_ HL.out.2.1 hl16 hAl).mono ?_
  · exact (line8 HL.out.1 hB2 (Nat.le_refl _) hk2).1
  · exact (line8 HL.out.1 hB2 (Nat.le_refl _) hk2).2
  rintro e w3 ⟨rfl, hb3⟩
  obtain ⟨hk3, hB3, _, hz3⟩ := chain8 hk2 hb3
  have hB3 := hB2.trans (hB3 _ (Nat.le_refl _))
  clear hb3 d0 d1 d2 d3 d4 d5 d6 d7 hg hk2 hB2 hz3
  obtain ⟨d0, d1, d2, d3, d4, d5, d6, d7, hg⟩ := eight hk3
  have hlo : w.heap.size ≤ w1.heap.size := HL.out.2.2.1.size
  have HK : Hid (_) := hk3
  have HW : Hid (Below w.heap.size w w3 ∧ Line w3 w1.heap.size ad ls ∧ n = ls.length ∧ ByteL ls) := ⟨HL.out.2.2.1.trans (hB3.mono hlo), HL.out.1.below hB3, HL.out.2.1, HL.out.2.2.2⟩
  clear hk3 hB3 HL
  have hxl := nextN_le ls A hAl
  have hxg := nextN_ge ls A
  have hcA := colN_le ls A
  have hcx := colN_le ls (nextN ls A)
  obtain ⟨x, hx⟩ : ∃ x, x = nextN ls A := ⟨_, rfl⟩
  rw [← hx] at hxl hxg hcx
  by_cases hM : n < nextN ls A + W
  · rw [← hx] at hM
    rw [← hx]
    clear hx
    go_wp2
    go_ret
    exact ⟨rfl, HW.out.1.trans ((store8 _ _ _ _ _ _ _ _ HK.out).2.below hlo)⟩
  · obtain ⟨M, hMe⟩ : ∃ M, M = x + W := ⟨_, rfl⟩
    have hML : M ≤ ls.length := by have := HW.out.2.2.1; omega
    have hMI : (x : Int) + (W : Int) = (M : Int) := by omega
    have hMn : M ≤ n := by omega
    have HX : Hid (x = nextN ls A ∧ M = x + W) := ⟨hx, hMe⟩
    rw [← hx]
    clear hM hx hMe
    have hcM := colN_le ls M
    have htl := nextN_le ls M hML
    have htg := nextN_ge ls M
    have hct := colN_le ls (nextN ls M)
    have hcm := colN_mono ls M (nextN ls M) htg
    go_wp2_with fail
    refine (colOf_any w1.heap.size ad n n M ls _ hn HW.out.2.2.1.symm hMn ?_).mono ?_
    · exact HW.out.2.1.below ((store8 _ _ _ _ _ _ _ _ HK.out).2.below (Nat.le_refl _))
    rintro e w' ⟨rfl, rfl⟩
    go_wp2
    clear d0 d1 d2 d3 d4 d5 d6 d7 hg hMI
    go_loopg [10] (nextN ls M) (fun g i wr => ∃ q : Nat, nextN ls M - q ≤ g ∧ M ≤ q ∧ q ≤ nextN ls M ∧ i = .int .i64 q ∧
      wr.heap[w1.heap.size]? = some (.cells #[.slice ad n n, .int .i64 A, .int .i64 (colN ls A), .int .i64 x, .int .i64 (colN ls x), .int .i64 ((colN ls x : Int) - colN ls A), .bool (decide (x = ls.length)), .int .i64 0] 59 (0, 0)) ∧ Below w.heap.size w wr ∧ Line wr w1.heap.size ad ls)
    case atStart =>
      obtain ⟨s1, s2⟩ := store8 (.slice ad n n) (.int .i64 A) (.int .i64 (colN ls A)) (.int .i64 x) (.int .i64 (colN ls x)) (.int .i64 ((colN ls x : Int) - colN ls A)) (.bool (decide (x = ls.length))) (.int .i64 0) HK.out
      exact ⟨M, Nat.sub_le _ _, Nat.le_refl _, htg, rfl, s1, HW.out.1.trans (s2.below hlo), HW.out.2.1.below (s2.below (Nat.le_refl _))⟩
    case round =>
      obtain ⟨q, hg, h1, h2, rfl, hF, hB, hLr⟩ := hrel
      obtain ⟨d0, d1, d2, d3, d4, d5, d6, d7, _⟩ := eight hF
      have HR : Hid (Below w.heap.size w wr ∧ Line wr w1.heap.size ad ls ∧ w1.heap.size < wr.heap.size) := ⟨hB, hLr, lt_of_block hF⟩
      have HG : Hid (_) := hF
      clear hF hB hLr
      have hnl : n = ls.length := HW.out.2.2.1
      by_cases hq : q < nextN ls M
      · obtain ⟨L, hL, rfl, hcl⟩ := HR.out.2.1 q (by omega)
        have hbl := nextN_at ls M q h1 hq
        generalize ls.getD q 0 = ch at hcl hbl
        have hlt : q < n := by omega
        clear hnl
        clear d0 d1 d2 d3 d4 d5 d6 d7
        go_wp2_with (go_at_call 26; refine (spaceTab_any _ _).mono ?_; rintro e w' ⟨rfl, rfl⟩)
        go_roundg (nextN ls M - (q + 1))
        case measure => omega
        case rel => exact ⟨q + 1, by omega, by omega, by omega, by go_num, HG.out, HR.out.1, HR.out.2.1⟩
      · have hqx : q = nextN ls M := by omega
        subst hqx
        by_cases htn : nextN ls M < n
        · have hbl := nextN_stop ls M hML (by omega)
          obtain ⟨L, hL, rfl, hcl⟩ := HR.out.2.1 (nextN ls M) (by omega)
          generalize ls.getD (nextN ls M) 0 = ch at hcl hbl
          clear hnl
          go_wp2_with (first | (go_at_call 26; refine (spaceTab_any _ _).mono ?_; rintro e w' ⟨rfl, rfl⟩) | fail)
          refine (colOf_any w1.heap.size _ n n (nextN ls M) ls _ hn HW.out.2.2.1.symm (by omega) HR.out.2.1).mono ?_
          rintro e w' ⟨rfl, rfl⟩
          go_wp2_with fail
          refine (zzMarkerPadding_any w1.heap.size W _ n n A x _ _ _ 0 ls _ HR.out.2.1 (Nat.le_of_lt HR.out.2.2) HW.out.2.2.1 hl16 HW.out.2.2.2 hxg (by have := HX.out.2; omega)).mono ?_
          rintro e w5 ⟨p, R, rfl, hb5, hP⟩
          rw [← HX.out.2] at hP
          have HL5 : Hid (Line w5 w1.heap.size (some ⟨L, 0, none⟩) ls ∧ w1.heap.size ≤ w5.heap.size ∧ Below w.heap.size w w5) := ⟨HR.out.2.1.below (hb5.mono (Nat.le_of_lt HR.out.2.2)), Nat.le_trans (Nat.le_of_lt HR.out.2.2) hb5.size, HR.out.1.trans (hb5.mono HR.out.1.size)⟩
          clear hb5 d0 d1 d2 d3 d4 d5 d6 d7
          rcases hP with ⟨⟨hy1, hy2, hy3⟩, rfl, rfl⟩ | ⟨hno, hp, rfl⟩
          · have s1 : (1 : Int) ≤ (colN ls (nextN ls M) : Int) - (colN ls M : Int) := by omega
            have s4 : (colN ls (nextN ls M) : Int) - (colN ls M : Int) ≤ 4 := by omega
            have hwr : IntKind.i64.wrap ((W : Int) + ((colN ls (nextN ls M) : Int) - (colN ls M : Int))) = (W : Int) + ((colN ls (nextN ls M) : Int) - (colN ls M : Int)) := by rw [IntKind.wrap_i64]; omega
            go_wp2
            go_quiet ((go_at_call 27; exact quietS (colOf_any w1.heap.size _ n n (nextN ls M) ls _ hn HW.out.2.2.1.symm (by omega) (HL5.out.1.below (below_drewN ((Below.refl _ _).alloc HL5.out.2.1 _) _)))))
            go_wp2
            go_ret
            refine ⟨rfl, ?_⟩
            have := HL5.out.2.2
            exact below_drewN (this.alloc this.size _) _
          · have hp' := hp.symm
            subst hp'
            have hno' : colN ls (nextN ls M) < colN ls M + 1 ∨ colN ls M + 4 < colN ls (nextN ls M) := by
              rcases Nat.lt_or_ge (colN ls (nextN ls M)) (colN ls M + 1) with h | h
              · exact .inl h
              · rcases Nat.lt_or_ge (colN ls M + 4) (colN ls (nextN ls M)) with h' | h'
                · exact .inr h'
                · exact (hno ⟨by have := HW.out.2.2.1; omega, h, h'⟩).elim
            clear hno
            rcases hno' with h | h
            · have s1 : ¬ (1 : Int) ≤ (colN ls (nextN ls M) : Int) - (colN ls M : Int) := by omega
              go_wp2
              go_ret
              have := HL5.out.2.2
              exact ⟨rfl, this.alloc this.size _⟩
            · have s1 : (1 : Int) ≤ (colN ls (nextN ls M) : Int) - (colN ls M : Int) := by omega
              have s4 : ¬ (colN ls (nextN ls M) : Int) - (colN ls M : Int) ≤ 4 := by omega
              go_wp2
              go_ret
              have := HL5.out.2.2
              exact ⟨rfl, this.alloc this.size _⟩
        · clear hnl
          go_wp2_with fail
          refine (colOf_any w1.heap.size _ n n (nextN ls M) ls _ hn HW.out.2.2.1.symm (by have := HW.out.2.2.1; omega) HR.out.2.1).mono ?_
          rintro e w' ⟨rfl, rfl⟩
          go_wp2_with fail
          refine (zzMarkerPadding_any w1.heap.size W _ n n A x _ _ _ 0 ls _ HR.out.2.1 (Nat.le_of_lt HR.out.2.2) HW.out.2.2.1 hl16 HW.out.2.2.2 hxg (by have := HX.out.2; omega)).mono ?_
          rintro e w5 ⟨p, R, rfl, hb5, hP⟩
          rw [← HX.out.2] at hP
          have HL5 : Hid (Below w.heap.size w w5) := HR.out.1.trans (hb5.mono HR.out.1.size)
          clear hb5 d0 d1 d2 d3 d4 d5 d6 d7
          rcases hP with ⟨⟨hy1, hy2, hy3⟩, rfl, rfl⟩ | ⟨hno, hp, rfl⟩
          · exact absurd hy1 (by have := HW.out.2.2.1; omega)
          · have hp' := hp.symm
            subst hp'
            go_wp2
            go_ret
            have := HL5.out
            exact ⟨rfl, this.alloc this.size _⟩

end Go.Proofs.Qxb6002445a
