/-
  THE EXPORTED FRONTS: zzToCursor, zzFromCursor, ZZSkipTo, ZZFindNext.
-/
import Derived.Test.Qxb6002445aFind
namespace Go.Proofs.Qxb6002445a
open Go.RowKit
set_option linter.unusedSimpArgs false
set_option linter.unusedVariables false

theorem toCursor_any (a : Option Addr) (n c pos col next ncol : Nat) (ind : Int) (bl : Bool) (nb : Nat) (w : World) :
    Calls Try.prog 36 #[.agg #[.slice a n c, .int .i64 pos, .int .i64 col, .int .i64 next, .int .i64 ncol, .int .i64 ind, .bool bl, .int .i64 nb]] w
      fun e w' => e = .returned (.agg #[.slice a n c, .int .i64 pos, .int .i64 col, .int .i64 next, .int .i64 ncol, .int .i64 ind, .bool bl, .int .i64 nb]) ∧ Below w.heap.size w w' := by
  go_enter Try.func36, Try.ntmps36
  go_wp2
  go_returns
  exact ⟨rfl, by go_grown⟩

theorem fromCursor_any (a : Option Addr) (n c pos col next ncol : Nat) (ind : Int) (bl : Bool) (nb : Nat) (w : World) :
    Calls Try.prog 38 #[.agg #[.slice a n c, .int .i64 pos, .int .i64 col, .int .i64 next, .int .i64 ncol, .int .i64 ind, .bool bl, .int .i64 nb]] w
      fun e w' => e = .returned (.agg #[.slice a n c, .int .i64 pos, .int .i64 col, .int .i64 next, .int .i64 ncol, .int .i64 ind, .bool bl, .int .i64 nb]) ∧ Below w.heap.size w w' := by
  go_enter Try.func38, Try.ntmps38
  go_wp2
  go_returns
  exact ⟨rfl, by go_grown⟩

theorem eight {w : World} {b : Nat} {t : TypeId} {v0 v1 v2 v3 v4 v5 v6 v7 : Value} (h : w.heap[b]? = some (.cells #[v0, v1, v2, v3, v4, v5, v6, v7] t (0, 0))) :
    w.cell? ⟨b, 0, none⟩ = some v0 ∧ w.cell? ⟨b, 1, none⟩ = some v1 ∧ w.cell? ⟨b, 2, none⟩ = some v2 ∧ w.cell? ⟨b, 3, none⟩ = some v3 ∧ w.cell? ⟨b, 4, none⟩ = some v4 ∧ w.cell? ⟨b, 5, none⟩ = some v5 ∧ w.cell? ⟨b, 6, none⟩ = some v6 ∧ w.cell? ⟨b, 7, none⟩ = some v7 ∧ ∀ i, w.frozen? ⟨b, i, none⟩ = false := by
  simp [World.cell?, World.frozen?, h]

set_option maxHeartbeats 400000 in
theorem zzSkipTo_any (lo p : Nat) (k : Cur) (ls : List Int) (w : World) (hL : Line w lo k.a ls) (hlo : lo ≤ w.heap.size) (hn : k.n = ls.length) (h16 : ls.length ≤ 65536) (hp : k.pos ≤ p) (hpn : p ≤ ls.length) (hc : k.col = colN ls k.pos) :
    Calls Try.prog 24 #[.agg k.cells, .int .i64 p] w fun e w' => e = .returned (.agg ({ k with pos := p, col := colN ls p } : Cur).cells) ∧ Below w.heap.size w w' := by
  have H : Hid (Line w lo k.a ls ∧ k.n = ls.length ∧ k.col = colN ls k.pos) := ⟨hL, hn, hc⟩
  clear hL hn hc
  obtain ⟨a, n, c, pos, col, next, ncol, ind, bl, nb⟩ := k
  simp only [Cur.cells]
  simp only at hp H
  go_enter Try.func24, Try.ntmps24
  go_wp2_with fail
  refine (toCursor_any a n c pos col next ncol ind bl nb _).mono ?_
  rintro e w1 ⟨rfl, hb1⟩
  go_wp2_with fail
  have hb1' : Below w.heap.size w w1 := (((Below.refl _ _).alloc (Nat.le_refl _) _).alloc (by simp) _).trans (hb1.mono (by simp; omega))
  have hz1 : w.heap.size + 2 ≤ w1.heap.size := by have := hb1.size; simp at this; omega
  have hlo1 := hb1'.size
  refine (skipTo_any lo w1.heap.size p ⟨a, n, c, pos, col, next, ncol, ind, bl, nb⟩ ls _ (heap_alloc_new _ _) (H.out.1.below ((hb1'.alloc hlo1 _).mono hlo)) (by omega) H.out.2.1 h16 hp hpn H.out.2.2).mono ?_
  rintro e w2 ⟨rfl, hO, hK⟩
  obtain ⟨c0, c1, c2, c3, c4, c5, c6, c7, hf⟩ := hK.cell
  simp only at c0 c1 c2 c3 c4 c5 c6 c7
  go_wp2_with fail
  refine (fromCursor_any a n c p (colN ls p) next ncol ind bl nb _).mono ?_
  rintro e w3 ⟨rfl, hb3⟩
  have hz2 : w2.heap.size = w1.heap.size + 1 := by rw [hO.size]; simp
  have hblk : w3.heap[w.heap.size + 1]? = some (.cells #[.slice none 0 0, .int .i64 0, .int .i64 0, .int .i64 0, .int .i64 0, .int .i64 0, .bool false, .int .i64 0] 59 (0, 0)) := by
    rw [hb3.block _ (by omega), hO.block _ (by omega), Below.heap_alloc _ _ _ (by omega), hb1.block _ (by simp)]
    have := heap_alloc_new (w.alloc (.cells #[Value.slice a n c, Value.int IntKind.i64 ↑pos, Value.int IntKind.i64 ↑col, Value.int IntKind.i64 ↑next, Value.int IntKind.i64 ↑ncol, Value.int IntKind.i64 ind, Value.bool bl, Value.int IntKind.i64 ↑nb] 59)) (.cells #[.slice none 0 0, .int .i64 0, .int .i64 0, .int .i64 0, .int .i64 0, .int .i64 0, .bool false, .int .i64 0] 59)
    simpa using this
  obtain ⟨d0, d1, d2, d3, d4, d5, d6, d7, hg⟩ := eight hblk
  have hbel : Below w.heap.size w w3 := (((hb1'.alloc hlo1 _).trans (hO.below hlo1)).trans (hb3.mono (by omega)))
  have HB : Hid (Below w.heap.size w w3) := hbel
  clear hbel hblk hb3 hz2 c0 c1 c2 c3 c4 c5 c6 c7 hf hK hO hlo1 hz1 hb1' hb1 H
  go_wp2
  refine bodyPost_ret (v := .agg #[.slice a n c, .int .i64 p, .int .i64 (colN ls p), .int .i64 next, .int .i64 ncol, .int .i64 ind, .bool bl, .int .i64 nb]) (by simp [results, Try.results24, go_sem, d0, d1, d2, d3, d4, d5, d6, d7]) rfl ⟨rfl, ?_⟩
  have hbel := HB.out
  go_grown

set_option maxHeartbeats 400000 in
theorem zzFindNext_any (lo : Nat) (k : Cur) (ls : List Int) (w : World) (hL : Line w lo k.a ls) (hlo : lo ≤ w.heap.size) (hn : k.n = ls.length) (h16 : ls.length ≤ 65536) (hp : k.pos ≤ ls.length) (hc : k.col = colN ls k.pos)
    (hx : k.next < k.pos ∨ (k.pos ≤ k.next ∧ k.next ≤ nextN ls k.pos ∧ k.ncol = colN ls k.next)) :
    Calls Try.prog 25 #[.agg k.cells] w fun e w' => e = .returned (.agg (k.found ls).cells) ∧ Below w.heap.size w w' := by
  have H : Hid (Line w lo k.a ls ∧ k.n = ls.length ∧ k.col = colN ls k.pos ∧ (k.next < k.pos ∨ (k.pos ≤ k.next ∧ k.next ≤ nextN ls k.pos ∧ k.ncol = colN ls k.next))) := ⟨hL, hn, hc, hx⟩
  clear hL hn hc hx
  obtain ⟨a, n, c, pos, col, next, ncol, ind, bl, nb⟩ := k
  simp only [Cur.found, Cur.cells]
  simp only at hp H
  have HF : Hid (Cur.found ⟨a, n, c, pos, col, next, ncol, ind, bl, nb⟩ ls = ⟨a, n, c, pos, col, nextN ls pos, colN ls (nextN ls pos), (colN ls (nextN ls pos) : Int) - colN ls pos, decide (nextN ls pos = ls.length), nb⟩) := rfl
  generalize nextN ls pos = nx at HF ⊢
  generalize decide (nx = ls.length) = bx at HF ⊢
  go_enter Try.func25, Try.ntmps25
  go_wp2_with fail
  refine (toCursor_any a n c pos col next ncol ind bl nb _).mono ?_
  rintro e w1 ⟨rfl, hb1⟩
  go_wp2_with fail
  have hb1' : Below w.heap.size w w1 := (((Below.refl _ _).alloc (Nat.le_refl _) _).alloc (by simp) _).trans (hb1.mono (by simp; omega))
  have hz1 : w.heap.size + 2 ≤ w1.heap.size := by have := hb1.size; simp at this; omega
  have hlo1 := hb1'.size
  refine (findNext_any lo w1.heap.size ⟨a, n, c, pos, col, next, ncol, ind, bl, nb⟩ ls _ (heap_alloc_new _ _) (H.out.1.below ((hb1'.alloc hlo1 _).mono hlo)) (by omega) H.out.2.1 h16 hp H.out.2.2.1 H.out.2.2.2).mono ?_
  rintro e w2 ⟨rfl, hO, hK⟩
  rw [HF.out] at hK
  clear HF
  obtain ⟨c0, c1, c2, c3, c4, c5, c6, c7, hf⟩ := hK.cell
  simp only at c0 c1 c2 c3 c4 c5 c6 c7
  go_wp2_with fail
  refine (fromCursor_any a n c pos col nx (colN ls nx) _ bx nb _).mono ?_
  rintro e w3 ⟨rfl, hb3⟩
  have hz2 : w2.heap.size = w1.heap.size + 1 := by rw [hO.size]; simp
  have hblk : w3.heap[w.heap.size + 1]? = some (.cells #[.slice none 0 0, .int .i64 0, .int .i64 0, .int .i64 0, .int .i64 0, .int .i64 0, .bool false, .int .i64 0] 59 (0, 0)) := by
    rw [hb3.block _ (by omega), hO.block _ (by omega), Below.heap_alloc _ _ _ (by omega), hb1.block _ (by simp)]
    have := heap_alloc_new (w.alloc (.cells #[Value.slice a n c, Value.int IntKind.i64 ↑pos, Value.int IntKind.i64 ↑col, Value.int IntKind.i64 ↑next, Value.int IntKind.i64 ↑ncol, Value.int IntKind.i64 ind, Value.bool bl, Value.int IntKind.i64 ↑nb] 59)) (.cells #[.slice none 0 0, .int .i64 0, .int .i64 0, .int .i64 0, .int .i64 0, .int .i64 0, .bool false, .int .i64 0] 59)
    simpa using this
  obtain ⟨d0, d1, d2, d3, d4, d5, d6, d7, hg⟩ := eight hblk
  have hbel : Below w.heap.size w w3 := (((hb1'.alloc hlo1 _).trans (hO.below hlo1)).trans (hb3.mono (by omega)))
  have HB : Hid (Below w.heap.size w w3) := hbel
  clear hbel hblk hb3 hz2 c0 c1 c2 c3 c4 c5 c6 c7 hf hK hO hlo1 hz1 hb1' hb1 H
  go_wp2
  refine bodyPost_ret (v := .agg #[.slice a n c, .int .i64 pos, .int .i64 col, .int .i64 nx, .int .i64 (colN ls nx), .int .i64 ((colN ls nx : Int) - colN ls pos), .bool bx, .int .i64 nb]) (by simp [results, Try.results25, go_sem, d0, d1, d2, d3, d4, d5, d6, d7]) rfl ⟨rfl, ?_⟩
  have hbel := HB.out
  go_grown

end Go.Proofs.Qxb6002445a
