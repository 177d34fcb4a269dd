/-
  The walk of FnFindNextIncrementalAgreesFresh.
-/
import Derived.Test.Qxb6002445aZZ
namespace Go.Proofs.Qxb6002445a
open Go.RowKit
set_option linter.unusedSimpArgs false
set_option linter.unusedVariables false

/-- What is known of a slice of bytes that came in. -/
def RowIn (w : World) (a : Option Addr) (n c : Nat) (zs : List Int) : Prop :=
  (a = none ∧ n = 0 ∧ c = 0 ∧ zs = []) ∨ ∃ x, a = some x ∧ n ≤ zs.length ∧ ∀ i, i < zs.length → w.cell? (x.add i) = some (.int .u8 (zs.getD i 0))

theorem clone_line (a : Option Addr) (n c : Nat) (zs : List Int) (w : World) (hn : n ≤ 65536) (hR : RowIn w a n c zs) :
    Calls Try.prog 9 #[.slice a n c] w fun e w' => ∃ ad, e = .returned (.slice ad n n) ∧ Line w' w'.heap.size ad (zs.take n) ∧ (zs.take n).length = n ∧ Below w.heap.size w w' := by
  rcases hR with ⟨rfl, rfl, rfl, rfl⟩ | ⟨x, rfl, hz, hc⟩
  · refine (cloneBytes_nil w).mono ?_
    rintro e w' ⟨rfl, rfl⟩
    exact ⟨none, rfl, fun i h => absurd h (by simp), rfl, Below.refl _ _⟩
  · refine (cloneBytes_some x n c zs w (by omega) hz hc).mono ?_
    rintro e w' ⟨rfl, M⟩
    refine ⟨_, rfl, fun i hi => ⟨w.heap.size, by have := M.size; omega, rfl, ?_⟩, by simp; omega, M.below⟩
    simp only [World.cell?, M.block]
    rw [List.getElem?_toArray, List.getElem?_map, List.getD, List.getElem?_eq_getElem hi]
    rfl

theorem set8_0 {w : World} {b : Nat} {t : TypeId} {u0 u1 u2 u3 u4 u5 u6 u7 : Value} (v : Value) (h : w.heap[b]? = some (.cells #[u0, u1, u2, u3, u4, u5, u6, u7] t (0, 0))) : (w.setCell ⟨b, 0, none⟩ v).heap[b]? = some (.cells #[v, u1, u2, u3, u4, u5, u6, u7] t (0, 0)) := by
  rw [heap_setCell_same w b 0 _ t v h]; rfl
theorem set8_1 {w : World} {b : Nat} {t : TypeId} {u0 u1 u2 u3 u4 u5 u6 u7 : Value} (v : Value) (h : w.heap[b]? = some (.cells #[u0, u1, u2, u3, u4, u5, u6, u7] t (0, 0))) : (w.setCell ⟨b, 1, none⟩ v).heap[b]? = some (.cells #[u0, v, u2, u3, u4, u5, u6, u7] t (0, 0)) := by
  rw [heap_setCell_same w b 1 _ t v h]; rfl
theorem set8_2 {w : World} {b : Nat} {t : TypeId} {u0 u1 u2 u3 u4 u5 u6 u7 : Value} (v : Value) (h : w.heap[b]? = some (.cells #[u0, u1, u2, u3, u4, u5, u6, u7] t (0, 0))) : (w.setCell ⟨b, 2, none⟩ v).heap[b]? = some (.cells #[u0, u1, v, u3, u4, u5, u6, u7] t (0, 0)) := by
  rw [heap_setCell_same w b 2 _ t v h]; rfl
theorem set8_3 {w : World} {b : Nat} {t : TypeId} {u0 u1 u2 u3 u4 u5 u6 u7 : Value} (v : Value) (h : w.heap[b]? = some (.cells #[u0, u1, u2, u3, u4, u5, u6, u7] t (0, 0))) : (w.setCell ⟨b, 3, none⟩ v).heap[b]? = some (.cells #[u0, u1, u2, v, u4, u5, u6, u7] t (0, 0)) := by
  rw [heap_setCell_same w b 3 _ t v h]; rfl
theorem set8_4 {w : World} {b : Nat} {t : TypeId} {u0 u1 u2 u3 u4 u5 u6 u7 : Value} (v : Value) (h : w.heap[b]? = some (.cells #[u0, u1, u2, u3, u4, u5, u6, u7] t (0, 0))) : (w.setCell ⟨b, 4, none⟩ v).heap[b]? = some (.cells #[u0, u1, u2, u3, v, u5, u6, u7] t (0, 0)) := by
  rw [heap_setCell_same w b 4 _ t v h]; rfl
theorem set8_5 {w : World} {b : Nat} {t : TypeId} {u0 u1 u2 u3 u4 u5 u6 u7 : Value} (v : Value) (h : w.heap[b]? = some (.cells #[u0, u1, u2, u3, u4, u5, u6, u7] t (0, 0))) : (w.setCell ⟨b, 5, none⟩ v).heap[b]? = some (.cells #[u0, u1, u2, u3, u4, v, u6, u7] t (0, 0)) := by
  rw [heap_setCell_same w b 5 _ t v h]; rfl
theorem set8_6 {w : World} {b : Nat} {t : TypeId} {u0 u1 u2 u3 u4 u5 u6 u7 : Value} (v : Value) (h : w.heap[b]? = some (.cells #[u0, u1, u2, u3, u4, u5, u6, u7] t (0, 0))) : (w.setCell ⟨b, 6, none⟩ v).heap[b]? = some (.cells #[u0, u1, u2, u3, u4, u5, v, u7] t (0, 0)) := by
  rw [heap_setCell_same w b 6 _ t v h]; rfl
theorem set8_7 {w : World} {b : Nat} {t : TypeId} {u0 u1 u2 u3 u4 u5 u6 u7 : Value} (v : Value) (h : w.heap[b]? = some (.cells #[u0, u1, u2, u3, u4, u5, u6, u7] t (0, 0))) : (w.setCell ⟨b, 7, none⟩ v).heap[b]? = some (.cells #[u0, u1, u2, u3, u4, u5, u6, v] t (0, 0)) := by
  rw [heap_setCell_same w b 7 _ t v h]; rfl

/-- A struct of eight cells, stored whole. -/
theorem store8 {w : World} {b : Nat} {t : TypeId} {u0 u1 u2 u3 u4 u5 u6 u7 : Value} (v0 v1 v2 v3 v4 v5 v6 v7 : Value) (h : w.heap[b]? = some (.cells #[u0, u1, u2, u3, u4, u5, u6, u7] t (0, 0))) :
    ((((((((w.setCell ⟨b, 0, none⟩ v0).setCell ⟨b, 1, none⟩ v1).setCell ⟨b, 2, none⟩ v2).setCell ⟨b, 3, none⟩ v3).setCell ⟨b, 4, none⟩ v4).setCell ⟨b, 5, none⟩ v5).setCell ⟨b, 6, none⟩ v6).setCell ⟨b, 7, none⟩ v7).heap[b]? = some (.cells #[v0, v1, v2, v3, v4, v5, v6, v7] t (0, 0)) ∧
    Only b w ((((((((w.setCell ⟨b, 0, none⟩ v0).setCell ⟨b, 1, none⟩ v1).setCell ⟨b, 2, none⟩ v2).setCell ⟨b, 3, none⟩ v3).setCell ⟨b, 4, none⟩ v4).setCell ⟨b, 5, none⟩ v5).setCell ⟨b, 6, none⟩ v6).setCell ⟨b, 7, none⟩ v7) :=
  ⟨(set8_7 v7 (set8_6 v6 (set8_5 v5 (set8_4 v4 (set8_3 v3 (set8_2 v2 (set8_1 v1 (set8_0 v0 h)))))))), ((((((((Only.refl b w).setCell 0 v0).setCell 1 v1).setCell 2 v2).setCell 3 v3).setCell 4 v4).setCell 5 v5).setCell 6 v6).setCell 7 v7⟩

/-- .. and then a call that makes new memory. -/
theorem chain8 {w w3 : World} {b : Nat} {t : TypeId} {u0 u1 u2 u3 u4 u5 u6 u7 : Value} {v0 v1 v2 v3 v4 v5 v6 v7 : Value} (h : w.heap[b]? = some (.cells #[u0, u1, u2, u3, u4, u5, u6, u7] t (0, 0)))
    (hb : Below ((((((((w.setCell ⟨b, 0, none⟩ v0).setCell ⟨b, 1, none⟩ v1).setCell ⟨b, 2, none⟩ v2).setCell ⟨b, 3, none⟩ v3).setCell ⟨b, 4, none⟩ v4).setCell ⟨b, 5, none⟩ v5).setCell ⟨b, 6, none⟩ v6).setCell ⟨b, 7, none⟩ v7).heap.size ((((((((w.setCell ⟨b, 0, none⟩ v0).setCell ⟨b, 1, none⟩ v1).setCell ⟨b, 2, none⟩ v2).setCell ⟨b, 3, none⟩ v3).setCell ⟨b, 4, none⟩ v4).setCell ⟨b, 5, none⟩ v5).setCell ⟨b, 6, none⟩ v6).setCell ⟨b, 7, none⟩ v7) w3) :
    w3.heap[b]? = some (.cells #[v0, v1, v2, v3, v4, v5, v6, v7] t (0, 0)) ∧ (∀ B, B ≤ b → Below B w w3) ∧ (∀ k, k ≠ b → k < w.heap.size → w3.heap[k]? = w.heap[k]?) ∧ w.heap.size ≤ w3.heap.size := by
  obtain ⟨s1, s2⟩ := store8 v0 v1 v2 v3 v4 v5 v6 v7 h
  have hlt : b < w.heap.size := lt_of_block h
  have hs := s2.size
  refine ⟨(hb.block b (by omega)).trans s1, fun B hB => (s2.below hB).trans (hb.mono (by omega)), fun k hk hk2 => (hb.block k (by omega)).trans (s2.block k hk), by have := hb.size; omega⟩

theorem line8 {w0 w : World} {lo b : Nat} {ad : Option Addr} {ls : List Int} {t : TypeId} {u0 u1 u2 u3 u4 u5 u6 u7 : Value} {v0 v1 v2 v3 v4 v5 v6 v7 : Value} (hL : Line w0 lo ad ls) (hB : Below lo w0 w) (hlo : lo ≤ b) (h : w.heap[b]? = some (.cells #[u0, u1, u2, u3, u4, u5, u6, u7] t (0, 0))) :
    Line ((((((((w.setCell ⟨b, 0, none⟩ v0).setCell ⟨b, 1, none⟩ v1).setCell ⟨b, 2, none⟩ v2).setCell ⟨b, 3, none⟩ v3).setCell ⟨b, 4, none⟩ v4).setCell ⟨b, 5, none⟩ v5).setCell ⟨b, 6, none⟩ v6).setCell ⟨b, 7, none⟩ v7) lo ad ls ∧ lo ≤ ((((((((w.setCell ⟨b, 0, none⟩ v0).setCell ⟨b, 1, none⟩ v1).setCell ⟨b, 2, none⟩ v2).setCell ⟨b, 3, none⟩ v3).setCell ⟨b, 4, none⟩ v4).setCell ⟨b, 5, none⟩ v5).setCell ⟨b, 6, none⟩ v6).setCell ⟨b, 7, none⟩ v7).heap.size := by
  obtain ⟨s1, s2⟩ := store8 v0 v1 v2 v3 v4 v5 v6 v7 h
  have hlt : b < w.heap.size := lt_of_block h
  have hs := s2.size
  exact ⟨hL.below (hB.trans (s2.below hlo)), by omega⟩

/-- A struct stored, a new block, a call. -/
theorem chain8a {w w3 : World} {b : Nat} {t : TypeId} {u0 u1 u2 u3 u4 u5 u6 u7 : Value} {v0 v1 v2 v3 v4 v5 v6 v7 : Value} {o : Obj} (h : w.heap[b]? = some (.cells #[u0, u1, u2, u3, u4, u5, u6, u7] t (0, 0)))
    (hb : Below (((((((((w.setCell ⟨b, 0, none⟩ v0).setCell ⟨b, 1, none⟩ v1).setCell ⟨b, 2, none⟩ v2).setCell ⟨b, 3, none⟩ v3).setCell ⟨b, 4, none⟩ v4).setCell ⟨b, 5, none⟩ v5).setCell ⟨b, 6, none⟩ v6).setCell ⟨b, 7, none⟩ v7).alloc o).heap.size (((((((((w.setCell ⟨b, 0, none⟩ v0).setCell ⟨b, 1, none⟩ v1).setCell ⟨b, 2, none⟩ v2).setCell ⟨b, 3, none⟩ v3).setCell ⟨b, 4, none⟩ v4).setCell ⟨b, 5, none⟩ v5).setCell ⟨b, 6, none⟩ v6).setCell ⟨b, 7, none⟩ v7).alloc o) w3) :
    w3.heap[b]? = some (.cells #[v0, v1, v2, v3, v4, v5, v6, v7] t (0, 0)) ∧ w3.heap[w.heap.size]? = some o ∧ (∀ B, B ≤ b → Below B w w3) ∧ w.heap.size < w3.heap.size := by
  obtain ⟨s1, s2⟩ := store8 v0 v1 v2 v3 v4 v5 v6 v7 h
  have hlt : b < w.heap.size := lt_of_block h
  have hs := s2.size
  have hb0 := hb.size
  rw [World.size_alloc] at hb
  rw [World.size_alloc] at hb0
  have hn := heap_alloc_new ((((((((w.setCell ⟨b, 0, none⟩ v0).setCell ⟨b, 1, none⟩ v1).setCell ⟨b, 2, none⟩ v2).setCell ⟨b, 3, none⟩ v3).setCell ⟨b, 4, none⟩ v4).setCell ⟨b, 5, none⟩ v5).setCell ⟨b, 6, none⟩ v6).setCell ⟨b, 7, none⟩ v7) o
  rw [hs] at hn
  refine ⟨((hb.block b (by omega)).trans (Below.heap_alloc _ _ _ (by omega))).trans s1, (hb.block _ (by omega)).trans hn, fun B hB => ((s2.below hB).alloc (by omega) _).trans (hb.mono (by omega)), by omega⟩

theorem line8a {w0 w : World} {lo b : Nat} {ad : Option Addr} {ls : List Int} {t : TypeId} {u0 u1 u2 u3 u4 u5 u6 u7 : Value} {v0 v1 v2 v3 v4 v5 v6 v7 : Value} {o : Obj} (hL : Line w0 lo ad ls) (hB : Below lo w0 w) (hlo : lo ≤ b) (h : w.heap[b]? = some (.cells #[u0, u1, u2, u3, u4, u5, u6, u7] t (0, 0))) :
    Line (((((((((w.setCell ⟨b, 0, none⟩ v0).setCell ⟨b, 1, none⟩ v1).setCell ⟨b, 2, none⟩ v2).setCell ⟨b, 3, none⟩ v3).setCell ⟨b, 4, none⟩ v4).setCell ⟨b, 5, none⟩ v5).setCell ⟨b, 6, none⟩ v6).setCell ⟨b, 7, none⟩ v7).alloc o) lo ad ls ∧ lo ≤ (((((((((w.setCell ⟨b, 0, none⟩ v0).setCell ⟨b, 1, none⟩ v1).setCell ⟨b, 2, none⟩ v2).setCell ⟨b, 3, none⟩ v3).setCell ⟨b, 4, none⟩ v4).setCell ⟨b, 5, none⟩ v5).setCell ⟨b, 6, none⟩ v6).setCell ⟨b, 7, none⟩ v7).alloc o).heap.size := by
  obtain ⟨s1, s2⟩ := store8 v0 v1 v2 v3 v4 v5 v6 v7 h
  have hlt : b < w.heap.size := lt_of_block h
  have hs := s2.size
  exact ⟨hL.below ((hB.trans (s2.below hlo)).alloc (by omega) _), by rw [World.size_alloc]; omega⟩

theorem skip_lit (lo p : Nat) (a : Option Addr) (n c pos col next ncol : Nat) (ind : Int) (bl : Bool) (nb : Nat) (ls : List Int) (w : World) (hL : Line w lo a ls) (hlo : lo ≤ w.heap.size) (hn : n = ls.length) (h16 : ls.length ≤ 65536) (hp : pos ≤ p) (hpn : p ≤ ls.length) (hc : col = colN ls pos) :
    Calls Try.prog 24 #[.agg #[.slice a n c, .int .i64 pos, .int .i64 col, .int .i64 next, .int .i64 ncol, .int .i64 ind, .bool bl, .int .i64 nb], .int .i64 p] w
      fun e w' => e = .returned (.agg #[.slice a n c, .int .i64 p, .int .i64 (colN ls p), .int .i64 next, .int .i64 ncol, .int .i64 ind, .bool bl, .int .i64 nb]) ∧ Below w.heap.size w w' :=
  zzSkipTo_any lo p ⟨a, n, c, pos, col, next, ncol, ind, bl, nb⟩ ls w hL hlo hn h16 hp hpn hc

theorem skip_zero (lo p : Nat) (a : Option Addr) (n c : Nat) (ls : List Int) (w : World) (hL : Line w lo a ls) (hlo : lo ≤ w.heap.size) (hn : n = ls.length) (h16 : ls.length ≤ 65536) (hpn : p ≤ ls.length) :
    Calls Try.prog 24 #[.agg #[.slice a n c, .int .i64 0, .int .i64 0, .int .i64 0, .int .i64 0, .int .i64 0, .bool false, .int .i64 0], .int .i64 p] w
      fun e w' => e = .returned (.agg #[.slice a n c, .int .i64 p, .int .i64 (colN ls p), .int .i64 0, .int .i64 0, .int .i64 0, .bool false, .int .i64 0]) ∧ Below w.heap.size w w' :=
  skip_lit lo p a n c 0 0 0 0 0 false 0 ls w hL hlo hn h16 (Nat.zero_le _) hpn rfl

theorem find_lit (lo : Nat) (a : Option Addr) (n c pos next ncol : Nat) (ind : Int) (bl : Bool) (nb : Nat) (ls : List Int) (w : World) (hL : Line w lo a ls) (hlo : lo ≤ w.heap.size) (hn : n = ls.length) (h16 : ls.length ≤ 65536) (hp : pos ≤ ls.length)
    (hx : next < pos ∨ (pos ≤ next ∧ next ≤ nextN ls pos ∧ ncol = colN ls next)) :
    Calls Try.prog 25 #[.agg #[.slice a n c, .int .i64 pos, .int .i64 (colN ls pos), .int .i64 next, .int .i64 ncol, .int .i64 ind, .bool bl, .int .i64 nb]] w
      fun e w' => e = .returned (.agg #[.slice a n c, .int .i64 pos, .int .i64 (colN ls pos), .int .i64 (nextN ls pos), .int .i64 (colN ls (nextN ls pos)), .int .i64 ((colN ls (nextN ls pos) : Int) - colN ls pos), .bool (decide (nextN ls pos = ls.length)), .int .i64 nb]) ∧ Below w.heap.size w w' :=
  zzFindNext_any lo ⟨a, n, c, pos, colN ls pos, next, ncol, ind, bl, nb⟩ ls w hL hlo hn h16 hp rfl hx

theorem find_zero (lo : Nat) (a : Option Addr) (n c pos : Nat) (ls : List Int) (w : World) (hL : Line w lo a ls) (hlo : lo ≤ w.heap.size) (hn : n = ls.length) (h16 : ls.length ≤ 65536) (hp : pos ≤ ls.length) :
    Calls Try.prog 25 #[.agg #[.slice a n c, .int .i64 pos, .int .i64 (colN ls pos), .int .i64 0, .int .i64 0, .int .i64 0, .bool false, .int .i64 0]] w
      fun e w' => e = .returned (.agg #[.slice a n c, .int .i64 pos, .int .i64 (colN ls pos), .int .i64 (nextN ls pos), .int .i64 (colN ls (nextN ls pos)), .int .i64 ((colN ls (nextN ls pos) : Int) - colN ls pos), .bool (decide (nextN ls pos = ls.length)), .int .i64 0]) ∧ Below w.heap.size w w' :=
  find_lit lo a n c pos 0 0 0 false 0 ls w hL hlo hn h16 hp (by
    rcases Nat.lt_or_ge 0 pos with h | h
    · exact .inl h
    · have : pos = 0 := by omega
      subst this
      exact .inr ⟨Nat.le_refl _, Nat.zero_le _, rfl⟩)

set_option maxHeartbeats 400000 in
theorem findLaw_far (a : Option Addr) (n c : Nat) (x y : Int) (w : World) (hn : 65536 < n) (hm : n ≤ 9223372036854775807) :
    Calls Try.prog 5 #[.slice a n c, .int .i64 x, .int .i64 y] w fun e w' => e = .returned (.bool true) ∧ Below w.heap.size w w' := by
  by_cases hf : fitB n = true
  · go_enter Try.func5, Try.ntmps5
    go_wp2_with (go_at_call 23; refine (bytes23 _ _ _ _ _ _ hm).mono ?_; rintro e w' ⟨rfl, rfl⟩)
    go_ret
    exact ⟨rfl, Below.refl _ _⟩
  · have hf : fitB n = false := by simpa using hf
    go_enter Try.func5, Try.ntmps5
    go_wp2_with (go_at_call 23; refine (bytes23 _ _ _ _ _ _ hm).mono ?_; rintro e w' ⟨rfl, rfl⟩)
    go_ret
    exact ⟨rfl, Below.refl _ _⟩

set_option maxRecDepth 8000 in
set_option maxHeartbeats 400000 in
theorem findLaw_out (a : Option Addr) (n c : Nat) (x y : Int) (w : World) (hn : n ≤ 65536) (ho : x < 0 ∨ y < x ∨ (n : Int) < y) :
    Calls Try.prog 5 #[.slice a n c, .int .i64 x, .int .i64 y] w fun e w' => e = .returned (.bool true) ∧ Below w.heap.size w w' := by
  have hf : fitB n = true := decide_eq_true (by omega)
  by_cases h1 : x < 0
  · clear ho
    go_enter Try.func5, Try.ntmps5
    go_wp2_with (go_at_call 23; refine (bytes23 _ _ _ _ _ _ (by omega)).mono ?_; rintro e w' ⟨rfl, rfl⟩)
    go_ret
    exact ⟨rfl, Below.refl _ _⟩
  · by_cases h2 : y < x
    · clear ho
      go_enter Try.func5, Try.ntmps5
      go_wp2_with (go_at_call 23; refine (bytes23 _ _ _ _ _ _ (by omega)).mono ?_; rintro e w' ⟨rfl, rfl⟩)
      go_ret
      exact ⟨rfl, Below.refl _ _⟩
    · have h3 : (n : Int) < y := by omega
      clear ho
      go_enter Try.func5, Try.ntmps5
      go_wp2_with (go_at_call 23; refine (bytes23 _ _ _ _ _ _ (by omega)).mono ?_; rintro e w' ⟨rfl, rfl⟩)
      go_ret
      exact ⟨rfl, Below.refl _ _⟩

set_option maxHeartbeats 400000 in
theorem findLaw_in (a : Option Addr) (n c A B : Nat) (zs : List Int) (w : World) (hn : n ≤ 65536) (hAB : A ≤ B) (hBn : B ≤ n) (hR : RowIn w a n c zs) :
    Calls Try.prog 5 #[.slice a n c, .int .i64 A, .int .i64 B] w fun e w' => e = .returned (.bool true) ∧ Below w.heap.size w w' := by
  have hf : fitB n = true := decide_eq_true (by omega)
  have H : Hid (RowIn w a n c zs) := hR
  clear hR
  go_enter Try.func5, Try.ntmps5
  go_wp2_with (first | (go_at_call 23; refine (bytes23 _ _ _ _ _ _ (by omega)).mono ?_; rintro e w' ⟨rfl, rfl⟩) | fail)
  refine (clone_line a n c zs _ hn H.out).mono ?_
  rintro e w1 ⟨ad, rfl, hL1, hl, hb1⟩
  generalize zs.take n = ls at hL1 hl
  have HL : Hid (Line w1 w1.heap.size ad ls ∧ n = ls.length ∧ Below w.heap.size w w1) := ⟨hL1, hl.symm, hb1⟩
  clear hL1 hl H hb1
  go_wp2_with fail
  refine (skip_zero w1.heap.size A ad n n ls _ (HL.out.1.below ((Below.refl _ _).alloc (Nat.le_refl _) _)) (by simp) HL.out.2.1 (by have := HL.out.2.1; omega) (by have := HL.out.2.1; omega)).mono ?_
  rintro e w2 ⟨rfl, hb2⟩
  have hk2 : w2.heap[w1.heap.size]? = some (.cells #[.slice ad n n, .int .i64 0, .int .i64 0, .int .i64 0, .int .i64 0, .int .i64 0, .bool false, .int .i64 0] 59 (0, 0)) := (hb2.block _ (by simp)).trans (heap_alloc_new _ _)
  have hB2 : Below w1.heap.size w1 w2 := ((Below.refl _ _).alloc (Nat.le_refl _) _).trans (hb2.mono (by simp))
  have hz2 := lt_of_block hk2
  clear hb2
  have hl16 : ls.length ≤ 65536 := by have := HL.out.2.1; omega
  have hBl : B ≤ ls.length := by have := HL.out.2.1; omega
  obtain ⟨d0, d1, d2, d3, d4, d5, d6, d7, hg⟩ := eight hk2
  go_wp2_with fail
  refine (find_zero w1.heap.size ad n n A ls _ ?_ ?_ HL.out.2.1 hl16 (by omega)).mono ?_
  · exact (line8 HL.out.1 hB2 (Nat.le_refl _) hk2).1
  · exact (line8 HL.out.1 hB2 (Nat.le_refl _) hk2).2
  rintro e w3 ⟨rfl, hb3⟩
  obtain ⟨hk3, hB3, _, hz3⟩ := chain8 hk2 hb3
  have hB3 := hB2.trans (hB3 _ (Nat.le_refl _))
  clear hb3 d0 d1 d2 d3 d4 d5 d6 d7 hg hk2 hB2
  obtain ⟨d0, d1, d2, d3, d4, d5, d6, d7, hg⟩ := eight hk3
  go_wp2_with fail
  refine (skip_lit w1.heap.size B ad n n A (colN ls A) _ _ _ _ 0 ls _ ?_ ?_ HL.out.2.1 hl16 hAB hBl rfl).mono ?_
  · exact (line8 HL.out.1 hB3 (Nat.le_refl _) hk3).1
  · exact (line8 HL.out.1 hB3 (Nat.le_refl _) hk3).2
  rintro e w4 ⟨rfl, hb4⟩
  obtain ⟨hk4, hB4, _, hz4⟩ := chain8 hk3 hb4
  have hB4 := hB3.trans (hB4 _ (Nat.le_refl _))
  clear hb4 d0 d1 d2 d3 d4 d5 d6 d7 hg hk3 hB3
  obtain ⟨d0, d1, d2, d3, d4, d5, d6, d7, hg⟩ := eight hk4
  go_wp2_with fail
  refine (find_lit w1.heap.size ad n n B (nextN ls A) (colN ls (nextN ls A)) _ _ 0 ls _ ?_ ?_ HL.out.2.1 hl16 hBl ?_).mono ?_
  · exact (line8 HL.out.1 hB4 (Nat.le_refl _) hk4).1
  · exact (line8 HL.out.1 hB4 (Nat.le_refl _) hk4).2
  · rcases Nat.lt_or_ge (nextN ls A) B with h | h
    · exact .inl h
    · exact .inr ⟨h, Nat.le_of_eq (nextN_from ls A B hAB h (by omega)).symm, rfl⟩
  rintro e w5 ⟨rfl, hb5⟩
  obtain ⟨hk5, hB5, _, hz5⟩ := chain8 hk4 hb5
  have hB5 := hB4.trans (hB5 _ (Nat.le_refl _))
  clear hb5 d0 d1 d2 d3 d4 d5 d6 d7 hg hk4 hB4
  obtain ⟨d0, d1, d2, d3, d4, d5, d6, d7, hg⟩ := eight hk5
  go_wp2_with fail
  refine (skip_zero w1.heap.size B ad n n ls _ ?_ ?_ HL.out.2.1 hl16 hBl).mono ?_
  · exact (line8a HL.out.1 hB5 (Nat.le_refl _) hk5).1
  · exact (line8a HL.out.1 hB5 (Nat.le_refl _) hk5).2
  rintro e w6 ⟨rfl, hb6⟩
  obtain ⟨hk6, hf6, hB6, hz6⟩ := chain8a hk5 hb6
  have hB6 := hB5.trans (hB6 _ (Nat.le_refl _))
  have hlo5 : w1.heap.size ≤ w5.heap.size := hB5.size
  have hne : w1.heap.size < w5.heap.size := by omega
  clear hb6 d0 d1 d2 d3 d4 d5 d6 d7 hg hk5 hB5
  obtain ⟨d0, d1, d2, d3, d4, d5, d6, d7, hg⟩ := eight hf6
  go_wp2_with fail
  refine (find_zero w1.heap.size ad n n B ls _ ?_ ?_ HL.out.2.1 hl16 hBl).mono ?_
  · exact (line8 HL.out.1 hB6 hlo5 hf6).1
  · exact (line8 HL.out.1 hB6 hlo5 hf6).2
  rintro e w7 ⟨rfl, hb7⟩
  obtain ⟨hf7, hB7, ho7, hz7⟩ := chain8 hf6 hb7
  have hk7 := (ho7 w1.heap.size (by omega) (by omega)).trans hk6
  have hB7 := hB6.trans (hB7 _ hlo5)
  clear hb7 d0 d1 d2 d3 d4 d5 d6 d7 hg hk6 hf6 hB6 ho7
  obtain ⟨d0, d1, d2, d3, d4, d5, d6, d7, hg⟩ := eight hf7
  obtain ⟨e0, e1, e2, e3, e4, e5, e6, e7, hg2⟩ := eight hk7
  have hL7 : Line w7 w1.heap.size ad ls := HL.out.1.below hB7
  have HW : Hid (Below w.heap.size w w7 ∧ Line w7 w1.heap.size ad ls) := ⟨HL.out.2.2.trans (hB7.mono HL.out.2.2.size), hL7⟩
  have HN : Hid (n = ls.length) := HL.out.2.1
  have HF : Hid (_) := hf7
  have hlo : w.heap.size ≤ w1.heap.size := HL.out.2.2.size
  clear hL7 HL hB7 hk7 hf7 hz7 hz6 hz5 hz4 hz3 hz2
  have hnx := nextN_le ls B hBl
  have hng := nextN_ge ls B
  have hcb := colN_le ls B
  have hcn := colN_le ls (nextN ls B)
  have hst := nextN_stop ls B hBl
  have hat := nextN_at ls B
  have HT : Hid ((nextN ls B < ls.length → stB (ls.getD (nextN ls B) 0) = false) ∧ (∀ i, B ≤ i → i < nextN ls B → stB (ls.getD i 0) = true)) := ⟨hst, hat⟩
  clear hst hat
  go_wp2
  clear d0 d1 d2 d3 d4 d5 d6 d7 hg e0 e1 e2 e3 e4 e5 e6 e7 hg2
  go_loopg [9] (nextN ls B) (fun g i wr => ∃ q : Nat, nextN ls B - q ≤ g ∧ B ≤ q ∧ q ≤ nextN ls B ∧ i = .int .i64 q ∧
    wr.heap[w5.heap.size]? = some (.cells #[.slice ad n n, .int .i64 B, .int .i64 (colN ls B), .int .i64 (nextN ls B), .int .i64 (colN ls (nextN ls B)), .int .i64 ((colN ls (nextN ls B) : Int) - colN ls B), .bool (decide (nextN ls B = ls.length)), .int .i64 0] 59 (0, 0)) ∧ Below w.heap.size w wr ∧ Line wr w1.heap.size ad ls)
  case atStart =>
    obtain ⟨s1, s2⟩ := store8 (.slice ad n n) (.int .i64 B) (.int .i64 (colN ls B)) (.int .i64 (nextN ls B)) (.int .i64 (colN ls (nextN ls B))) (.int .i64 ((colN ls (nextN ls B) : Int) - colN ls B)) (.bool (decide (nextN ls B = ls.length))) (.int .i64 0) HF.out
    exact ⟨B, Nat.sub_le _ _, Nat.le_refl _, hng, rfl, s1, HW.out.1.trans (s2.below (by omega)), HW.out.2.below (s2.below hlo5)⟩
  case round =>
    obtain ⟨q, hg, h1, h2, rfl, hF, hBl2, hLr⟩ := hrel
    obtain ⟨d0, d1, d2, d3, d4, d5, d6, d7, _⟩ := eight hF
    have hnl := HN.out
    have HR : Hid (Below w.heap.size w wr ∧ Line wr w1.heap.size ad ls) := ⟨hBl2, hLr⟩
    have HG : Hid (_) := hF
    clear hF hBl2 hLr
    by_cases hlt : q < n
    · obtain ⟨L, hL, rfl, hcl⟩ := HR.out.2 q (by omega)
      by_cases hq : q < nextN ls B
      · have hbl := HT.out.2 q h1 hq
        generalize ls.getD q 0 = ch at hcl hbl
        clear hnl
        clear d0 d1 d2 d3 d4 d5 d6 d7
        go_wp2_with (go_at_call 26; refine (spaceTab_any _ _).mono ?_; rintro e w' ⟨rfl, rfl⟩)
        go_roundg (nextN ls B - (q + 1))
        case measure => omega
        case rel => exact ⟨q + 1, by omega, by omega, by omega, by go_num, HG.out, HR.out.1, HR.out.2⟩
      · have hqx : q = nextN ls B := by omega
        subst hqx
        have hbl := HT.out.1 (by omega)
        have hbq : (((nextN ls B : Nat) : Int) == (n : Int)) = decide (nextN ls B = ls.length) := by rw [beq_nat, hnl]
        generalize ls.getD (nextN ls B) 0 = ch at hcl hbl
        have hLn := HR.out.2
        have HLn : Hid (Line wr w1.heap.size (some ⟨L, 0, none⟩) ls ∧ ls.length = n) := ⟨hLn, hnl.symm⟩
        clear hLn hnl
        go_wp2_with (first | (go_at_call 26; refine (spaceTab_any _ _).mono ?_; rintro e w' ⟨rfl, rfl⟩) | fail)
        refine (colOf_any w1.heap.size _ n n B ls _ hn HLn.out.2 hBn HLn.out.1).mono ?_
        rintro e w' ⟨rfl, rfl⟩
        go_wp2_with fail
        refine (colOf_any w1.heap.size _ n n (nextN ls B) ls _ hn HLn.out.2 (by have := HLn.out.2; omega) HLn.out.1).mono ?_
        rintro e w' ⟨rfl, rfl⟩
        go_wp2
        go_ret
        exact ⟨rfl, HR.out.1⟩
    · have hqx : q = nextN ls B := by omega
      subst hqx
      have hbq : (((nextN ls B : Nat) : Int) == (n : Int)) = decide (nextN ls B = ls.length) := by rw [beq_nat, hnl]
      have HLn : Hid (ls.length = n) := hnl.symm
      clear hnl
      go_wp2_with fail
      refine (colOf_any w1.heap.size _ n n B ls _ hn HLn.out hBn HR.out.2).mono ?_
      rintro e w' ⟨rfl, rfl⟩
      go_wp2_with fail
      refine (colOf_any w1.heap.size _ n n (nextN ls B) ls _ hn HLn.out (by have := HLn.out; omega) HR.out.2).mono ?_
      rintro e w' ⟨rfl, rfl⟩
      go_wp2
      go_ret
      exact ⟨rfl, HR.out.1⟩

end Go.Proofs.Qxb6002445a
