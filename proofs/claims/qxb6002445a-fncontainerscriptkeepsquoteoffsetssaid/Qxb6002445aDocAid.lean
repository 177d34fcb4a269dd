/-
  What the walk of FnContainerScriptKeepsQuoteOffsets carries from round to round.
-/
import Derived.Test.Qxb6002445aDocReads
import Derived.Deep.DeepCutAuto
import Derived.Deep.CutBlock
namespace Go.Proofs.Qxb6002445a
open Go.RowKit
set_option linter.unusedSimpArgs false
set_option linter.unusedVariables false

/-- The script's words lie in a block below 'lo' (or there are none). -/
def Words (w : World) (lo : Nat) (a : Option Addr) (ls : List Int) : Prop :=
  ∀ i, i < ls.length → ∃ B, B < lo ∧ a = some ⟨B, 0, none⟩ ∧ w.cell? ⟨B, i, none⟩ = some (.int .u32 (ls.getD i 0))

/-- What is known of a slice of words that came in. -/
def WordsIn (w : World) (a : Option Addr) (n c : Nat) (zs : List Int) : Prop :=
  (a = none ∧ n = 0 ∧ c = 0 ∧ zs = []) ∨ ∃ x, a = some x ∧ n ≤ zs.length ∧ ∀ i, i < zs.length → w.cell? (x.add i) = some (.int .u32 (zs.getD i 0))

theorem clone_words (a : Option Addr) (n c : Nat) (zs : List Int) (w : World) (hn : n ≤ 1024) (hR : WordsIn w a n c zs) :
    Calls Try.prog 14 #[.slice a n c] w fun e w' => ∃ ad, e = .returned (.slice ad n n) ∧ Words w' w'.heap.size ad (zs.take n) ∧ (zs.take n).length = n ∧ Below w.heap.size w w' := by
  rcases hR with ⟨rfl, rfl, rfl, rfl⟩ | ⟨x, rfl, hz, hc⟩
  · refine (cloneWords_nil w).mono ?_
    rintro e w' ⟨rfl, rfl⟩
    exact ⟨none, rfl, fun i h => absurd h (by simp), rfl, Below.refl _ _⟩
  · refine (cloneWords_some x n c zs w (by omega) hz hc).mono ?_
    rintro e w' ⟨rfl, M⟩
    refine ⟨_, rfl, fun i hi => ⟨w.heap.size, by have := M.size; omega, rfl, ?_⟩, by simp; omega, M.below⟩
    simp only [World.cell?, M.block]
    rw [List.getElem?_toArray, List.getElem?_map, List.getD, List.getElem?_eq_getElem hi]
    rfl

theorem Try.info4 : (Try.prog.info? 4).map (fun i => (i.zero, i.size, i.bytes)) = some (some (.bool false), 1, 1) := by kernel_rfl

theorem and_small (o m : Int) (M : Nat) (h0 : 0 ≤ o) (h1 : o < 4294967296) (hm : m = (M : Int)) (hM : M < 4294967296) : ∃ A : Nat, bits .and .u32 o m = (A : Int) ∧ A ≤ M := by
  subst hm
  obtain ⟨a, rfl⟩ := Int.eq_ofNat_of_zero_le h0
  exact ⟨a &&& M, u32_and_nat a M (by omega) hM, Nat.and_le_right⟩

/-- What holds at the head of each round. -/
structure LawRel (w : World) (D n : Nat) (ad : Option Addr) (ls : List Int) (ns : List Int) (ks : List Bool) (kd : ByteArray) (fl : Bool) (wr : World) : Prop where
  doc : Doc wr D (D + 3) ns ks kd fl
  kinds : wr.ownsRow (D + 1) 4 1 (.slice (some ⟨D + 1, 0, none⟩) ks.length n) ks.length (ks.map Value.bool)
  inds : wr.ownsRow (D + 2) 3 1 (.slice (some ⟨D + 2, 0, none⟩) ks.length n) ks.length (ns.map (Value.int .i64))
  words : Words wr D ad ls
  bel : Below w.heap.size w wr
  big : D + 3 ≤ wr.heap.size

theorem own_safe {w w' : World} {D base g : Nat} {e n cap : Nat} {xs : List Value} (h : w.ownsRow g e 1 (.slice (some ⟨g, 0, none⟩) n cap) n xs) (hS : Safe D base w w') (hg : g < base) (hne : g ≠ D) : w'.ownsRow g e 1 (.slice (some ⟨g, 0, none⟩) n cap) n xs := by
  obtain ⟨h1, h2⟩ := h
  refine ⟨h1, ?_⟩
  rcases h2 with ⟨h0, _⟩ | ⟨g', cap', cur, hv, hb, hh, r⟩
  · cases h0
  · cases hv
    exact .inr ⟨g, cap, cur, rfl, hb, (hS.block g hg hne).trans hh, r⟩

/-- The rows of the law's own behind a call that leaves all below D + 3 but D as it was. -/
theorem LawRel.safe {w wr w2 : World} {D n : Nat} {ad : Option Addr} {ls ns : List Int} {ks : List Bool} {kd : ByteArray} {fl : Bool} (R : LawRel w D n ad ls ns ks kd fl wr) (hw : w.heap.size ≤ D) (hS : Safe D (D + 3) wr w2) :
    w2.ownsRow (D + 1) 4 1 (.slice (some ⟨D + 1, 0, none⟩) ks.length n) ks.length (ks.map Value.bool) ∧ w2.ownsRow (D + 2) 3 1 (.slice (some ⟨D + 2, 0, none⟩) ks.length n) ks.length (ns.map (Value.int .i64)) ∧ Words w2 D ad ls ∧ Below w.heap.size w w2 ∧ D + 3 ≤ w2.heap.size := by
  refine ⟨own_safe R.kinds hS (by omega) (by omega), own_safe R.inds hS (by omega) (by omega), fun i hi => ?_, R.bel.trans ⟨hS.os, hS.tape, hS.output, hS.size, fun k hk => hS.block k (by omega) (by omega)⟩, Nat.le_trans R.big hS.size⟩
  obtain ⟨B, h1, h2, h3⟩ := R.words i hi
  refine ⟨B, h1, h2, ?_⟩
  rw [← h3]
  exact World.cell?_of_block (hS.block B (by omega) (by omega))

/-- .. and the two rows cut at d. -/
theorem LawRel.cutRows {w wr w2 : World} {D n : Nat} {ad : Option Addr} {ls ns : List Int} {ks : List Bool} {kd : ByteArray} {fl : Bool} (R : LawRel w D n ad ls ns ks kd fl wr) (hw : w.heap.size ≤ D) (hS : Safe D (D + 3) wr w2) (d : Nat) :
    w2.ownsRow (D + 1) 4 1 (.slice (some ⟨D + 1, 0, none⟩) (ks.take d).length n) (ks.take d).length ((ks.take d).map Value.bool) ∧ w2.ownsRow (D + 2) 3 1 (.slice (some ⟨D + 2, 0, none⟩) (ks.take d).length n) (ks.take d).length ((ns.take d).map (Value.int .i64)) ∧ Words w2 D ad ls ∧ Below w.heap.size w w2 ∧ D + 3 ≤ w2.heap.size := by
  obtain ⟨h1, h2, h3, h4, h5⟩ := R.safe hw hS
  have hl := R.doc.len
  have e1 : (ks.take d).length ≤ ks.length := by simp; omega
  have e2 : (ks.map Value.bool).take (ks.take d).length = (ks.take d).map Value.bool := by
    rw [List.length_take, ← List.map_take]
    congr 1
    rcases Nat.le_total d ks.length with h | h
    · rw [Nat.min_eq_left h]
    · rw [Nat.min_eq_right h, List.take_of_length_le (Nat.le_refl _), List.take_of_length_le h]
  have e3 : (ns.map (Value.int .i64)).take (ks.take d).length = (ns.take d).map (Value.int .i64) := by
    rw [List.length_take, ← List.map_take, ← hl]
    congr 1
    rcases Nat.le_total d ns.length with h | h
    · rw [Nat.min_eq_left h]
    · rw [Nat.min_eq_right h, List.take_of_length_le (Nat.le_refl _), List.take_of_length_le h]
  refine ⟨?_, ?_, h3, h4, h5⟩
  · have := own_cut h1 e1
    rw [e2] at this
    exact this
  · have := own_cut h2 e1
    rw [e3] at this
    exact this

theorem LawRel.cut {w wr w2 : World} {D n d : Nat} {ad : Option Addr} {ls ns : List Int} {ks : List Bool} {kd kd' : ByteArray} {fl fl' : Bool} (R : LawRel w D n ad ls ns ks kd fl wr) (hw : w.heap.size ≤ D) (hS : Safe D (D + 3) wr w2)
    (hdoc : Doc w2 D (D + 3) (ns.take d) (ks.take d) kd' fl') : LawRel w D n ad ls (ns.take d) (ks.take d) kd' fl' w2 := by
  obtain ⟨h1, h2, h3, h4, h5⟩ := R.cutRows hw hS d
  exact ⟨hdoc, h1, h2, h3, h4, h5⟩

theorem Doc.grow {w w' : World} {D base b : Nat} {ns : List Int} {ks : List Bool} {kd : ByteArray} {fl : Bool} (h : Doc w D base ns ks kd fl) (hg : w.grownBy w' (some b)) (hne : b ≠ D) (hb : b < base) : Doc w' D base ns ks kd fl := by
  obtain ⟨hD, hlen, vo, vq, hA, hvo, hvq⟩ := h
  refine ⟨hD, hlen, vo, vq, (hg.block D (lt_of_block hA) (fun e => hne (by simpa using e.symm))).trans hA, hvo.kept hg (.inr fun e => ?_), hvq.kept hg (.inr fun e => ?_)⟩
  · have := (hvo.lt b e).1; omega
  · have := (hvq.lt b e).1; omega

theorem one_bool (b : Bool) : ∀ u ∈ [Value.bool b], u.oneCell' = true := by
  intro u hu; simp at hu; subst hu; rfl

/-- Behind the two appends. -/
theorem LawRel.push {w w2 w3 w4 : World} {D n cut : Nat} {ad : Option Addr} {ls ms : List Int} {js : List Bool} {kd : ByteArray} {fl q : Bool} {I : Int} {o o' : Obj} (hw : w.heap.size ≤ D) (hcut : js.length = cut)
    (hdoc : Doc w2 D (D + 3) (ms ++ [I]) (js ++ [q]) kd fl) (hwd : Words w2 D ad ls) (hbel : Below w.heap.size w w2) (hbig : D + 3 ≤ w2.heap.size)
    (h3 : w3.ownsRow (D + 1) 4 1 (.slice (some ⟨D + 1, 0, none⟩) (cut + 1) n) (cut + 1) (js.map Value.bool ++ [.bool q])) (g3 : (w2.alloc o).grownBy w3 (some (D + 1)))
    (h4 : w4.ownsRow (D + 2) 3 1 (.slice (some ⟨D + 2, 0, none⟩) (cut + 1) n) (cut + 1) (ms.map (Value.int .i64) ++ [.int .i64 I])) (g4 : (w3.alloc o').grownBy w4 (some (D + 2))) :
    LawRel w D n ad ls (ms ++ [I]) (js ++ [q]) kd fl w4 := by
  have hb3 : Below w.heap.size w w3 := (hbel.alloc (by omega) o).grown g3 (by simp; omega) (fun k hk => by simp at hk; omega)
  have hz3 : D + 3 ≤ w3.heap.size := by have := g3.size; simp at this; omega
  have hb4 : Below w.heap.size w w4 := (hb3.alloc (by omega) o').grown g4 (by simp; omega) (fun k hk => by simp at hk; omega)
  have hz4 : D + 3 ≤ w4.heap.size := by have := g4.size; simp at this; omega
  have e : (js ++ [q]).length = cut + 1 := by simp [hcut]
  refine ⟨((((hdoc.alloc o).grow g3 (by omega) (by omega)).alloc o').grow g4 (by omega) (by omega)), ?_, ?_, ?_, hb4, hz4⟩
  · rw [e, List.map_append]
    exact (h3.alloc o').kept g4 (.inr (by simp [Value.ownBlock]))
  · rw [e, List.map_append]
    exact h4
  · intro i hi
    obtain ⟨B, x1, x2, x3⟩ := hwd i hi
    refine ⟨B, x1, x2, ?_⟩
    rw [← x3]
    have y1 : w4.heap[B]? = (w3.alloc o').heap[B]? := g4.block B (by simp; omega) (by simp; omega)
    have y2 : (w3.alloc o').heap[B]? = w3.heap[B]? := Below.heap_alloc _ _ _ (by omega)
    have y3 : w3.heap[B]? = (w2.alloc o).heap[B]? := g3.block B (by simp; omega) (by simp; omega)
    have y4 : (w2.alloc o).heap[B]? = w2.heap[B]? := Below.heap_alloc _ _ _ (by omega)
    exact World.cell?_of_block (y1.trans (y2.trans (y3.trans y4)))

theorem own_below {w w' : World} {base e : Nat} {v : Value} {n : Nat} {xs : List Value} (h : w.ownsRow base e 1 v n xs) (hb : Below w.heap.size w w') : w'.ownsRow base e 1 v n xs := by
  obtain ⟨h1, h2⟩ := h
  refine ⟨h1, ?_⟩
  rcases h2 with h2 | ⟨g, cap, cur, hv, hg, hh, r⟩
  · exact .inl h2
  · exact .inr ⟨g, cap, cur, hv, hg, (hb.block g (lt_of_block hh)).trans hh, r⟩

theorem Doc.below {w w' : World} {D base : Nat} {ns : List Int} {ks : List Bool} {kd : ByteArray} {fl : Bool} (h : Doc w D base ns ks kd fl) (hb : Below w.heap.size w w') : Doc w' D base ns ks kd fl := by
  obtain ⟨hD, hlen, vo, vq, hA, hvo, hvq⟩ := h
  exact ⟨hD, hlen, vo, vq, (hb.block D (lt_of_block hA)).trans hA, own_below hvo hb, own_below hvq hb⟩

theorem LawRel.below {w wr w2 : World} {D n : Nat} {ad : Option Addr} {ls ns : List Int} {ks : List Bool} {kd : ByteArray} {fl : Bool} (R : LawRel w D n ad ls ns ks kd fl wr) (hb : Below wr.heap.size wr w2) : LawRel w D n ad ls ns ks kd fl w2 := by
  refine ⟨R.doc.below hb, own_below R.kinds hb, own_below R.inds hb, fun i hi => ?_, R.bel.trans (hb.mono R.bel.size), Nat.le_trans R.big hb.size⟩
  obtain ⟨B, h1, h2, h3⟩ := R.words i hi
  have := R.big
  exact ⟨B, h1, h2, (hb.cell (p := ⟨B, i, none⟩) (by show B < _; omega)).trans h3⟩

theorem LawRel.drewN {w wr : World} {D n : Nat} {ad : Option Addr} {ls ns : List Int} {ks : List Bool} {kd : ByteArray} {fl : Bool} (R : LawRel w D n ad ls ns ks kd fl wr) (m : Nat) : LawRel w D n ad ls ns ks kd fl (wr.drewN m) :=
  R.below ⟨rfl, rfl, rfl, Nat.le_refl _, fun _ _ => rfl⟩

theorem posOf_next (ks : List Bool) (j : Nat) (hj : j < ks.length) :
    (ks.getD j false = true → posOf (ks.take (j + 1)) = posOf (ks.take j) ++ [j] ∧ (posOf ks)[(posOf (ks.take j)).length]? = some j) ∧ (ks.getD j false = false → posOf (ks.take (j + 1)) = posOf (ks.take j)) := by
  have e : ks.take (j + 1) = ks.take j ++ [ks.getD j false] := by
    rw [List.take_succ_eq_append_getElem hj]
    simp [List.getD, List.getElem?_eq_getElem hj]
  have hl : (ks.take j).length = j := by simp; omega
  refine ⟨fun h => ?_, fun h => ?_⟩
  · have e2 : posOf (ks.take (j + 1)) = posOf (ks.take j) ++ [j] := by rw [e, h, posOf_true, hl]
    refine ⟨e2, ?_⟩
    obtain ⟨R, hR, _, _⟩ := posOf_take ks (j + 1)
    rw [hR, e2]
    simp
  · rw [e, h, posOf_false]

/-- The cells of the two rows of the law's own. -/
theorem LawRel.cells {w wr : World} {D n : Nat} {ad : Option Addr} {ls ns : List Int} {ks : List Bool} {kd : ByteArray} {fl : Bool} (R : LawRel w D n ad ls ns ks kd fl wr) (j : Nat) (hj : j < ks.length) :
    wr.cell? ⟨D + 1, j, none⟩ = some (.bool (ks.getD j false)) ∧ wr.cell? ⟨D + 2, j, none⟩ = some (.int .i64 (ns.getD j 0)) := by
  have hl := R.doc.len
  refine ⟨?_, ?_⟩
  · rw [R.kinds.cellAt j (by omega)]
    simp [List.getElem?_eq_getElem hj]
  · rw [R.inds.cellAt j (by omega)]
    simp [List.getElem?_eq_getElem (show j < ns.length by omega)]

/-- The document as it lies, with the offsets' cells. -/
theorem LawRel.lies {w wr : World} {D n : Nat} {ad : Option Addr} {ls ns : List Int} {ks : List Bool} {kd : ByteArray} {fl : Bool} (R : LawRel w D n ad ls ns ks kd fl wr) :
    ∃ vo aq cq, DocAt wr D vo (.slice aq (posOf ks).length cq) kd fl ∧ ∀ (k q : Nat), (posOf ks)[k]? = some q → ∃ g, aq = some ⟨g, 0, none⟩ ∧ wr.cell? ⟨g, k, none⟩ = some (.int .i64 (q : Int)) := by
  obtain ⟨hD, hlen, vo, vq, hA, hvo, hvq⟩ := R.doc
  obtain ⟨aq, cq, rfl, _, _, haq⟩ := own_shape hvq
  refine ⟨vo, aq, cq, hA, fun k q hk => ?_⟩
  have hkl : k < (posOf ks).length := (List.getElem?_eq_some_iff.1 hk).1
  obtain ⟨g, h1, _, h3⟩ := haq (by omega)
  refine ⟨g, h1, ?_⟩
  rw [h3 k hkl]
  simp [qCells, hk]

/-- At the start: an empty stack. -/
theorem start_rel {w w1 : World} {n : Nat} {ad : Option Addr} {ls : List Int} (hn : n ≤ 1024) (hL : Words w1 w1.heap.size ad ls) (hb : Below w.heap.size w w1) :
    LawRel w w1.heap.size n ad ls [] [] ⟨#[]⟩ false (((w1.alloc (.cells (docCells (.slice none 0 0) (.slice none 0 0) ⟨#[]⟩ false) 45)).alloc (.cells (madeCells #[.bool false] n) 4)).alloc (.cells (madeCells #[.int .i64 0] n) 3)) := by
  have hz := hb.size
  have b1 : Below w1.heap.size w1 (((w1.alloc (.cells (docCells (.slice none 0 0) (.slice none 0 0) ⟨#[]⟩ false) 45)).alloc (.cells (madeCells #[.bool false] n) 4)).alloc (.cells (madeCells #[.int .i64 0] n) 3)) :=
    (((Below.refl _ _).alloc (Nat.le_refl _) _).alloc (by simp) _).alloc (by simp; omega) _
  have hm : n ≤ maxLen := by unfold maxLen; omega
  refine ⟨⟨by omega, rfl, .slice none 0 0, .slice none 0 0, ?_, World.ownsRow_nil _ _ _ _, World.ownsRow_nil _ _ _ _⟩, ?_, ?_, fun i hi => ?_, hb.trans (b1.mono hz), by simp⟩
  · show _ = _
    rw [Below.heap_alloc _ _ _ (by simp; omega), Below.heap_alloc _ _ _ (by simp)]
    exact heap_alloc_new _ _
  · have h := World.ownsRow_made (base := w1.heap.size + 1) (e := 4) (size := 1) (w1.alloc (.cells (docCells (.slice none 0 0) (.slice none 0 0) ⟨#[]⟩ false) 45)) (madeCells #[.bool false] n) n (by simp) hm (by simp [size_madeCells])
    simpa using h.alloc (.cells (madeCells #[.int .i64 0] n) 3)
  · have h := World.ownsRow_made (base := w1.heap.size + 2) (e := 3) (size := 1) ((w1.alloc (.cells (docCells (.slice none 0 0) (.slice none 0 0) ⟨#[]⟩ false) 45)).alloc (.cells (madeCells #[.bool false] n) 4)) (madeCells #[.int .i64 0] n) n (by simp) hm (by simp [size_madeCells])
    simpa using h
  · obtain ⟨B, h1, h2, h3⟩ := hL i hi
    exact ⟨B, h1, h2, (b1.cell (p := ⟨B, i, none⟩) h1).trans h3⟩

end Go.Proofs.Qxb6002445a
